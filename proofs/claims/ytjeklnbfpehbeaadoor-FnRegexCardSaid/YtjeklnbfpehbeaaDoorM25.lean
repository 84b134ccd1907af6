/- What the row's list of package-level variables gives the walks: the errors are laid, each at a place of its own, and the two ranges that stand for none. Condition: the list is met. From the reading of the row's first argument to what the walks read of it. Condition: the argument reads as a value of its type. -/
import Derived.Test.YtjeklnbfpehbeaaDoorRows
import Derived.Test.YtjeklnbfpehbeaaDoorM03
import Derived.Stop.LaidTwo
import Derived.LaidSub
import Derived.MakeChecks
import Derived.Test.YtjeklnbfpehbeaaDoorM17
import Derived.WalkKit
import Derived.ProofKit
import Derived.Deep.Slices
import Derived.ChangeSlices
set_option linter.unusedVariables false
/- What the row's list of package-level variables gives the walks: the errors are laid, each at a place of its own, and the two ranges that stand for none. Condition: the list is met. -/
namespace Go.Proofs.YtjeklnbfpehbeaaDoor
open Go.RowKit Go.ChangeShapes

theorem pair_of_laid {W : World} {name : String} {g : Nat} {t : TypeId} {k : IntKind} {f0 f1 : Field} {z0 z1 : Int} {r : List (String × DataW Unit)}
    (hg : Tryd.prog.globalNamed name = some g) (hty : (Tryd.prog.globals[g]?).map (·.type) = some t) (hs : Tryd.prog.underlying t = some (.struct #[f0, f1])) (hC : Tryd.prog.cellsOf t = 2)
    (ho0 : f0.offset = 0) (ho1 : f1.offset = 1) (hc0 : Tryd.prog.cellsOf f0.type = 1) (hc1 : Tryd.prog.cellsOf f1.type = 1) (h0 : Tryd.prog.underlying f0.type = some (.int k)) (h1 : Tryd.prog.underlying f1.type = some (.int k))
    (h : laidMet Tryd.prog ((name, .agg [.lit (.int k z0), .lit (.int k z1)]) :: r) W) : W.cell? ⟨g, 0, none⟩ = some (.int k z0) ∧ W.cell? ⟨g, 1, none⟩ = some (.int k z1) := by
  obtain ⟨ps, ⟨g', t', cs, fuel, p, q, hg', ht', hv, hd, _, _⟩, _, _⟩ := h
  obtain rfl := Option.some.inj (hg.symm.trans hg')
  obtain rfl := Option.some.inj (hty.symm.trans ht')
  obtain ⟨y0, y1, n, hx, hlen, k0, k1⟩ := trod_struct2 hs hd
  rw [ho0, hc0] at k0
  rw [ho1, hc1] at k1
  rw [hC] at hlen
  simp only [Prod.mk.injEq] at hx
  have hd' := (DataW.agg.inj hx.1)
  simp only [List.cons.injEq, and_true] at hd'
  obtain ⟨l⟩ := cs
  match l, hlen with
  | [a, b], _ =>
    obtain ⟨n0, e0, x0, _⟩ := DataW.trod_int h0 k0
    obtain ⟨n1, e1, x1, _⟩ := DataW.trod_int h1 k1
    simp at e0 e1
    subst e0
    subst e1
    have a0 := hd'.1
    have a1 := hd'.2
    rw [x0] at a0
    rw [x1] at a1
    simp at a0 a1
    have q0 := World.var?_cell hg hv 0
    have q1 := World.var?_cell hg hv 1
    rw [a0, a1]
    exact ⟨by simpa using q0, by simpa using q1⟩

def eN (i : Nat) : String := ["pub-traverser/pub/vellum/regexp.ErrNoLazy", "pub-traverser/pub/vellum/regexp.ErrNoEmpty", "pub-traverser/pub/vellum/regexp.ErrNoWordBoundary", "pub-traverser/pub/vellum/regexp.ErrCompiledTooBig", "pub-traverser/pub/vellum/regexp.ErrTooManyStates"].getD i ""
theorem star_err : "*errors.errorString" = "*" ++ "errors.errorString" := by decide
theorem row184 : ∀ u, Tryd.prog.typeName? 3 u = some "*errors.errorString" → u = 184 := fun u h =>
  typeName_ptr_named (nm := "errors.errorString") (by rw [← star_err]; kernel_rfl) (by kernel_rfl) (by decide) u (by rw [← star_err]; exact h)

/-- Two of the errors, by their names' filter: different pointers, at rows of their own. -/
theorem two_of_laid {W : World} (h : laidMet Tryd.prog Rows.fnRegexRow.laid W) (keep : String × DataW Unit → Bool) {n0 n1 : String} {x0 x1 : List UInt8} {g0 g1 : Nat} {r : List (String × DataW Unit)}
    (hf : Rows.fnRegexRow.laid.filter keep = (n0, .iface "*errors.errorString" (.ptr (.agg [.lit (.string x0)]))) :: (n1, .iface "*errors.errorString" (.ptr (.agg [.lit (.string x1)]))) :: r)
    (hg0 : Tryd.prog.globalNamed n0 = some g0) (ht0 : (Tryd.prog.globals[g0]?).map (·.type) = some 41) (hg1 : Tryd.prog.globalNamed n1 = some g1) (ht1 : (Tryd.prog.globals[g1]?).map (·.type) = some 41) :
    ∃ (a0 a1 : Addr), W.cell? ⟨g0, 0, none⟩ = some (.iface 184 (.pointer (some a0))) ∧ W.cell? ⟨g1, 0, none⟩ = some (.iface 184 (.pointer (some a1))) ∧ a0 ≠ a1 ∧ (∃ (c : Array Value) (t : TypeId), W.heap[a0.block]? = some (.cells c t (0, 0))) ∧ ∃ (c : Array Value) (t : TypeId), W.heap[a1.block]? = some (.cells c t (0, 0)) := by
  have h2 := h.filter keep
  rw [hf] at h2
  obtain ⟨a0, a1, s0, s1, c0, c1, t0, t1, hv0, hv1, _, _, _, _, _, _, hne, hb0, hb1⟩ := laid_sentinels2 h2 hg0 ht0 hg1 ht1 Tryd.underlying41 row184 Tryd.underlying184 Tryd.underlying186 rfl rfl Tryd.underlying9 (by kernel_rfl) (by kernel_rfl)
  exact ⟨a0, a1, by simpa using World.var?_cell hg0 hv0 0, by simpa using World.var?_cell hg1 hv1 0, hne, ⟨c0, t0, hb0⟩, ⟨c1, t1, hb1⟩⟩

def tx0 : List UInt8 := [108, 97, 122, 121, 32, 113, 117, 97, 110, 116, 105, 102, 105, 101, 114, 115, 32, 97, 114, 101, 32, 110, 111, 116, 32, 97, 108, 108, 111, 119, 101, 100]
def tx1 : List UInt8 := [122, 101, 114, 111, 32, 119, 105, 100, 116, 104, 32, 97, 115, 115, 101, 114, 116, 105, 111, 110, 115, 32, 110, 111, 116, 32, 97, 108, 108, 111, 119, 101, 100]
def tx2 : List UInt8 := [119, 111, 114, 100, 32, 98, 111, 117, 110, 100, 97, 114, 105, 101, 115, 32, 97, 114, 101, 32, 110, 111, 116, 32, 97, 108, 108, 111, 119, 101, 100]
def tx3 : List UInt8 := [116, 111, 111, 32, 109, 97, 110, 121, 32, 105, 110, 115, 116, 114, 117, 99, 116, 105, 111, 110, 115]
def tx4 : List UInt8 := [100, 102, 97, 32, 99, 111, 110, 116, 97, 105, 110, 115, 32, 109, 111, 114, 101, 32, 116, 104, 97, 110, 32, 49, 48, 48, 48, 48, 32, 115, 116, 97, 116, 101, 115]
theorem gn0 : Tryd.prog.globalNamed "pub-traverser/pub/vellum/regexp.ErrNoLazy" = some 0 := by kernel_rfl
theorem gn1 : Tryd.prog.globalNamed "pub-traverser/pub/vellum/regexp.ErrNoEmpty" = some 1 := by kernel_rfl
theorem gn2 : Tryd.prog.globalNamed "pub-traverser/pub/vellum/regexp.ErrNoWordBoundary" = some 2 := by kernel_rfl
theorem gn3 : Tryd.prog.globalNamed "pub-traverser/pub/vellum/regexp.ErrCompiledTooBig" = some 3 := by kernel_rfl
theorem gn4 : Tryd.prog.globalNamed "pub-traverser/pub/vellum/regexp.ErrTooManyStates" = some 4 := by kernel_rfl
theorem gt0 : (Tryd.prog.globals[0]?).map (·.type) = some 41 := by kernel_rfl
theorem gt1 : (Tryd.prog.globals[1]?).map (·.type) = some 41 := by kernel_rfl
theorem gt2 : (Tryd.prog.globals[2]?).map (·.type) = some 41 := by kernel_rfl
theorem gt3 : (Tryd.prog.globals[3]?).map (·.type) = some 41 := by kernel_rfl
theorem gt4 : (Tryd.prog.globals[4]?).map (·.type) = some 41 := by kernel_rfl

theorem two41 {W : World} (h : laidMet Tryd.prog Rows.fnRegexRow.laid W) : ∃ (a0 a1 : Addr), W.cell? ⟨4, 0, none⟩ = some (.iface 184 (.pointer (some a0))) ∧ W.cell? ⟨1, 0, none⟩ = some (.iface 184 (.pointer (some a1))) ∧ a0 ≠ a1 ∧ (∃ (c : Array Value) (t : TypeId), W.heap[a0.block]? = some (.cells c t (0, 0))) ∧ ∃ (c : Array Value) (t : TypeId), W.heap[a1.block]? = some (.cells c t (0, 0)) :=
  two_of_laid (x0 := tx4) (x1 := tx1) (r := []) h (fun x => x.1 == "pub-traverser/pub/vellum/regexp.ErrTooManyStates" || x.1 == "pub-traverser/pub/vellum/regexp.ErrNoEmpty") (by kernel_rfl) gn4 gt4 gn1 gt1
theorem two42 {W : World} (h : laidMet Tryd.prog Rows.fnRegexRow.laid W) : ∃ (a0 a1 : Addr), W.cell? ⟨4, 0, none⟩ = some (.iface 184 (.pointer (some a0))) ∧ W.cell? ⟨2, 0, none⟩ = some (.iface 184 (.pointer (some a1))) ∧ a0 ≠ a1 ∧ (∃ (c : Array Value) (t : TypeId), W.heap[a0.block]? = some (.cells c t (0, 0))) ∧ ∃ (c : Array Value) (t : TypeId), W.heap[a1.block]? = some (.cells c t (0, 0)) :=
  two_of_laid (x0 := tx4) (x1 := tx2) (r := []) h (fun x => x.1 == "pub-traverser/pub/vellum/regexp.ErrTooManyStates" || x.1 == "pub-traverser/pub/vellum/regexp.ErrNoWordBoundary") (by kernel_rfl) gn4 gt4 gn2 gt2
theorem two40 {W : World} (h : laidMet Tryd.prog Rows.fnRegexRow.laid W) : ∃ (a0 a1 : Addr), W.cell? ⟨4, 0, none⟩ = some (.iface 184 (.pointer (some a0))) ∧ W.cell? ⟨0, 0, none⟩ = some (.iface 184 (.pointer (some a1))) ∧ a0 ≠ a1 ∧ (∃ (c : Array Value) (t : TypeId), W.heap[a0.block]? = some (.cells c t (0, 0))) ∧ ∃ (c : Array Value) (t : TypeId), W.heap[a1.block]? = some (.cells c t (0, 0)) :=
  two_of_laid (x0 := tx4) (x1 := tx0) (r := []) h (fun x => x.1 == "pub-traverser/pub/vellum/regexp.ErrTooManyStates" || x.1 == "pub-traverser/pub/vellum/regexp.ErrNoLazy") (by kernel_rfl) gn4 gt4 gn0 gt0
theorem two43 {W : World} (h : laidMet Tryd.prog Rows.fnRegexRow.laid W) : ∃ (a0 a1 : Addr), W.cell? ⟨4, 0, none⟩ = some (.iface 184 (.pointer (some a0))) ∧ W.cell? ⟨3, 0, none⟩ = some (.iface 184 (.pointer (some a1))) ∧ a0 ≠ a1 ∧ (∃ (c : Array Value) (t : TypeId), W.heap[a0.block]? = some (.cells c t (0, 0))) ∧ ∃ (c : Array Value) (t : TypeId), W.heap[a1.block]? = some (.cells c t (0, 0)) :=
  two_of_laid (x0 := tx4) (x1 := tx3) (r := []) h (fun x => x.1 == "pub-traverser/pub/vellum/regexp.ErrTooManyStates" || x.1 == "pub-traverser/pub/vellum/regexp.ErrCompiledTooBig") (by kernel_rfl) gn4 gt4 gn3 gt3
theorem two12 {W : World} (h : laidMet Tryd.prog Rows.fnRegexRow.laid W) : ∃ (a0 a1 : Addr), W.cell? ⟨1, 0, none⟩ = some (.iface 184 (.pointer (some a0))) ∧ W.cell? ⟨2, 0, none⟩ = some (.iface 184 (.pointer (some a1))) ∧ a0 ≠ a1 ∧ (∃ (c : Array Value) (t : TypeId), W.heap[a0.block]? = some (.cells c t (0, 0))) ∧ ∃ (c : Array Value) (t : TypeId), W.heap[a1.block]? = some (.cells c t (0, 0)) :=
  two_of_laid (x0 := tx1) (x1 := tx2) (r := []) h (fun x => x.1 == "pub-traverser/pub/vellum/regexp.ErrNoEmpty" || x.1 == "pub-traverser/pub/vellum/regexp.ErrNoWordBoundary") (by kernel_rfl) gn1 gt1 gn2 gt2
theorem two10 {W : World} (h : laidMet Tryd.prog Rows.fnRegexRow.laid W) : ∃ (a0 a1 : Addr), W.cell? ⟨1, 0, none⟩ = some (.iface 184 (.pointer (some a0))) ∧ W.cell? ⟨0, 0, none⟩ = some (.iface 184 (.pointer (some a1))) ∧ a0 ≠ a1 ∧ (∃ (c : Array Value) (t : TypeId), W.heap[a0.block]? = some (.cells c t (0, 0))) ∧ ∃ (c : Array Value) (t : TypeId), W.heap[a1.block]? = some (.cells c t (0, 0)) :=
  two_of_laid (x0 := tx1) (x1 := tx0) (r := []) h (fun x => x.1 == "pub-traverser/pub/vellum/regexp.ErrNoEmpty" || x.1 == "pub-traverser/pub/vellum/regexp.ErrNoLazy") (by kernel_rfl) gn1 gt1 gn0 gt0
theorem two13 {W : World} (h : laidMet Tryd.prog Rows.fnRegexRow.laid W) : ∃ (a0 a1 : Addr), W.cell? ⟨1, 0, none⟩ = some (.iface 184 (.pointer (some a0))) ∧ W.cell? ⟨3, 0, none⟩ = some (.iface 184 (.pointer (some a1))) ∧ a0 ≠ a1 ∧ (∃ (c : Array Value) (t : TypeId), W.heap[a0.block]? = some (.cells c t (0, 0))) ∧ ∃ (c : Array Value) (t : TypeId), W.heap[a1.block]? = some (.cells c t (0, 0)) :=
  two_of_laid (x0 := tx1) (x1 := tx3) (r := []) h (fun x => x.1 == "pub-traverser/pub/vellum/regexp.ErrNoEmpty" || x.1 == "pub-traverser/pub/vellum/regexp.ErrCompiledTooBig") (by kernel_rfl) gn1 gt1 gn3 gt3
theorem two20 {W : World} (h : laidMet Tryd.prog Rows.fnRegexRow.laid W) : ∃ (a0 a1 : Addr), W.cell? ⟨2, 0, none⟩ = some (.iface 184 (.pointer (some a0))) ∧ W.cell? ⟨0, 0, none⟩ = some (.iface 184 (.pointer (some a1))) ∧ a0 ≠ a1 ∧ (∃ (c : Array Value) (t : TypeId), W.heap[a0.block]? = some (.cells c t (0, 0))) ∧ ∃ (c : Array Value) (t : TypeId), W.heap[a1.block]? = some (.cells c t (0, 0)) :=
  two_of_laid (x0 := tx2) (x1 := tx0) (r := []) h (fun x => x.1 == "pub-traverser/pub/vellum/regexp.ErrNoWordBoundary" || x.1 == "pub-traverser/pub/vellum/regexp.ErrNoLazy") (by kernel_rfl) gn2 gt2 gn0 gt0
theorem two23 {W : World} (h : laidMet Tryd.prog Rows.fnRegexRow.laid W) : ∃ (a0 a1 : Addr), W.cell? ⟨2, 0, none⟩ = some (.iface 184 (.pointer (some a0))) ∧ W.cell? ⟨3, 0, none⟩ = some (.iface 184 (.pointer (some a1))) ∧ a0 ≠ a1 ∧ (∃ (c : Array Value) (t : TypeId), W.heap[a0.block]? = some (.cells c t (0, 0))) ∧ ∃ (c : Array Value) (t : TypeId), W.heap[a1.block]? = some (.cells c t (0, 0)) :=
  two_of_laid (x0 := tx2) (x1 := tx3) (r := []) h (fun x => x.1 == "pub-traverser/pub/vellum/regexp.ErrNoWordBoundary" || x.1 == "pub-traverser/pub/vellum/regexp.ErrCompiledTooBig") (by kernel_rfl) gn2 gt2 gn3 gt3
theorem two03 {W : World} (h : laidMet Tryd.prog Rows.fnRegexRow.laid W) : ∃ (a0 a1 : Addr), W.cell? ⟨0, 0, none⟩ = some (.iface 184 (.pointer (some a0))) ∧ W.cell? ⟨3, 0, none⟩ = some (.iface 184 (.pointer (some a1))) ∧ a0 ≠ a1 ∧ (∃ (c : Array Value) (t : TypeId), W.heap[a0.block]? = some (.cells c t (0, 0))) ∧ ∃ (c : Array Value) (t : TypeId), W.heap[a1.block]? = some (.cells c t (0, 0)) :=
  two_of_laid (x0 := tx0) (x1 := tx3) (r := []) h (fun x => x.1 == "pub-traverser/pub/vellum/regexp.ErrNoLazy" || x.1 == "pub-traverser/pub/vellum/regexp.ErrCompiledTooBig") (by kernel_rfl) gn0 gt0 gn3 gt3

/-- The errors and the ranges, as the walks want them. -/
theorem sent_of {W : World} (h0 : laidMetH Tryd.prog Rows.fnRegexRow.laid W) : ∃ a, Sent W a ∧ Nils W := by
  rw [MakeChecks.laidMetH_plain _ _ _ (by kernel_rfl)] at h0
  obtain ⟨p41, q41, u41, v41, n41, s41, t41⟩ := two41 h0
  obtain ⟨p42, q42, u42, v42, n42, s42, t42⟩ := two42 h0
  obtain ⟨p40, q40, u40, v40, n40, s40, t40⟩ := two40 h0
  obtain ⟨p43, q43, u43, v43, n43, s43, t43⟩ := two43 h0
  obtain ⟨p12, q12, u12, v12, n12, s12, t12⟩ := two12 h0
  obtain ⟨p10, q10, u10, v10, n10, s10, t10⟩ := two10 h0
  obtain ⟨p13, q13, u13, v13, n13, s13, t13⟩ := two13 h0
  obtain ⟨p20, q20, u20, v20, n20, s20, t20⟩ := two20 h0
  obtain ⟨p23, q23, u23, v23, n23, s23, t23⟩ := two23 h0
  obtain ⟨p03, q03, u03, v03, n03, s03, t03⟩ := two03 h0
  obtain rfl : p41 = p42 := by have := u41.symm.trans u42; simpa using this
  obtain rfl : p41 = p40 := by have := u41.symm.trans u40; simpa using this
  obtain rfl : p41 = p43 := by have := u41.symm.trans u43; simpa using this
  obtain rfl : q41 = p12 := by have := v41.symm.trans u12; simpa using this
  obtain rfl : q42 = q12 := by have := v42.symm.trans v12; simpa using this
  obtain rfl : q41 = p10 := by have := v41.symm.trans u10; simpa using this
  obtain rfl : q40 = q10 := by have := v40.symm.trans v10; simpa using this
  obtain rfl : q41 = p13 := by have := v41.symm.trans u13; simpa using this
  obtain rfl : q43 = q13 := by have := v43.symm.trans v13; simpa using this
  obtain rfl : q42 = p20 := by have := v42.symm.trans u20; simpa using this
  obtain rfl : q40 = q20 := by have := v40.symm.trans v20; simpa using this
  obtain rfl : q42 = p23 := by have := v42.symm.trans u23; simpa using this
  obtain rfl : q43 = q23 := by have := v43.symm.trans v23; simpa using this
  obtain rfl : q40 = p03 := by have := v40.symm.trans u03; simpa using this
  obtain rfl : q43 = q03 := by have := v43.symm.trans v03; simpa using this
  have hn0 := pair_of_laid (g := 9) (t := 168) (by kernel_rfl) (by kernel_rfl) Tryd.underlying168 (by kernel_rfl) rfl rfl (by kernel_rfl) (by kernel_rfl) Tryd.underlying5 Tryd.underlying5 (show laidMet Tryd.prog (("pub-traverser/pub/vellum/utf8.nilRange", .agg [.lit (.int .u8 255), .lit (.int .u8 0)]) :: Rows.fnRegexRow.laid.tail) W from h0)
  have hn1 := pair_of_laid (g := 8) (t := 160) (by kernel_rfl) (by kernel_rfl) Tryd.underlying160 (by kernel_rfl) rfl rfl (by kernel_rfl) (by kernel_rfl) Tryd.underlying21 Tryd.underlying21 (show laidMet Tryd.prog (("pub-traverser/pub/vellum/utf8.nilScalarRange", .agg [.lit (.int .i32 65535), .lit (.int .i32 0)]) :: Rows.fnRegexRow.laid.tail.tail) W from h0.tail)
  refine ⟨fun i => [q40, q41, q42, q43, p41].getD i q40, ⟨fun i hi => ?_, fun i hi => ?_, fun i j hi hj hij => ?_⟩, ⟨hn1.1, hn1.2, hn0.1, hn0.2⟩⟩
  · have h5 : i = 0 ∨ i = 1 ∨ i = 2 ∨ i = 3 ∨ i = 4 := by omega
    rcases h5 with rfl | rfl | rfl | rfl | rfl
    · exact v40
    · exact v41
    · exact v42
    · exact v43
    · exact u41
  · have h5 : i = 0 ∨ i = 1 ∨ i = 2 ∨ i = 3 ∨ i = 4 := by omega
    rcases h5 with rfl | rfl | rfl | rfl | rfl
    · exact t40
    · exact t41
    · exact t42
    · exact t43
    · exact s41
  · have h5 : i = 0 ∨ i = 1 ∨ i = 2 ∨ i = 3 ∨ i = 4 := by omega
    have h6 : j = 0 ∨ j = 1 ∨ j = 2 ∨ j = 3 ∨ j = 4 := by omega
    rcases h5 with rfl | rfl | rfl | rfl | rfl <;> rcases h6 with rfl | rfl | rfl | rfl | rfl
    · exact absurd rfl hij
    · exact Ne.symm n10
    · exact Ne.symm n20
    · exact n03
    · exact Ne.symm n40
    · exact n10
    · exact absurd rfl hij
    · exact n12
    · exact n13
    · exact Ne.symm n41
    · exact n20
    · exact Ne.symm n12
    · exact absurd rfl hij
    · exact n23
    · exact Ne.symm n42
    · exact Ne.symm n03
    · exact Ne.symm n13
    · exact Ne.symm n23
    · exact absurd rfl hij
    · exact Ne.symm n43
    · exact n40
    · exact n41
    · exact n42
    · exact n43
    · exact absurd rfl hij
end Go.Proofs.YtjeklnbfpehbeaaDoor

/- From the reading of the row's first argument to what the walks read of it. Condition: the argument reads as a value of its type. -/
namespace Go.Proofs.YtjeklnbfpehbeaaDoor
open Go.RowKit Go.ChangeShapes Go.Deep

theorem spot_none {w : World} {a : Addr} {v : Value} (h : w.cell? a = some v) : a.spot = none := by
  unfold World.cell? at h
  split at h
  · cases hs : a.spot with
    | none => rfl
    | some s => rw [hs] at h; simp at h
  · cases h
theorem add_form {a : Addr} (h : a.spot = none) (n : Nat) : a.add n = ⟨a.block, a.off + n, none⟩ := by
  unfold Addr.add
  split
  · rename_i e; subst e; cases a; simp_all
  · rfl

section
variable {H : Type} {enc : TypeId × Value → H} {W : World} {spare : Nat → Bool} {held : Bool}
theorem rawR_of {fuel : Nat} {cs : List Value} {x : DataW H × List MemPlace} (h : DataW.trod enc Tryd.prog W 0 spare held fuel 22 cs = some x) : ∃ A n c, cs = [.slice A n c] ∧ RawR W (.slice A n c) n := by
  rcases open_ints Tryd.underlying22 Tryd.underlying21 (by kernel_rfl) h with ⟨rfl, -⟩ | ⟨a, len, cap, zs, rfl, -, hlc, -, hz, -, hc, -⟩
  · exact ⟨none, 0, 0, rfl, none, 0, rfl, fun i hi => by omega⟩
  · have hle : len ≤ zs.length := by rw [hz]; split <;> omega
    refine ⟨some a, len, cap, rfl, some a, cap, rfl, fun i hi => ?_⟩
    have h0 := hc 0 (by omega)
    have hs : a.spot = none := spot_none (by simpa [Addr.add] using h0)
    have h1 := hc i (by omega)
    rw [add_form hs] at h1
    exact ⟨a.block, a.off, _, by cases a; simp_all, h1⟩

set_option maxRecDepth 100000 in
theorem regex_fields {fuel : Nat} {cs : List Value} {x : DataW H × List MemPlace} (h : DataW.trod enc Tryd.prog W 0 spare held fuel 25 cs = some x) :
    ∃ (n : Nat) (z mn mx : Int) (la fo : Bool) (rA : Option Addr) (rn rc : Nat) (c6 : Value) (y6 : DataW H × List MemPlace), cs = [.int .i64 z, .slice rA rn rc, .int .i64 mn, .int .i64 mx, .bool la, .bool fo, c6] ∧ RawR W (.slice rA rn rc) rn ∧ DataW.trod enc Tryd.prog W 0 spare held n 23 [c6] = some y6 := by
  obtain ⟨xs, n, -, -, hl, hlen, hf⟩ := DataW.trod_struct Tryd.underlying25 h
  have h7 : Tryd.prog.cellsOf 25 = 7 := by kernel_rfl
  rw [h7] at hl
  have c3 : Tryd.prog.cellsOf 3 = 1 := by kernel_rfl
  have c4 : Tryd.prog.cellsOf 4 = 1 := by kernel_rfl
  have c22 : Tryd.prog.cellsOf 22 = 1 := by kernel_rfl
  have c23 : Tryd.prog.cellsOf 23 = 1 := by kernel_rfl
  match cs, hl with
  | [v0, v1, v2, v3, v4, v5, v6], _ =>
    have get : ∀ i, i < 7 → ∃ y, xs[i]? = some y := fun i hi => ⟨_, List.getElem?_eq_getElem (by rw [hlen]; exact hi)⟩
    obtain ⟨y0, g0⟩ := get 0 (by decide)
    obtain ⟨y1, g1⟩ := get 1 (by decide)
    obtain ⟨y2, g2⟩ := get 2 (by decide)
    obtain ⟨y3, g3⟩ := get 3 (by decide)
    obtain ⟨y4, g4⟩ := get 4 (by decide)
    obtain ⟨y5, g5⟩ := get 5 (by decide)
    obtain ⟨y6, g6⟩ := get 6 (by decide)
    have k0 : DataW.trod enc Tryd.prog W 0 spare held n 3 [v0] = some y0 := by
      have h := (hf 0 _ rfl).trans g0
      simpa [c3] using h
    have k1 : DataW.trod enc Tryd.prog W 0 spare held n 22 [v1] = some y1 := by
      have h := (hf 1 _ rfl).trans g1
      simpa [c22] using h
    have k2 : DataW.trod enc Tryd.prog W 0 spare held n 3 [v2] = some y2 := by
      have h := (hf 2 _ rfl).trans g2
      simpa [c3] using h
    have k3 : DataW.trod enc Tryd.prog W 0 spare held n 3 [v3] = some y3 := by
      have h := (hf 3 _ rfl).trans g3
      simpa [c3] using h
    have k4 : DataW.trod enc Tryd.prog W 0 spare held n 4 [v4] = some y4 := by
      have h := (hf 4 _ rfl).trans g4
      simpa [c4] using h
    have k5 : DataW.trod enc Tryd.prog W 0 spare held n 4 [v5] = some y5 := by
      have h := (hf 5 _ rfl).trans g5
      simpa [c4] using h
    have k6 : DataW.trod enc Tryd.prog W 0 spare held n 23 [v6] = some y6 := by
      have h := (hf 6 _ rfl).trans g6
      simpa [c23] using h
    obtain ⟨n0, e0, -, -⟩ := DataW.trod_int Tryd.underlying3 k0
    obtain ⟨rA, rn, rc, e1, hr⟩ := rawR_of k1
    obtain ⟨n2, e2, -, -⟩ := DataW.trod_int Tryd.underlying3 k2
    obtain ⟨n3, e3, -, -⟩ := DataW.trod_int Tryd.underlying3 k3
    obtain ⟨b4, e4, -⟩ := DataW.trod_bool Tryd.underlying4 k4
    obtain ⟨b5, e5, -⟩ := DataW.trod_bool Tryd.underlying4 k5
    simp at e0 e1 e2 e3 e4 e5
    subst e0 e1 e2 e3 e4 e5
    exact ⟨n, n0, n2, n3, b4, b5, rA, rn, rc, v6, y6, rfl, hr, k6⟩
theorem rawE_of : ∀ (d fuel : Nat) (cs : List Value) (x : DataW H × List MemPlace), DataW.trod enc Tryd.prog W 0 spare held fuel 25 cs = some x → RawE W d (.agg cs.toArray) := by
  have c25 : Tryd.prog.cellsOf 25 = 7 := by kernel_rfl
  intro d
  induction d with
  | zero =>
    intro fuel cs x h
    obtain ⟨n, z, mn, mx, la, fo, rA, rn, rc, c6, y6, rfl, hr, k6⟩ := regex_fields h
    rcases open_slice Tryd.underlying23 k6 with ⟨e, -⟩ | ⟨a, len, cap, m, n', D, Pl, e, -, hlc, -, hm, -, hel⟩
    · simp at e
      subst e
      exact .mk (fun _ => []) hr (fun i hi => by omega) (fun i d' hi _ => by omega)
    · simp at e
      subst e
      rw [c25] at hel
      have hle : len ≤ m := by rw [hm]; split <;> omega
      refine .mk (fun i => (W.cells? 0 (a.add (i * 7)) 7).getD []) hr (fun i hi => ?_) (fun i d' _ e => by omega)
      obtain ⟨cs0, h0, -⟩ := hel 0 (by omega)
      have q0 := World.cells?_some h0
      have hs : a.spot = none := by
        have h1 := q0.2.2 0 (by decide)
        obtain ⟨u, hu⟩ : ∃ u, cs0[0]? = some u := ⟨_, List.getElem?_eq_getElem (by rw [q0.2.1]; decide)⟩
        rw [hu] at h1
        exact spot_none (by simpa [Addr.add] using h1)
      obtain ⟨cs1, h1, -⟩ := hel i (by omega)
      have q1 := World.cells?_some h1
      refine ⟨a.block, a.off, by cases a; simp_all, by rw [h1]; exact q1.2.1, fun j u hj => ?_⟩
      rw [h1] at hj
      have hjl : j < 7 := by have := (List.getElem?_eq_some_iff.1 hj).1; rw [Option.getD_some, q1.2.1] at this; exact this
      have h2 := q1.2.2 j hjl
      rw [add_form hs] at h2
      rw [add_form rfl] at h2
      rw [h2]
      exact hj
  | succ d ih =>
    intro fuel cs x h
    obtain ⟨n, z, mn, mx, la, fo, rA, rn, rc, c6, y6, rfl, hr, k6⟩ := regex_fields h
    rcases open_slice Tryd.underlying23 k6 with ⟨e, -⟩ | ⟨a, len, cap, m, n', D, Pl, e, -, hlc, -, hm, -, hel⟩
    · simp at e
      subst e
      exact .mk (fun _ => []) hr (fun i hi => by omega) (fun i d' hi _ => by omega)
    · simp at e
      subst e
      rw [c25] at hel
      have hle : len ≤ m := by rw [hm]; split <;> omega
      refine .mk (fun i => (W.cells? 0 (a.add (i * 7)) 7).getD []) hr (fun i hi => ?_) (fun i d' hi e => ?_)
      · obtain ⟨cs0, h0, -⟩ := hel 0 (by omega)
        have q0 := World.cells?_some h0
        have hs : a.spot = none := by
          have h1 := q0.2.2 0 (by decide)
          obtain ⟨u, hu⟩ : ∃ u, cs0[0]? = some u := ⟨_, List.getElem?_eq_getElem (by rw [q0.2.1]; decide)⟩
          rw [hu] at h1
          exact spot_none (by simpa [Addr.add] using h1)
        obtain ⟨cs1, h1, -⟩ := hel i (by omega)
        have q1 := World.cells?_some h1
        refine ⟨a.block, a.off, by cases a; simp_all, by rw [h1]; exact q1.2.1, fun j u hj => ?_⟩
        rw [h1] at hj
        have hjl : j < 7 := by have := (List.getElem?_eq_some_iff.1 hj).1; rw [Option.getD_some, q1.2.1] at this; exact this
        have h2 := q1.2.2 j hjl
        rw [add_form hs] at h2
        rw [add_form rfl] at h2
        rw [h2]
        exact hj
      · obtain rfl : d' = d := by omega
        obtain ⟨cs1, h1, h2⟩ := hel i (by omega)
        rw [h1]
        exact ih _ _ _ h2
end
end Go.Proofs.YtjeklnbfpehbeaaDoor
