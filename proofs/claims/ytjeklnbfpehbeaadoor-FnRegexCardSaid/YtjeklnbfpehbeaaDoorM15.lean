/- The compiler of package regexp, walked whole: a tree becomes its instructions and the match. Condition: the tree is right, its instructions fewer than 190000. The walk of NewParsedWithLimit of package regexp: a tree becomes an automaton, or the error of too many states. Condition: the tree is right, its program fewer than 190000 instructions. Expressions as values of package impl. No condition. The walk of 'tree' of package impl: an expression's value becomes Go's own tree. Condition: at most 100000 runes and 1000 parts at each node. The walk of RegexPath of package impl: an expression's automaton along a text, or the refusal. Condition: the expression is right, its program fewer than 190000 instructions, the text at most 10^6 bytes. Pieces of a program and the words that lead through them, in plain lists. No condition. The words of an expression, and that its program's runs read just these, in plain lists. Condition: the expression is right. What the automaton of an expression says behind each beginning of a text: whether it is a word, whether it is the beginning of one. Condition: the expression is right. Small expressions have small automata: at most six places that are kept, so at most 1957 lists of them. Condition: at most five ranges of bytes. An expression of few levels has few instructions: at most four times its places and some more. Condition: each node has at most three parts and repeats at most five times. Small functions of the law's own side, walked: Valid, Encoded, Times. Condition: the runes have bytes. Encoded of the law's own side at runes of three and four bytes, walked. Condition: the rune has bytes. Sets of places as slices of bools; 'none' and 'in' of the law's own side, walked. Condition: at most 10^6 places. Sets of places: a copy, and 'either' of the law's own side, walked. Condition: at most 10^6 places, and one at least. 'Ranges' and 'places' of the law's own side, walked. Condition: the expression is right, and of fewer than 10^12 places. -/
import Derived.Test.YtjeklnbfpehbeaaDoorM12
import Derived.Test.YtjeklnbfpehbeaaDoorM14
import Derived.Test.YtjeklnbfpehbeaaDoorM02
import Derived.Test.YtjeklnbfpehbeaaDoorM03
import Derived.Test.YtjeklnbfpehbeaaDoorM09
import Derived.Test.YtjeklnbfpehbeaaDoorM07
import Derived.Laws.AppendOwnNone
import Derived.Deep.AppendLies
import Derived.Laws.BytesArg
set_option linter.unusedVariables false
/- The compiler of package regexp, walked whole: a tree becomes its instructions and the match. Condition: the tree is right, its instructions fewer than 190000. -/
namespace Go.Proofs.YtjeklnbfpehbeaaDoor
open Go.RowKit

/-- '(*compiler).c' at any tree. -/
theorem c_calls (B cb : Nat) (r : RE) : WfR r → CC B cb r := by
  refine RE.ind (P := fun r => WfR r → CC B cb r) ?_ ?_ ?_ ?_ ?_ ?_ ?_ ?_ ?_ ?_ ?_ ?_ r
  · intro _; exact c_emp B cb
  · intro rs h; exact c_lit B cb rs h
  · intro l h; exact c_cls B cb l h
  · intro _; exact c_any B cb
  · intro _; exact c_anyNl B cb
  · intro l ih h
    simp only [WfR] at h
    exact c_cat B cb l h.1 (fun r hr => ih r hr (WfL_mem h.2 r hr))
  · intro l ih h
    simp only [WfR] at h
    exact c_alt B cb l h.1 h.2.1 (fun r hr => ih r hr (WfL_mem h.2.2 r hr))
  · intro r ih h; simp only [WfR] at h; exact c_star B cb r (ih h)
  · intro r ih h; simp only [WfR] at h; exact c_plus B cb r (ih h)
  · intro r ih h; simp only [WfR] at h; exact c_quest B cb r (ih h)
  · intro mn mx r ih h
    simp only [WfR] at h
    cases mx with
    | none => exact c_repN B cb mn r h.1 (ih h.2.2)
    | some m => exact c_repS B cb mn m r (h.2.1 m rfl).2 (h.2.1 m rfl).1 (ih h.2.2)
  · intro r ih h; simp only [WfR] at h; exact c_cap B cb r (ih h)

theorem mtch_cells : Ins.mtch.cells = Ins.mtch.cells.set 0 (.int .i64 0) := rfl

set_option maxRecDepth 100000 in
set_option maxHeartbeats 8000000 in
theorem compile_calls {w : World} {B cb nb : Nat} {r : RE} (h : Cp w B cb []) (hwf : WfR r) (hn : NodeAt w r nb) (hB : B ≤ w.heap.size) (hl : clen r ≤ 190000) :
    Calls Tryd.prog 28 #[.pointer (some ⟨cb, 0, none⟩), .pointer (some ⟨nb, 0, none⟩)] w fun e w' => ∃ q3 q4 q5 q6 pv pl ps, e = .returned (.tuple #[pv, .nilIface]) ∧ CB w' B cb q3 q4 q5 q6 (clen r + 1) (code r 0 ++ [.mtch]) pv pl ps ∧ Fr (KT w B) w w' := by
  have hc := c_calls B cb r hwf w [] nb h hn hB (by simp; omega)
  clear h hn
  obtain ⟨D, hD⟩ : ∃ D, Hid (D = code r 0) := ⟨_, Lib.hid rfl⟩
  have hDl : D.length = clen r := by rw [hD.out, clen_eq]
  simp only [List.nil_append, List.length_nil] at hc
  rw [← hD.out] at hc ⊢
  rw [← hDl] at hl ⊢
  clear hDl
  go_enter Tryd.func28, Tryd.ntmps28
  go_wp2_with fail
  refine hc.mono ?_
  rintro e w1 ⟨rfl, h1, hF1⟩
  clear hc
  have hB1 : B ≤ w1.heap.size := Nat.le_trans hB hF1.size
  obtain ⟨q3, q4, sb, eb, ⟨pv, pl, ps, h⟩, hbf⟩ := h1
  have hal := alloc_calls h hB1
  have HH := Lib.hid (And.intro h hF1)
  clear h hF1 hbf
  go_wp2_with fail
  refine hal.mono ?_
  rintro e w2 ⟨g, k, pl', rfl, h1, hF1⟩
  have hps : (ps ++ [(g, k)])[D.length]? = some (g, k) := by rw [← HH.out.1.len]; simp
  have hpx : (D ++ [Ins.mtch])[D.length]? = some .mtch := by simp
  have h2 := h1.setAt hps hpx (by decide) mtch_cells
  rw [set_last] at h2
  have hsx := (h1.at_ _ _ _ hps hpx).1
  have c0 : w2.cell? ⟨g, 6 * k, none⟩ = some (.int .i64 0) := hsx.cell 0 (.int .i64 0) rfl
  have f0 : w2.frozen? ⟨g, 6 * k, none⟩ = false := hsx.frz (6 * k)
  have hF2 : Fr (CT w2 B) w2 (w2.setCell ⟨g, 6 * k, none⟩ (.int .i64 0)) := Fr.setCell (Fr.refl _ w2) (fun _ => h1.ct_pool hps hpx) _
  simp only [Nat.add_zero] at h2
  have hbk := h2.hb
  have b1 := hbk.cell 1 rfl
  have hBs : B ≤ (w2.setCell ⟨g, 6 * k, none⟩ (.int .i64 0)).heap.size := Nat.le_trans hB1 (Nat.le_trans hF1.size hF2.size)
  have hown := h2.own
  have H2 := Lib.hid (And.intro h2 (And.intro hF2 (And.intro hF1 (And.intro hps h1.ct))))
  clear h1 h2 hF1 hF2 hps hpx hsx hal
  go_wp2_with (first
    | (at_builtin; refine app1b (w2.setCell ⟨g, 6 * k, none⟩ (.int .i64 0)) w2.heap.size (size_setCell _ _ _) rfl _ _ 60 rfl B 101 (.pointer none) 1 8 Tryd.underlying60 (by kernel_rfl) rfl (by decide) pv D.length _ [.pointer (some ⟨g, 6 * k, none⟩)] rfl rfl hown rfl (by simp [Value.oneCell']) (by omega) (by decide) hBs ?_; intro pv' w3 ho2 hf2 hn2; obtain ⟨g2, c2, rfl⟩ := own_slc ho2; have hbk2 := hbk.fr hf2 (own_ne_blk hown hbk (by decide)); have b2 := hbk2.cell 1 rfl; have fb2 := hbk2.frz 1)
    | fail)
  go_ret2
  obtain ⟨h2, hF2, hF1, hps, hct⟩ := H2.out
  obtain ⟨h3, hF3⟩ := h2.push hps ho2 hf2
  refine ⟨_, _, _, _, _, _, _, rfl, h3, ?_⟩
  exact kt_trans HH.out.2 (ct_kt (ct_trans (ct_trans (hF1.mono (fun k _ hk => by subst hk; exact HH.out.1.ct)) hF2) hF3))

/-- The program in memory, as the builder takes it. -/
theorem CB.prg {w : World} {B cb : Nat} {q3 q4 q5 q6 : Value} {p : List Ins} {pv pl : Value} {ps : List (Nat × Nat)} (h : CB w B cb q3 q4 q5 q6 p.length p pv pl ps) (hp : 0 < p.length) (hwf : WfP p) : Prg w pv p w.heap.size := by
  obtain ⟨n, hn⟩ : ∃ n, p.length = n + 1 := ⟨p.length - 1, by omega⟩
  obtain ⟨x0, hx0⟩ : ∃ x, p[0]? = some x := ⟨_, List.getElem?_eq_getElem hp⟩
  obtain ⟨g0, k0, pa, c, -, hpv, hc0, -⟩ := cm_get h hx0
  refine ⟨⟨pa, c, hpv, World.block_lt_of_cell? w _ hc0, fun i x hx => ?_⟩, hwf⟩
  obtain ⟨g, k, a, c', hs, hpv', hc, hi⟩ := cm_get h hx
  rw [hpv] at hpv'
  simp at hpv'
  obtain ⟨rfl, rfl⟩ := hpv'
  exact ⟨g, 6 * k, hi.lt, hc, fun j v hj => hi.cell j v hj⟩

theorem newc_done {w : World} (hn : Nils w) (h9 : 9 < w.heap.size) (sb eb : Nat) (h : (sb = w.heap.size ∧ eb = w.heap.size + 1) ∨ (sb = w.heap.size + 1 ∧ eb = w.heap.size)) :
    Cp (((w.alloc (.cells (u8s [0, 0, 0, 0]).toArray 5)).alloc (.cells (u8s [0, 0, 0, 0]).toArray 5)).alloc (.cells #[.int .u64 10485760, .slice none 0 0, .slice none 0 0, .slice none 0 0, .slice none 0 0, .slice (some ⟨sb, 0, none⟩) 4 4, .slice (some ⟨eb, 0, none⟩) 4 4] 99)).drew w.heap.size (w.heap.size + 1 + 1) [] := by
  have hF := ((((Fr.refl (fun _ => False) w).alloc (.cells (u8s [0, 0, 0, 0]).toArray 5)).alloc (.cells (u8s [0, 0, 0, 0]).toArray 5)).alloc (.cells #[.int .u64 10485760, .slice none 0 0, .slice none 0 0, .slice none 0 0, .slice none 0 0, .slice (some ⟨sb, 0, none⟩) 4 4, .slice (some ⟨eb, 0, none⟩) 4 4] 99)).drew
  have b1 := Blk.drew (((Blk.new w (u8s [0, 0, 0, 0]) 5).alloc (.cells (u8s [0, 0, 0, 0]).toArray 5)).alloc (.cells #[.int .u64 10485760, .slice none 0 0, .slice none 0 0, .slice none 0 0, .slice none 0 0, .slice (some ⟨sb, 0, none⟩) 4 4, .slice (some ⟨eb, 0, none⟩) 4 4] 99))
  have b2 := Blk.drew ((Blk.newAt (w.alloc (.cells (u8s [0, 0, 0, 0]).toArray 5)) (u8s [0, 0, 0, 0]) 5 (w.heap.size + 1) (by simp)).alloc (.cells #[.int .u64 10485760, .slice none 0 0, .slice none 0 0, .slice none 0 0, .slice none 0 0, .slice (some ⟨sb, 0, none⟩) 4 4, .slice (some ⟨eb, 0, none⟩) 4 4] 99))
  have b3 := Blk.drew (Blk.newAt ((w.alloc (.cells (u8s [0, 0, 0, 0]).toArray 5)).alloc (.cells (u8s [0, 0, 0, 0]).toArray 5)) [.int .u64 10485760, .slice none 0 0, .slice none 0 0, .slice none 0 0, .slice none 0 0, .slice (some ⟨sb, 0, none⟩) 4 4, .slice (some ⟨eb, 0, none⟩) 4 4] 99 (w.heap.size + 1 + 1) (by simp))
  refine ⟨.slice none 0 0, .slice none 0 0, sb, eb, ⟨.slice none 0 0, .slice none 0 0, [], b3, rfl, World.ownsRow_nil _ _ _ _, Nat.le_refl _, fun i s x hs => by simp at hs, List.nodup_nil, ⟨none, 0, rfl, .inl rfl⟩, by omega⟩, ⟨0, [], World.ownsRow_nil _ _ _ _⟩, ⟨0, [], World.ownsRow_nil _ _ _ _⟩, ?_, ?_, by omega, by omega, by omega, hn.fr hF (fun h => h) (fun h => h), h9⟩
  · rcases h with ⟨rfl, rfl⟩ | ⟨rfl, rfl⟩
    · exact ⟨[0, 0, 0, 0], rfl, b1⟩
    · exact ⟨[0, 0, 0, 0], rfl, b2⟩
  · rcases h with ⟨rfl, rfl⟩ | ⟨rfl, rfl⟩
    · exact ⟨[0, 0, 0, 0], rfl, b2⟩
    · exact ⟨[0, 0, 0, 0], rfl, b1⟩

set_option maxRecDepth 100000 in
set_option maxHeartbeats 1000000 in
theorem newc_calls {w : World} (hn : Nils w) (h9 : 9 < w.heap.size) : Calls Tryd.prog 27 #[.int .u64 10485760] w fun e w' => ∃ cb, e = .returned (.pointer (some ⟨cb, 0, none⟩)) ∧ Cp w' w.heap.size cb [] ∧ Fr (fun _ => False) w w' := by
  have hmk : ∀ X : World, (Instr.makeSlice 92 (.int .i64 4) (.int .i64 4)).run Tryd.prog X = .ok (.slice (some ⟨X.heap.size, 0, none⟩) 4 4) (X.alloc (.cells (u8s [0, 0, 0, 0]).toArray 5)) := fun X => by kernel_rfl
  go_enter Tryd.func27, Tryd.ntmps27
  go_wp2_with fail
  go_region
  all_goals go_wp2_with fail
  all_goals go_ret
  · exact ⟨_, rfl, newc_done hn h9 _ _ (.inl ⟨rfl, rfl⟩), ((((Fr.refl _ w).alloc _).alloc _).alloc _).drew⟩
  · exact ⟨_, rfl, newc_done hn h9 _ _ (.inr ⟨rfl, rfl⟩), ((((Fr.refl _ w).alloc _).alloc _).alloc _).drew⟩
end Go.Proofs.YtjeklnbfpehbeaaDoor

/- The walk of NewParsedWithLimit of package regexp: a tree becomes an automaton, or the error of too many states. Condition: the tree is right, its program fewer than 190000 instructions. -/
namespace Go.Proofs.YtjeklnbfpehbeaaDoor
open Go.RowKit

/-- The whole program of an expression. -/
def prog (r : RE) : List Ins := code r 0 ++ [.mtch]
theorem prog_len (r : RE) : (prog r).length = clen r + 1 := by simp [prog, clen]

/-- A tree's automaton, or the refusal. -/
def NewPost (w w' : World) (a : Nat → Addr) (r : RE) (e : Ending) : Prop :=
  ((∃ rb S, e = .returned (.tuple #[.pointer (some ⟨rb, 0, none⟩), .nilIface]) ∧ Rx w' rb (prog r) S) ∨ (e = .returned (.tuple #[.pointer none, errAt a 4]) ∧ ¬ Cap (prog r))) ∧ Fr (fun _ => False) w w'

set_option maxRecDepth 100000 in
set_option maxHeartbeats 4000000 in
theorem newp_calls {w : World} {a : Nat → Addr} {nb : Nat} {r : RE} {s : ByteArray} (hwf : WfR r) (hn : NodeAt w r nb) (hnil : Nils w) (h9 : 9 < w.heap.size) (hl : clen r ≤ 190000) (hS : Sent w a) (hwp : WfP (prog r)) (hst : ∀ l0, AddOk (prog r) [] 0 l0 → l0.filter (rm (prog r)) ≠ []) :
    Calls Tryd.prog 17 #[.string s, .pointer (some ⟨nb, 0, none⟩), .int .u64 10485760] w fun e w' => NewPost w w' a r e := by
  have q1 := newc_calls hnil h9
  have hE := hS.cell 4 (by decide)
  have hnn := fun W => err_neq_nil W a 4
  have HS := Lib.hid (And.intro hwp (And.intro hst hE))
  clear hS hwp hst hnil hE
  go_enter Tryd.func17, Tryd.ntmps17
  go_wp2_with fail
  refine q1.mono ?_
  rintro e w1 ⟨cb, rfl, h1, hF1⟩
  have q2 := compile_calls h1 hwf (hn.kt (B := w.heap.size) (kt_drop hF1)) hF1.size hl
  clear q1 h1 hn
  go_wp2_with fail
  refine q2.mono ?_
  rintro e w2 ⟨p3, p4, p5, p6, pv, pl, ps, rfl, h2, hF2⟩
  clear q2
  obtain ⟨hwp, hst, hE⟩ := HS.out
  have hpr : CB w2 w.heap.size cb p3 p4 p5 p6 (prog r).length (prog r) pv pl ps := by rw [prog_len]; exact h2
  have q3 := builder_calls w2 (hpr.prg (by rw [prog_len]; omega) hwp)
  have hFB2 : Fr (fun k => w.heap.size ≤ k) w w2 := (hF1.mono (fun _ _ h => h.elim)).trans hF2 (fun k _ h => kt_ge h)
  obtain ⟨A, c, rfl⟩ := own_sl' hpr.own
  clear h2 hF1 hF2 hpr hwp hst hE
  go_wp2_with fail
  refine q3.mono ?_
  rintro e w3 ⟨bb, db, mb, nb2, sv, rfl, h3⟩
  clear q3
  obtain ⟨hwp, hst, hE⟩ := HS.out
  have hF3 := (h3 w2.heap.size (Nat.le_refl _)).2
  have hFB3 : Fr (fun k => w.heap.size ≤ k) w w3 := hFB2.trans hF3 (fun _ _ h => h.elim)
  have q4 := build_calls w3 (fun M hM => (h3 M hM).1) hF3.size (hFB3.cell hE (by simp; omega)) (by have := hFB2.size; omega) hst (by rw [prog_len]; omega)
  have hw2 : w.heap.size ≤ w2.heap.size := hFB2.size
  clear h3 hF3 hFB2 hwp hst hE
  go_wp2_with fail
  refine q4.mono ?_
  rintro e w4 ⟨hcase, hF4⟩
  clear q4
  have hFB4 : Fr (fun k => w.heap.size ≤ k) w w4 := hFB3.trans hF4 (fun k _ h => Nat.le_trans hw2 h)
  have hff : ∀ {w'}, Fr (fun k => w.heap.size ≤ k) w w' → Fr (fun _ => False) w w' := fun h => h.mono (fun k hk h => by omega)
  rcases hcase with ⟨rfl, M, kv, sv', S, D, hDB, hD⟩ | ⟨rfl, hcap⟩
  · have HR := Lib.hid (And.intro hDB (And.intro hD hFB4))
    clear hDB hD hFB4 hFB3 hF4 hff
    go_wp2_with fail
    go_ret2
    obtain ⟨hDB, hD, hFB4⟩ := HR.out
    have hFa := (Fr.refl (fun _ => False) w4).alloc (.cells #[.string s, .pointer (some ⟨db, 0, none⟩)] 69)
    refine ⟨.inl ⟨w4.heap.size, S, rfl, _, bb, db, mb, _, _, M, kv, sv', D, Blk.new w4 [_, _] 69, hDB.fr hFa (fun _ h => h.elim) (fun h => h) (fun h => h) (fun h => h) (fun _ _ h => h) (fun _ _ h => h) (fun _ _ _ _ h => h) (fun _ _ h => h), hD⟩, (hFB4.alloc _).mono (fun k hk h => by omega)⟩
  · have HR := Lib.hid (And.intro hcap hFB4)
    clear hcap hFB4 hFB3 hF4 hff
    unfold errAt at hnn ⊢
    go_wp2_with fail
    go_ret2
    exact ⟨.inr ⟨rfl, HR.out.1⟩, HR.out.2.mono (fun k hk h => by omega)⟩
end Go.Proofs.YtjeklnbfpehbeaaDoor

/- Expressions as values of package impl. No condition. -/
namespace Go.Proofs.YtjeklnbfpehbeaaDoor
open Go.RowKit

def opOf : RE → Nat
  | .emp => 2 | .lit _ => 3 | .cls _ => 4 | .any => 6 | .anyNl => 5 | .cat _ => 18 | .alt _ => 19 | .star _ => 14 | .plus _ => 15 | .quest _ => 16 | .rep _ _ _ => 17 | .cap _ => 13
def runesOf : RE → List Nat
  | .lit rs => rs
  | .cls l => flat l
  | _ => []
def subsOf : RE → List RE
  | .cat l => l | .alt l => l | .star r => [r] | .plus r => [r] | .quest r => [r] | .rep _ _ r => [r] | .cap r => [r]
  | _ => []
def boundsOf : RE → Int → Int → Prop
  | .rep mn mx _, a, b => a = (mn : Int) ∧ b = maxOf mx
  | _, _, _ => True

/-- The value is the expression. -/
inductive ReAt (w : World) : RE → Value → Prop
  | mk {r : RE} {A : Option Addr} {c : Nat} {rv : Value} {mn mx : Int} (xs : Nat → List Value) (hr : RunesAt w rv (runesOf r)) (hr0 : runesOf r = [] → rv = .slice none 0 0) (hm : boundsOf r mn mx)
      (hx : ∀ i, i < (subsOf r).length → ∃ b o cs, A = some ⟨b, o, none⟩ ∧ Blk w b cs 25 ∧ (xs i).length = 7 ∧ ∀ j x, (xs i)[j]? = some x → w.cell? ⟨b, o + 7 * i + j, none⟩ = some x)
      (hs : ∀ i r', (subsOf r)[i]? = some r' → ReAt w r' (.agg (xs i).toArray)) :
      ReAt w r (.agg #[.int .i64 (opOf r : Int), rv, .int .i64 mn, .int .i64 mx, .bool false, .bool false, .slice A (subsOf r).length c])

theorem ReAt.fr {w w' : World} {F : Nat → Prop} (hf : Fr F w w') (hn : ∀ k cs t, Blk w k cs t → t = 25 ∨ t = 77 ∨ t = 21 → ¬ F k) {r : RE} {v : Value} (h : ReAt w r v) : ReAt w' r v := by
  induction h with
  | mk xs hr hr0 hm hx hs ih =>
    refine .mk xs (hr.fr hf (fun k cs t hk ht => hn k cs t hk (ht.elim (fun e => .inr (.inr e)) (fun e => .inr (.inl e))))) hr0 hm (fun i hi => ?_) ih
    obtain ⟨b, o, cs, h1, h2, h3, h4⟩ := hx i hi
    have := hn _ _ _ h2 (.inl rfl)
    exact ⟨b, o, cs, h1, h2.fr hf this, h3, fun j x hj => hf.cell (h4 j x hj) this⟩

theorem ReAt.form {w : World} {r : RE} {v : Value} (h : ReAt w r v) : ∃ rA rn rc mn mx A n c, v = .agg #[.int .i64 (opOf r : Int), .slice rA rn rc, .int .i64 mn, .int .i64 mx, .bool false, .bool false, .slice A n c] := by
  cases h with
  | mk xs hr hr0 hm hx hs =>
    obtain ⟨rA, rc, rfl, -⟩ := hr
    exact ⟨_, _, _, _, _, _, _, _, rfl⟩

/-- The parts' nodes lie in a row. -/
def KidsAt (w : World) (l : List RE) (A : Option Addr) : Prop :=
  ∀ i r, l[i]? = some r → ∃ b o cs nb, A = some ⟨b, o, none⟩ ∧ Blk w b cs 44 ∧ w.cell? ⟨b, o + i, none⟩ = some (.pointer (some ⟨nb, 0, none⟩)) ∧ NodeAt w r nb
theorem kids_subs {w : World} {A : Option Addr} : ∀ (l : List RE) (i : Nat), (∀ j r, l[j]? = some r → ∃ b o cs nb, A = some ⟨b, o, none⟩ ∧ Blk w b cs 44 ∧ w.cell? ⟨b, o + (i + j), none⟩ = some (.pointer (some ⟨nb, 0, none⟩)) ∧ NodeAt w r nb) → SubsAt w l A i
  | [], i, _ => by simp [SubsAt]
  | r :: l, i, h => by
    simp only [SubsAt]
    refine ⟨h 0 r rfl, kids_subs l (i + 1) fun j r' hj => ?_⟩
    have := h (j + 1) r' (by simpa using hj)
    rw [show i + (j + 1) = i + 1 + j by omega] at this
    exact this
/-- A node, its parts' nodes and its runes make the tree in memory. -/
theorem node_of {w : World} {r : RE} {nb : Nat} {A rA : Option Addr} {c rn rc : Nat} {x0 x1 mn mx : Int} {cp nm : Value} (hb : Blk w nb [.int .u8 (opOf r : Int), .int .u16 0, .slice A (subsOf r).length c, .pointer none, .slice rA rn rc, .int .i32 x0, .int .i32 x1, .int .i64 mn, .int .i64 mx, cp, nm] 77)
    (hr : RunesAt w (.slice rA rn rc) (runesOf r)) (hm : boundsOf r mn mx) (hk : KidsAt w (subsOf r) A) : NodeAt w r nb := by
  have one : ∀ r', subsOf r = [r'] → One w (.slice A (subsOf r).length c) (fun k => NodeAt w r' k) := fun r' e => by
    rw [e] at hk ⊢
    obtain ⟨b, o, cs, k, h1, h2, h3, h4⟩ := hk 0 r' rfl
    exact ⟨b, o, c, cs, k, by rw [h1]; rfl, h2, h3, h4⟩
  have many : SubsAt w (subsOf r) A 0 := kids_subs _ 0 (fun j r' hj => by rw [Nat.zero_add]; exact hk j r' hj)
  have mk : ∀ {K : Value → Value → Int → Int → Prop}, K (.slice A (subsOf r).length c) (.slice rA rn rc) mn mx → Head w nb (opOf r) K := fun hK => ⟨_, _, x0, x1, mn, mx, cp, nm, hb, ⟨_, _, _, rfl⟩, hK⟩
  cases r with
  | emp => simp only [NodeAt]; exact mk trivial
  | lit rs => simp only [NodeAt]; exact mk hr
  | cls l => simp only [NodeAt]; exact mk hr
  | any => simp only [NodeAt]; exact mk trivial
  | anyNl => simp only [NodeAt]; exact mk trivial
  | cat l => simp only [NodeAt]; exact mk ⟨A, c, rfl, many⟩
  | alt l => simp only [NodeAt]; exact mk ⟨A, c, rfl, many⟩
  | star r => simp only [NodeAt]; exact mk (one r rfl)
  | plus r => simp only [NodeAt]; exact mk (one r rfl)
  | quest r => simp only [NodeAt]; exact mk (one r rfl)
  | rep m n r => simp only [NodeAt]; exact mk ⟨hm.1, hm.2, one r rfl⟩
  | cap r => simp only [NodeAt]; exact mk (one r rfl)

open Classical in
/-- The world of which only the blocks P are seen. -/
noncomputable def mask (w : World) (P : Nat → Prop) : World := { w with heap := w.heap.mapIdx fun k o => if P k then o else .cells #[] 0 }
theorem mask_at {w : World} {P : Nat → Prop} {k : Nat} (h : P k) : (mask w P).heap[k]? = w.heap[k]? := by
  simp [mask, h]
theorem mask_blk {w : World} {P : Nat → Prop} {k : Nat} {cs : List Value} {t : TypeId} (h : Blk (mask w P) k cs t) (ht : t ≠ 0) : P k := by
  by_cases hP : P k
  · exact hP
  · unfold Blk at h
    simp [mask, hP] at h
    obtain ⟨-, -, h⟩ := h
    exact absurd h.symm ht
theorem mask_fr {w w' : World} {P Q : Nat → Prop} (ho : w'.os = w.os) (ht : w'.tape = w.tape) (hu : w'.output = w.output) (hs : w.heap.size ≤ w'.heap.size) (hPQ : ∀ k, P k → Q k) (hb : ∀ k, k < w.heap.size → P k → w'.heap[k]? = w.heap[k]?) : Fr (fun k => ¬ P k) (mask w P) (mask w' Q) :=
  ⟨ho, ht, hu, by simpa [mask] using hs, fun k hk hP => by
    have hP' : P k := Classical.not_not.1 hP
    rw [mask_at (hPQ k hP'), mask_at hP']
    exact hb k (by simpa [mask] using hk) hP'⟩
theorem mask_out {w w' : World} {P : Nat → Prop} (ho : w'.os = w.os) (ht : w'.tape = w.tape) (hu : w'.output = w.output) (hs : w.heap.size ≤ w'.heap.size) (hb : ∀ k, k < w.heap.size → P k → w'.heap[k]? = w.heap[k]?) : Fr (fun k => ¬ P k) (mask w P) w' :=
  ⟨ho, ht, hu, by simpa [mask] using hs, fun k hk hP => by
    have hP' : P k := Classical.not_not.1 hP
    rw [mask_at hP']
    exact hb k (by simpa [mask] using hk) hP'⟩
theorem mask_no {w : World} {P : Nat → Prop} : ∀ k cs t, Blk (mask w P) k cs t → t = 77 ∨ t = 44 ∨ t = 21 → ¬ (fun k => ¬ P k) k := fun k cs t h ht hn => hn (mask_blk h (by rcases ht with rfl | rfl | rfl <;> decide))
/-- A node that lies in the blocks P stays where these do. -/
theorem node_mask {w w' : World} {P Q : Nat → Prop} {F : Nat → Prop} {r : RE} {nb : Nat} (h : NodeAt (mask w P) r nb) (hf : Fr F w w') (hF : ∀ k, k < w.heap.size → P k → ¬ F k) (hPQ : ∀ k, P k → Q k) : NodeAt (mask w' Q) r nb :=
  NodeAt.fr (mask_fr hf.os hf.tape hf.output hf.size hPQ (fun k hk hP => hf.block k hk (hF k hk hP))) mask_no r nb h
theorem node_unmask {w : World} {P : Nat → Prop} {r : RE} {nb : Nat} (h : NodeAt (mask w P) r nb) : NodeAt w r nb :=
  NodeAt.fr (mask_out rfl rfl rfl (Nat.le_refl _) (fun _ _ _ => rfl)) mask_no r nb h
/-- What lies below the world's end. -/
theorem node_below {w : World} {P : Nat → Prop} {r : RE} {nb : Nat} (h : NodeAt (mask w P) r nb) : NodeAt (mask w (fun k => P k ∧ k < w.heap.size)) r nb := by
  have hf : Fr (fun k => ¬ (P k ∧ k < w.heap.size)) (mask w P) (mask w (fun k => P k ∧ k < w.heap.size)) := ⟨rfl, rfl, rfl, by simp [mask], fun k hk hP => by
    have hP' : P k ∧ k < w.heap.size := Classical.not_not.1 hP
    rw [mask_at (P := fun k => P k ∧ k < w.heap.size) hP', mask_at hP'.1]⟩
  exact NodeAt.fr (w := mask w P) hf (fun k cs t hb ht hn => hn ⟨mask_blk hb (by rcases ht with rfl | rfl | rfl <;> decide), by have := hb.lt; simpa [mask] using this⟩) r nb h
theorem runes_mask {w : World} {P : Nat → Prop} {ad : Addr} {n c : Nat} {rs : List Nat} (h : RunesAt w (.slice (some ad) n c) rs) (hP : P ad.block) : RunesAt (mask w P) (.slice (some ad) n c) rs := by
  obtain ⟨A, c', e, h2⟩ := h
  refine ⟨A, c', e, fun i r hr => ?_⟩
  obtain ⟨b, o, cs, t, h3, ht, h4, h5⟩ := h2 i r hr
  have hb : P b := by
    subst h3
    simp at e
    rw [e.1] at hP
    exact hP
  refine ⟨b, o, cs, t, h3, ht, ?_, ?_⟩
  · unfold Blk; rw [mask_at hb]; exact h4
  · rw [World.cell?_of_block (w := w) (mask_at hb)]; exact h5
theorem blk_mask {w : World} {P : Nat → Prop} {k : Nat} {cs : List Value} {t : TypeId} (h : Blk w k cs t) (hP : P k) : Blk (mask w P) k cs t := by
  unfold Blk; rw [mask_at hP]; exact h
end Go.Proofs.YtjeklnbfpehbeaaDoor

/- The walk of 'tree' of package impl: an expression's value becomes Go's own tree. Condition: at most 100000 runes and 1000 parts at each node. -/
namespace Go.Proofs.YtjeklnbfpehbeaaDoor
open Go.RowKit

def TC (r : RE) : Prop := ∀ (w : World) (v : Value), ReAt w r v → Calls Tryd.prog 18 #[v] w fun e w' => ∃ nb, e = .returned (.pointer (some ⟨nb, 0, none⟩)) ∧ NodeAt (mask w' (fun k => w.heap.size ≤ k)) r nb ∧ Fr (fun _ => False) w w'

theorem info44 : (Tryd.prog.info? 44).map (fun i => (i.zero, i.size, i.bytes)) = some (some (.pointer none), 1, 8) := by kernel_rfl
theorem info21 : (Tryd.prog.info? 21).map (fun i => (i.zero, i.size, i.bytes)) = some (some (.int .i32 0), 1, 4) := by kernel_rfl

theorem runes_of_row {w : World} {base g cap : Nat} {rs : List Nat} (h : w.ownsRow base 21 1 (.slice (some ⟨g, 0, none⟩) rs.length cap) rs.length (rs.map fun (r : Nat) => Value.int .i32 (r : Int))) : RunesAt w (.slice (some ⟨g, 0, none⟩) rs.length cap) rs := by
  refine ⟨_, cap, rfl, fun i r hr => ?_⟩
  rcases h.2 with ⟨e, _⟩ | ⟨g', cap', cur, e, hb, hg, _⟩
  · cases e
  · simp at e
    obtain ⟨rfl, rfl⟩ := e
    obtain ⟨g2, c2, e2, -, -, hc, -⟩ := own_cell h (j := i) (u := .int .i32 (r : Int)) (by simp [hr])
    simp at e2
    obtain ⟨rfl, rfl⟩ := e2
    exact ⟨g, 0, cur.toList, 21, rfl, .inl rfl, by unfold Blk; simpa using hg, by simpa using hc⟩

/-- append([]rune{}, runes...), in a region that draws. -/
theorem step_append_runes {w : World} {ops : Array Oper} {o : Oper} {a : Act} {K : Act → World → Prop} {Q : Exit → Act → World → Prop} {E : Prop} (hgd : o.guard = none) (s x : Operand)
    (ho : o.op = .call { callee := .builtin .append, args := #[s, x], argTypes := #[22, 22] }) (base g : Nat) (hs : a.eval s = .slice (some ⟨g, 0, none⟩) 0 0) (hown : w.ownsRow base 21 1 (.slice (some ⟨g, 0, none⟩) 0 0) 0 [])
    (rv : Value) (rs : List Nat) (hx : a.eval x = rv) (hr : RunesAt w rv rs) (hr0 : rs = [] → rv = .slice none 0 0) (hlen : rs.length ≤ 100000) (hbase : base ≤ w.heap.size)
    (h : ∀ g' c w', base ≤ g' → g' < w'.heap.size → RunesAt w' (.slice (some ⟨g', 0, none⟩) rs.length c) rs → Fr (fun k => k = g) w w' → K (a.put o.dst (.slice (some ⟨g', 0, none⟩) rs.length c)) w') :
    if Region.wanted o (yielded ops a.tmps) = true then Oper.wp Tryd.prog o a w K Q else E := by
  obtain ⟨i0, hi, hz0, hz1, hz2⟩ := info_parts info21
  cases rs with
  | nil =>
    have hrv := hr0 rfl
    subst hrv
    have hw : Region.wanted o (yielded ops a.tmps) = true := by simp [Region.wanted, hgd]
    rw [if_pos hw]
    have hrun := run_append_owned_none (P := Tryd.prog) (w := w) base 22 o.type 21 i0 1 Tryd.underlying22 hi _ 0 [] hown
    unfold Oper.wp
    simp [execOp, ho, resolve, invoke, builtin, hs, hx, hrun, Result.andThen]
    exact h g 0 w (own_lt' hown (k := g) rfl).1 (own_lt' hown (k := g) rfl).2 (runes_of_row (rs := []) hown) (Fr.refl _ w)
  | cons r0 rs0 =>
    obtain ⟨A, c, rfl, hcell⟩ := hr
    obtain ⟨b, ob, cs, t, rfl, -⟩ := hcell 0 r0 rfl
    refine step_append_lies w hgd s x 22 ho base 21 i0 (.int .i32 0) 1 4 Tryd.underlying22 hi hz0 hz1 hz2 rfl (by decide) _ 0 [] hs hown ⟨b, ob, none⟩ (r0 :: rs0).length c ((r0 :: rs0).map fun (r : Nat) => Value.int .i32 (r : Int)) hx (by simp) ?_ (by intro u hu; obtain ⟨r, -, rfl⟩ := List.mem_map.1 hu; simp [Value.oneCell']) (by simp) (by simp only [maxLen]; simp at hlen ⊢; omega) (by simp at hlen ⊢; omega) hbase w.heap.size rfl ?_
    · intro j u hj
      rw [List.getElem?_map] at hj
      obtain ⟨r, hr, rfl⟩ := Option.map_eq_some_iff.1 hj
      obtain ⟨b', o', cs', t', e, -, -, hc⟩ := hcell j r hr
      simp at e
      obtain ⟨rfl, rfl⟩ := e
      have e2 : (⟨b, ob, none⟩ : Addr).add j = ⟨b, ob + j, none⟩ := by
        simp [Addr.add]
      rw [e2]
      exact hc
    · intro g' cap w' h1 h2 h3 h4
      rw [Nat.zero_add] at h1 ⊢
      exact h g' cap w' (own_lt' h1 (k := g') rfl).1 (own_lt' h1 (k := g') rfl).2 (runes_of_row h1) ((Fr.refl _ w).grown h2 (fun k hk _ => by simp [Value.ownBlock] at hk; omega))

set_option maxRecDepth 100000 in
set_option maxHeartbeats 8000000 in
theorem tree_step (r : RE) (hrl : (runesOf r).length ≤ 100000) (hsl : (subsOf r).length ≤ 1000) (ih : ∀ r', r' ∈ subsOf r → TC r') : TC r := by
  intro w v hv
  obtain @⟨_, A, c, rv, mn, mx, xs, hr, hr0, hm, hx, hs⟩ := hv
  obtain ⟨o, ho⟩ : ∃ o, Hid (o = opOf r) := ⟨_, Lib.hid rfl⟩
  have ho2 : o ≤ 19 := by rw [ho.out]; cases r <;> simp [opOf]
  rw [← ho.out]
  obtain ⟨N, hN⟩ : ∃ N, Hid (N = (subsOf r).length) := ⟨_, Lib.hid rfl⟩
  rw [← hN.out]
  obtain ⟨rA, rc, hrv, -⟩ := id hr
  obtain ⟨M, hM⟩ : ∃ M, Hid (M = (runesOf r).length) := ⟨_, Lib.hid rfl⟩
  rw [← hM.out] at hrv
  subst hrv
  have eo : IntKind.u8.wrap (o : Int) = (o : Int) := by rw [IntKind.wrap_u8]; omega
  have HH := Lib.hid (And.intro hr (And.intro hr0 (And.intro hm (And.intro hx hs))))
  clear hr hr0 hm hx hs
  go_enter Tryd.func18, Tryd.ntmps18
  go_wp2_with fail
  obtain ⟨W1, hW1⟩ : ∃ W1, W1 = w.alloc (.cells #[.int .i64 (o : Int), .slice rA M rc, .int .i64 mn, .int .i64 mx, .bool false, .bool false, .slice A N c] 25) := ⟨_, rfl⟩
  rw [← hW1]
  have hB0 : Blk W1 w.heap.size [.int .i64 (o : Int), .slice rA M rc, .int .i64 mn, .int .i64 mx, .bool false, .bool false, .slice A N c] 25 := by rw [hW1]; exact Blk.new w [_, _, _, _, _, _, _] 25
  have hF1 : Fr (fun _ => False) w W1 := by rw [hW1]; exact (Fr.refl _ w).alloc _
  clear hW1
  refine wp_region_seqV (fun w' => w'.cell? ⟨w.heap.size, 0, none⟩ = some (.int .i64 (o : Int)) ∧ w'.cell? ⟨w.heap.size, 1, none⟩ = some (.slice rA M rc) ∧ w'.cell? ⟨w.heap.size, 2, none⟩ = some (.int .i64 mn) ∧ w'.cell? ⟨w.heap.size, 3, none⟩ = some (.int .i64 mx)) (fun i => ![3, 6, 12].contains i) (fun i => ![1, 5, 8, 10, 3, 6, 12].contains i) (fun i => false) [0, 1, 2, 4, 5, 7, 8, 9, 10, 3, 6, 11, 12, 13] (by kernel_rfl) (by kernel_rfl) (fun c a d v w h => by cases d <;> exact h) ⟨hB0.drew.cell 0 rfl, hB0.drew.cell 1 rfl, hB0.drew.cell 2 rfl, hB0.drew.cell 3 rfl⟩ ?_
  iterate 1 (apply seqV_pure (ho := rfl) (hr := rfl) (hg := rfl); (intro w'; go_simp; rfl))
  (apply seqV_read (ho := rfl) (hr := rfl) (hp := rfl) (hg := rfl); (rintro w' ⟨q1, q2, q3, q4⟩; go_simp; rfl))
  iterate 2 (apply seqV_pure (ho := rfl) (hr := rfl) (hg := rfl); (intro w'; go_simp; rfl))
  (apply seqV_read (ho := rfl) (hr := rfl) (hp := rfl) (hg := rfl); (rintro w' ⟨q1, q2, q3, q4⟩; go_simp; rfl))
  iterate 1 (apply seqV_pure (ho := rfl) (hr := rfl) (hg := rfl); (intro w'; go_simp; rfl))
  (apply seqV_read (ho := rfl) (hr := rfl) (hp := rfl) (hg := rfl); (rintro w' ⟨q1, q2, q3, q4⟩; go_simp; rfl))
  iterate 1 (apply seqV_pure (ho := rfl) (hr := rfl) (hg := rfl); (intro w'; go_simp; rfl))
  (apply seqV_read (ho := rfl) (hr := rfl) (hp := rfl) (hg := rfl); (rintro w' ⟨q1, q2, q3, q4⟩; go_simp; rfl))
  refine seqV_do rfl rfl fun K hK => ?_
  go_simp
  have hFa : Fr (fun _ => False) W1 (W1.alloc (.cells #[] 21)).drew := ((Fr.refl _ W1).alloc _).drew
  have hB1 := hB0.fr hFa (fun h => h)
  refine hK _ _ (fun _ => ⟨hB1.cell 0 rfl, hB1.cell 1 rfl, hB1.cell 2 rfl, hB1.cell 3 rfl⟩) ?_
  clear hK K
  have hw1 : w.heap.size < W1.heap.size := hB0.lt
  have hrow : (W1.alloc (.cells #[] 21)).drew.ownsRow W1.heap.size 21 1 (.slice (some ⟨W1.heap.size, 0, none⟩) 0 0) 0 [] := by
    have := own_of_blk (base := W1.heap.size) (n := 0) (c := 0) (size := 1) (Blk.drew (Blk.new W1 [] 21)) (Nat.le_refl _) (Nat.le_refl _) (by decide) (by simp)
    simpa using this
  refine seqV_do rfl rfl fun K hK => ?_
  refine step_append_runes (by rfl) _ _ (by rfl) W1.heap.size W1.heap.size (by rfl) hrow (.slice rA M rc) (runesOf r) (by rfl) (HH.out.1.fr (hF1.trans hFa (fun _ _ h => h)) (fun _ _ _ _ _ h => h)) HH.out.2.1 hrl hFa.size ?_
  intro g2 c2 W2 hg2 hg3 hr2 hf2
  have hB2 := hB1.fr hf2 (by omega)
  refine hK _ _ (fun _ => ⟨hB2.cell 0 rfl, hB2.cell 1 rfl, hB2.cell 2 rfl, hB2.cell 3 rfl⟩) ?_
  clear hK K
  rw [← hM.out] at hr2 ⊢
  have hF2 : Fr (fun _ => False) w W2 := (hF1.trans hFa (fun _ _ h => h)).trans hf2 (fun k hk e => by omega)
  clear hB0 hF1 hFa hB1 hrow hf2
  iterate 1 (apply seqV_pure (ho := rfl) (hr := rfl) (hg := rfl); (intro w'; go_simp; rfl))
  refine seqV_do rfl rfl fun K hK => ?_
  go_simp
  have hFb : Fr (fun _ => False) W2 (W2.alloc (.cells #[.int .u8 (o : Int), .int .u16 0, .slice none 0 0, .pointer none, .slice (some ⟨g2, 0, none⟩) M c2, .int .i32 0, .int .i32 0, .int .i64 mn, .int .i64 mx, .int .i64 0, .string ⟨#[]⟩] 77)) := (Fr.refl _ W2).alloc _
  have hB3 := hB2.fr hFb (fun h => h)
  refine hK _ _ (fun _ => ⟨hB3.cell 0 rfl, hB3.cell 1 rfl, hB3.cell 2 rfl, hB3.cell 3 rfl⟩) ?_
  clear hK K
  iterate 1 (apply seqV_pure (ho := rfl) (hr := rfl) (hg := rfl); (intro w'; go_simp; rfl))
  unfold seqV
  have y4 := hB3.cell 4 rfl
  have y5 := hB3.cell 5 rfl
  have y6 := hB3.cell 6 rfl
  obtain ⟨nb, hnb⟩ : ∃ nb, nb = W2.heap.size := ⟨_, rfl⟩
  have hN3 : Blk (W2.alloc (.cells #[.int .u8 (o : Int), .int .u16 0, .slice none 0 0, .pointer none, .slice (some ⟨g2, 0, none⟩) M c2, .int .i32 0, .int .i32 0, .int .i64 mn, .int .i64 mx, .int .i64 0, .string ⟨#[]⟩] 77)) nb [.int .u8 (o : Int), .int .u16 0, .slice none 0 0, .pointer none, .slice (some ⟨g2, 0, none⟩) M c2, .int .i32 0, .int .i32 0, .int .i64 mn, .int .i64 mx, .int .i64 0, .string ⟨#[]⟩] 77 := by rw [hnb]; exact Blk.new W2 [_, _, _, _, _, _, _, _, _, _, _] 77
  have hr3 := runes_mask (P := fun k => w.heap.size ≤ k ∧ k < nb) (hr2.fr hFb (fun _ _ _ _ _ h => h)) ⟨by show w.heap.size ≤ g2; omega, by show g2 < nb; omega⟩
  have hF3 := hF2.trans hFb (fun _ _ h => h)
  have hwn : w.heap.size ≤ nb := by rw [hnb]; exact hF2.size
  rw [← hnb]
  generalize hW3 : W2.alloc (.cells #[.int .u8 (o : Int), .int .u16 0, .slice none 0 0, .pointer none, .slice (some ⟨g2, 0, none⟩) M c2, .int .i32 0, .int .i32 0, .int .i64 mn, .int .i64 mx, .int .i64 0, .string ⟨#[]⟩] 77) = W3 at *
  clear hB2 hr2 hF2 hFb hB3 hnb hW3
  go_wp2_with fail
  clear y4 y5 y6
  go_loopg [40] (N + 1) (fun g i wr => ∃ (k : Nat) (sv : Value) (ns : List Nat), k ≤ N ∧ g = N - k + 1 ∧ i = .int .i64 (k : Int) ∧ ns.length = k ∧ (∃ A c, sv = .slice A k c) ∧ Blk wr nb [.int .u8 (o : Int), .int .u16 0, sv, .pointer none, .slice (some ⟨g2, 0, none⟩) M c2, .int .i32 0, .int .i32 0, .int .i64 mn, .int .i64 mx, .int .i64 0, .string ⟨#[]⟩] 77 ∧ wr.ownsRow nb 44 1 sv k (ns.map fun (b : Nat) => Value.pointer (some ⟨b, 0, none⟩)) ∧ (∀ (i b : Nat) (r' : RE), ns[i]? = some b → (subsOf r)[i]? = some r' → ∃ P : Nat → Prop, NodeAt (mask wr P) r' b ∧ ¬ P nb ∧ (∀ k, sv.ownBlock = some k → ¬ P k) ∧ ∀ k, P k → w.heap.size ≤ k ∧ k < wr.heap.size) ∧ RunesAt (mask wr (fun k => w.heap.size ≤ k ∧ k < nb)) (.slice (some ⟨g2, 0, none⟩) M c2) (runesOf r) ∧ Fr (fun _ => False) w wr)
  case atStart => exact ⟨0, .slice none 0 0, [], by omega, by omega, rfl, rfl, ⟨none, 0, rfl⟩, hN3, World.ownsRow_nil _ _ _ _, fun i b r' h => by simp at h, hr3, hF3⟩
  case round =>
    clear hN3 hr3 hF3
    obtain ⟨k, sv, ns, hk, rfl, rfl, hnl, ⟨sA, sc, rfl⟩, hNd, hrow, hkids, hru, hF⟩ := hrel
    by_cases hlt : k < N
    · have e1 : (k : Int) < (N : Int) := by omega
      have hkl : k < (subsOf r).length := by rw [← hN.out]; exact hlt
      obtain ⟨r', hr'⟩ : ∃ r', (subsOf r)[k]? = some r' := ⟨_, List.getElem?_eq_getElem hkl⟩
      obtain ⟨b, ob, cs, rfl, hbk, h7, hcells⟩ := HH.out.2.2.2.1 k hkl
      have hre := HH.out.2.2.2.2 k r' hr'
      obtain ⟨x0, x1, x2, x3, x4, x5, x6, hxs⟩ : ∃ x0 x1 x2 x3 x4 x5 x6, xs k = [x0, x1, x2, x3, x4, x5, x6] := by
        match hq : xs k, h7 with
        | [x0, x1, x2, x3, x4, x5, x6], _ => exact ⟨x0, x1, x2, x3, x4, x5, x6, rfl⟩
      rw [hxs] at hcells hre
      obtain ⟨uA, un, uc, um, ux, vA, vn, vc, hxe⟩ := hre.form
      simp at hxe
      obtain ⟨rfl, rfl, rfl, rfl, rfl, rfl, rfl⟩ := hxe
      rw [Nat.mul_comm 7 k] at hcells
      have z0 := hF.cell (hcells 0 _ rfl) (fun h => h)
      have z1 := hF.cell (hcells 1 _ rfl) (fun h => h)
      have z2 := hF.cell (hcells 2 _ rfl) (fun h => h)
      have z3 := hF.cell (hcells 3 _ rfl) (fun h => h)
      have z4 := hF.cell (hcells 4 _ rfl) (fun h => h)
      have z5 := hF.cell (hcells 5 _ rfl) (fun h => h)
      have z6 := hF.cell (hcells 6 _ rfl) (fun h => h)
      simp only [Nat.add_zero] at z0
      have HK := Lib.hid (And.intro hNd (And.intro hrow (And.intro hkids (And.intro hru (And.intro hF (And.intro hr' hre))))))
      clear hNd hrow hkids hru hF hr' hre hcells hbk h7 hxs
      go_wp2_with fail
      obtain ⟨hNd, hrow, hkids, hru, hF, hr', hre⟩ := HK.out
      obtain ⟨T, hT⟩ : ∃ T, T = wr.heap.size := ⟨_, rfl⟩
      have hT5 : Blk (wr.alloc (.cells #[.int .i64 (opOf r' : Int), .slice uA un uc, .int .i64 um, .int .i64 ux, .bool false, .bool false, .slice vA vn vc] 25)) T [.int .i64 (opOf r' : Int), .slice uA un uc, .int .i64 um, .int .i64 ux, .bool false, .bool false, .slice vA vn vc] 25 := by rw [hT]; exact Blk.new wr [_, _, _, _, _, _, _] 25
      have hFa : Fr (fun _ => False) wr (wr.alloc (.cells #[.int .i64 (opOf r' : Int), .slice uA un uc, .int .i64 um, .int .i64 ux, .bool false, .bool false, .slice vA vn vc] 25)) := (Fr.refl _ wr).alloc _
      rw [← hT]
      generalize hV : wr.alloc (.cells #[.int .i64 (opOf r' : Int), .slice uA un uc, .int .i64 um, .int .i64 ux, .bool false, .bool false, .slice vA vn vc] 25) = V at *
      have hN1 := (hNd.fr hFa (fun h => h)).drew
      have hT1 := hT5.drew
      have hTl : w.heap.size ≤ T := by rw [hT]; exact hF.size
      have hnT : nb ≠ T := by have := hNd.lt; omega
      have hrowV := own_fr (own_fr hrow hFa (fun _ _ h => h)) ((Fr.refl (fun _ => False) V).drew) (fun _ _ h => h)
      have hFV := (hF.trans hFa (fun _ _ h => h)).drew
      have hreV := hre.fr hFV (fun _ _ _ _ _ h => h)
      have hc := ih r' (List.mem_of_getElem? hr') V.drew _ hreV
      clear z0 z1 z2 z3 z4 z5 z6 hT hT5 hV hNd
      refine wp_region_seqV (fun w' => Blk w' nb [.int .u8 (o : Int), .int .u16 0, .slice sA k sc, .pointer none, .slice (some ⟨g2, 0, none⟩) M c2, .int .i32 0, .int .i32 0, .int .i64 mn, .int .i64 mx, .int .i64 0, .string ⟨#[]⟩] 77 ∧ Blk w' T [.int .i64 (opOf r' : Int), .slice uA un uc, .int .i64 um, .int .i64 ux, .bool false, .bool false, .slice vA vn vc] 25) (fun i => decide (i < 6) || decide (i = 9) || decide (i = 10)) (fun i => decide (i < 4) || decide (i = 9) || decide (i = 10)) (fun i => decide (i = 11)) [0, 1, 2, 3, 4, 5, 6, 7, 8, 9, 10, 11] (by kernel_rfl) (by kernel_rfl) (fun c a d v w h => by cases d <;> exact h) ⟨hN1, hT1⟩ ?_
      iterate 4 (apply seqV_pure (ho := rfl) (hr := rfl) (hg := rfl); (intro w'; go_simp; rfl))
      (apply seqV_read (ho := rfl) (hr := rfl) (hp := rfl) (hg := rfl); (rintro w' ⟨q1, q2⟩; have r2 := q1.cell 2 rfl; clear q1 q2; go_simp; rfl))
      (apply seqV_read (ho := rfl) (hr := rfl) (hp := rfl) (hg := rfl); (rintro w' ⟨q1, q2⟩; have r0 := q2.cell 0 rfl; have r1 := q2.cell 1 rfl; have r2 := q2.cell 2 rfl; have r3 := q2.cell 3 rfl; have r4 := q2.cell 4 rfl; have r5 := q2.cell 5 rfl; have r6 := q2.cell 6 rfl; clear q1 q2; go_simp; rfl))
      refine seqV_do rfl rfl fun K hK => ?_
      go_simp
      refine hc.mono ?_
      rintro e w4 ⟨kb, rfl, hkb, hf4⟩
      clear hc
      have hN4 := hN1.fr hf4 (fun h => h)
      have hT4 := hT1.fr hf4 (fun h => h)
      refine hK _ _ (fun h => ⟨hN4, hT4⟩) ?_
      clear hK K
      refine seqV_do rfl rfl fun K hK => ?_
      go_simp
      have hFp : Fr (fun _ => False) w4 (w4.alloc (.cells #[.pointer (some ⟨kb, 0, none⟩)] 44)) := (Fr.refl _ w4).alloc _
      have hN5 := hN4.fr hFp (fun h => h)
      have hT5 := hT4.fr hFp (fun h => h)
      refine hK _ _ (fun h => ⟨hN5, hT5⟩) ?_
      clear hK K
      have hrow5 := own_fr (own_fr hrowV hf4 (fun _ _ h => h)) hFp (fun _ _ h => h)
      have hb5 : Blk (w4.alloc (.cells #[.pointer (some ⟨kb, 0, none⟩)] 44)) w4.heap.size [.pointer (some ⟨kb, 0, none⟩)] 44 := Blk.new w4 [_] 44
      obtain ⟨i0, hi, hz0, hz1, hz2⟩ := info_parts info44
      refine seqV_do rfl rfl fun K hK => ?_
      refine step_append_lies _ (by rfl) _ _ 73 (by rfl) nb 44 i0 (.pointer none) 1 8 Tryd.underlying73 hi hz0 hz1 hz2 rfl (by decide) _ k _ (by rfl) hrow5 ⟨w4.heap.size, 0, none⟩ 1 1 [.pointer (some ⟨kb, 0, none⟩)] (by rfl) (by simp) (fun j u hj => by
        match j, hj with
        | 0, hj => simp at hj; subst hj; exact hb5.cell 0 rfl) (by simp [Value.oneCell']) (by decide) (by simp only [maxLen]; omega) (by omega) ?_ _ rfl ?_
      · exact Nat.le_of_lt hN5.lt
      · intro gg cap w6 hown6 hgrow hat hlt6
        have hFg : Fr (fun k' => (Value.slice sA k sc).ownBlock = some k') (w4.alloc (.cells #[.pointer (some ⟨kb, 0, none⟩)] 44)) w6 := (Fr.refl _ _).grown hgrow (fun k hk _ => hk)
        have hN6 := hN5.fr hFg (own_ne_blk hrow5 hN5 (by decide))
        have hT6 := hT5.fr hFg (own_ne_blk hrow5 hT5 (by decide))
        have hgn : gg ≠ nb := by
          intro e; subst e
          exact own_ne_blk hown6 hN6 (by decide) rfl
        refine hK _ _ (fun h => ⟨hN6, hT6⟩) ?_
        clear hK K
        iterate 2 (apply seqV_pure (ho := rfl) (hr := rfl) (hg := rfl); (intro w'; go_simp; rfl))
        refine seqV_do rfl rfl fun K hK => ?_
        have r2 := hN6.cell 2 rfl
        have f2 := hN6.frz 2
        go_simp
        refine hK _ _ (fun h => absurd h (by decide)) ?_
        clear hK K r2 f2
        unfold seqV
        have hFs : Fr (fun k' => k' = nb) w6 (w6.setCell ⟨nb, 2, none⟩ (.slice (some ⟨gg, 0, none⟩) (k + 1) cap)) := Fr.setCell (F := fun k' => k' = nb) (p := ⟨nb, 2, none⟩) (Fr.refl _ w6) (fun _ => rfl) _
        have hN7 := hN6.set 2 (.slice (some ⟨gg, 0, none⟩) (k + 1) cap)
        have HR := Lib.hid (And.intro hN7 (And.intro hown6 (And.intro hFs (And.intro hFg (And.intro hat hgn)))))
        have HR2 := Lib.hid (And.intro hkids (And.intro hru (And.intro hF (And.intro hFa (And.intro hf4 (And.intro hFp (And.intro hkb (And.intro hr' (And.intro hrow hN1)))))))))
        clear hN7 hown6 hFs hFg hat hgn hkids hru hF hFa hf4 hFp hkb hr' hrow hre hN1 hT1 hN4 hT4 hN5 hT5 hN6 hT6 hrowV hrow5 hb5 hFV hreV hgrow hlt6
        go_wp2_with fail
        go_roundg (N - (k + 1) + 1)
        case measure => omega
        case rel =>
          obtain ⟨hN7, hown6, hFs, hFg, hat, hgn⟩ := HR.out
          obtain ⟨hkids, hru, hF, hFa, hf4, hFp, hkb, hr', hrow, hN1⟩ := HR2.out
          have hVw : wr.heap.size ≤ V.heap.size := hFa.size
          have F15 : Fr (fun _ => False) wr (w4.alloc (.cells #[.pointer (some ⟨kb, 0, none⟩)] 44)) := ((hFa.drew).trans hf4 (fun _ _ h => h)).trans hFp (fun _ _ h => h)
          have hnbl : nb < V.heap.size := hN1.lt
          have h4s : V.heap.size ≤ w4.heap.size := hf4.size
          have hps : (w4.alloc (.cells #[.pointer (some ⟨kb, 0, none⟩)] 44)).heap.size = w4.heap.size + 1 := by simp
          have h6s := hFg.size
          have hF7 : Fr (fun k' => (Value.slice sA k sc).ownBlock = some k' ∨ k' = nb) (w4.alloc (.cells #[.pointer (some ⟨kb, 0, none⟩)] 44)) (w6.setCell ⟨nb, 2, none⟩ (.slice (some ⟨gg, 0, none⟩) (k + 1) cap)) := (hFg.mono (fun _ _ h => .inl h)).trans hFs (fun _ _ h => .inr h)
          have hF17 : Fr (fun k' => (Value.slice sA k sc).ownBlock = some k' ∨ k' = nb) wr (w6.setCell ⟨nb, 2, none⟩ (.slice (some ⟨gg, 0, none⟩) (k + 1) cap)) := (F15.mono (fun _ _ h => h.elim)).trans hF7 (fun _ _ h => h)
          have hsz7 : (w6.setCell ⟨nb, 2, none⟩ (.slice (some ⟨gg, 0, none⟩) (k + 1) cap)).heap.size = w6.heap.size := size_setCell _ _ _
          have hold : ∀ k', (Value.slice sA k sc).ownBlock = some k' → k' < wr.heap.size := fun k' h => (own_lt' hrow h).2
          refine ⟨k + 1, .slice (some ⟨gg, 0, none⟩) (k + 1) cap, ns ++ [kb], by omega, rfl, by simp, by simp [hnl], ⟨_, _, rfl⟩, hN7, ?_, ?_, ?_, ?_⟩
          · have := own_fr hown6 hFs (fun b hb e => by simp [Value.ownBlock] at hb; omega)
            simpa using this
          · intro i b' r1 hi hr1
            rcases snoc_inv hi with hi | ⟨rfl, rfl⟩
            · obtain ⟨P, p1, p2, p3, p4⟩ := hkids i b' r1 hi hr1
              refine ⟨P, node_mask p1 hF17 (fun k' hk' hP => ?_) (fun _ h => h), p2, fun k' hk' hP => ?_, fun k' hP => ⟨(p4 k' hP).1, by have := (p4 k' hP).2; omega⟩⟩
              · rintro (h | rfl)
                · exact p3 k' h hP
                · exact p2 hP
              · simp [Value.ownBlock] at hk'
                subst hk'
                rcases hat with h | h
                · exact p3 _ h hP
                · have := (p4 _ hP).2; omega
            · rw [hnl] at hr1
              rw [hr'] at hr1
              injection hr1 with hr1
              subst hr1
              refine ⟨fun k' => V.drew.heap.size ≤ k' ∧ k' < w4.heap.size, ?_, ?_, ?_, ?_⟩
              · refine node_mask (node_below hkb) ((hFp.mono (fun _ _ h => h.elim)).trans hF7 (fun _ _ h => h)) (fun k' hk' hP => ?_) (fun _ h => h)
                have hVd : V.drew.heap.size = V.heap.size := rfl
                rintro (h | rfl)
                · have := hold k' h; omega
                · omega
              · have hVd : V.drew.heap.size = V.heap.size := rfl
                omega
              · intro k' hk' hP
                have hVd : V.drew.heap.size = V.heap.size := rfl
                simp [Value.ownBlock] at hk'
                subst hk'
                rcases hat with h | h
                · have := hold _ h; omega
                · omega
              · intro k' hP
                have hVd : V.drew.heap.size = V.heap.size := rfl
                have := hF.size
                omega
          · refine hru.fr (mask_fr hF17.os hF17.tape hF17.output hF17.size (fun _ h => h) (fun k' hk' hP => hF17.block k' hk' ?_)) (fun k' cs t hb ht hn => hn (mask_blk hb (by rcases ht with rfl | rfl <;> decide)))
            rintro (h | rfl)
            · have := (own_lt' hrow h).1; omega
            · omega
          · exact hF.trans hF17 (fun k' hk' h => by
              rcases h with h | rfl
              · have := (own_lt' hrow h).1; omega
              · omega)
    · obtain rfl : k = N := by omega
      have e1 : ¬ ((k : Int) < (k : Int)) := by omega
      have HR := Lib.hid (And.intro hNd (And.intro hrow (And.intro hkids (And.intro hru hF))))
      clear hNd hrow hkids hru hF
      go_wp2_with fail
      go_ret
      obtain ⟨hNd, hrow, hkids, hru, hF⟩ := HR.out
      refine ⟨nb, rfl, ?_, hF⟩
      have hNm := blk_mask (P := fun k' => w.heap.size ≤ k') hNd hwn
      rw [ho.out, hN.out] at hNm
      have hrm : RunesAt (mask wr (fun k' => w.heap.size ≤ k')) (.slice (some ⟨g2, 0, none⟩) M c2) (runesOf r) :=
        hru.fr (mask_fr rfl rfl rfl (Nat.le_refl _) (fun _ h => h.1) (fun _ _ _ => rfl)) (fun k' cs t hb ht hn => hn (mask_blk hb (by rcases ht with rfl | rfl <;> decide)))
      refine node_of hNm hrm HH.out.2.2.1 (fun i r' hr' => ?_)
      have hil : i < k := by rw [hN.out]; exact (List.getElem?_eq_some_iff.1 hr').1
      obtain ⟨b, hb⟩ : ∃ b, ns[i]? = some b := ⟨_, List.getElem?_eq_getElem (by omega)⟩
      obtain ⟨P, p1, -, -, p4⟩ := hkids i b r' hb hr'
      obtain ⟨g, cc, he, -, -, hcell, -⟩ := own_cell hrow (j := i) (u := .pointer (some ⟨b, 0, none⟩)) (by simp [hb])
      simp at he
      obtain ⟨rfl, rfl⟩ := he
      obtain ⟨cs, hcs⟩ : ∃ cs, Blk wr g cs 44 := by
        rcases hrow.2 with ⟨e, _⟩ | ⟨g', cap', cur, e, hb', hg', _⟩
        · cases e
        · simp at e
          obtain ⟨rfl, rfl⟩ := e
          exact ⟨cur.toList, by unfold Blk; simpa using hg'⟩
      have hgw : w.heap.size ≤ g := by have := (own_lt' hrow (k := g) rfl).1; omega
      refine ⟨g, 0, cs, b, rfl, blk_mask hcs hgw, ?_, node_mask p1 (Fr.refl (fun _ => False) wr) (fun _ _ _ h => h) (fun k' h => (p4 k' h).1)⟩
      rw [World.cell?_of_block (w := wr) (mask_at (P := fun k' => w.heap.size ≤ k') hgw), Nat.zero_add]
      exact hcell

mutual
/-- How many runes and parts a node has at most. -/
def Wide : RE → Prop
  | .lit rs => rs.length ≤ 100000
  | .cls l => l.length ≤ 50000
  | .cat l => l.length ≤ 1000 ∧ WideL l
  | .alt l => l.length ≤ 1000 ∧ WideL l
  | .star r => Wide r
  | .plus r => Wide r
  | .quest r => Wide r
  | .rep _ _ r => Wide r
  | .cap r => Wide r
  | _ => True
def WideL : List RE → Prop
  | [] => True
  | r :: l => Wide r ∧ WideL l
end
theorem WideL_mem {l : List RE} (h : WideL l) : ∀ r, r ∈ l → Wide r := by
  induction l with
  | nil => intro r hr; simp at hr
  | cons a l ih =>
    intro r hr
    simp only [WideL] at h
    rcases List.mem_cons.1 hr with rfl | hr
    · exact h.1
    · exact ih h.2 r hr

/-- 'tree' at any expression. -/
theorem tree_calls (r : RE) : Wide r → TC r := by
  have one : ∀ (r q : RE), subsOf q = [r] → TC r → ∀ r', r' ∈ subsOf q → TC r' := fun r q e h r' hr' => by rw [e] at hr'; simp at hr'; subst hr'; exact h
  refine RE.ind (P := fun r => Wide r → TC r) ?_ ?_ ?_ ?_ ?_ ?_ ?_ ?_ ?_ ?_ ?_ ?_ r
  · intro _; exact tree_step _ (by simp [runesOf]) (by simp [subsOf]) (by simp [subsOf])
  · intro rs h; simp only [Wide] at h; exact tree_step _ h (by simp [subsOf]) (by simp [subsOf])
  · intro l h; simp only [Wide] at h; exact tree_step _ (by simp only [runesOf, flat_len]; omega) (by simp [subsOf]) (by simp [subsOf])
  · intro _; exact tree_step _ (by simp [runesOf]) (by simp [subsOf]) (by simp [subsOf])
  · intro _; exact tree_step _ (by simp [runesOf]) (by simp [subsOf]) (by simp [subsOf])
  · intro l ih h
    simp only [Wide] at h
    exact tree_step _ (by simp [runesOf]) h.1 (fun r' hr' => ih r' hr' (WideL_mem h.2 r' hr'))
  · intro l ih h
    simp only [Wide] at h
    exact tree_step _ (by simp [runesOf]) h.1 (fun r' hr' => ih r' hr' (WideL_mem h.2 r' hr'))
  · intro r ih h; simp only [Wide] at h; exact tree_step _ (by simp [runesOf]) (by simp [subsOf]) (one r _ rfl (ih h))
  · intro r ih h; simp only [Wide] at h; exact tree_step _ (by simp [runesOf]) (by simp [subsOf]) (one r _ rfl (ih h))
  · intro r ih h; simp only [Wide] at h; exact tree_step _ (by simp [runesOf]) (by simp [subsOf]) (one r _ rfl (ih h))
  · intro mn mx r ih h; simp only [Wide] at h; exact tree_step _ (by simp [runesOf]) (by simp [subsOf]) (one r _ rfl (ih h))
  · intro r ih h; simp only [Wide] at h; exact tree_step _ (by simp [runesOf]) (by simp [subsOf]) (one r _ rfl (ih h))
end Go.Proofs.YtjeklnbfpehbeaaDoor

/- The walk of RegexPath of package impl: an expression's automaton along a text, or the refusal. Condition: the expression is right, its program fewer than 190000 instructions, the text at most 10^6 bytes. -/
namespace Go.Proofs.YtjeklnbfpehbeaaDoor
open Go.RowKit

/-- What RegexPath answers. -/
def RpPost (w w' : World) (r : RE) (t : ByteArray) (e : Ending) : Prop :=
  ((∃ v1 v2 v3 S w0, Dfa (prog r) S ∧ e = .returned (.tuple #[v1, v2, v3, .int .i64 0]) ∧ w.heap.size ≤ w0.heap.size ∧ PW w0 w' S (bytesOf t) (t.size + 1) v1 v2 v3) ∨ (e = .returned (.tuple #[.slice none 0 0, .slice none 0 0, .slice none 0 0, .int .i64 5]) ∧ ¬ Cap (prog r))) ∧ Fr (fun _ => False) w w'

theorem Sent.below {w w' : World} {a : Nat → Addr} (h : Sent w a) (h9 : 9 < w.heap.size) (hf : Fr (fun _ => False) w w') : Sent w' a :=
  h.fr (B := w.heap.size) (hf.mono (fun _ _ h => h.elim)) (by omega) (fun i hi => by obtain ⟨c, t, hc⟩ := h.obj i hi; exact lt_of_block hc)

set_option maxRecDepth 100000 in
set_option maxHeartbeats 4000000 in
theorem rp_calls {w : World} {a : Nat → Addr} {v : Value} {r : RE} {t : ByteArray} (hv : ReAt w r v) (hwf : WfR r) (hwd : Wide r) (hnil : Nils w) (h9 : 9 < w.heap.size) (hl : clen r ≤ 190000) (hS : Sent w a) (hwp : WfP (prog r)) (hst : ∀ l0, AddOk (prog r) [] 0 l0 → l0.filter (rm (prog r)) ≠ []) (ht : t.size ≤ 1000000) :
    Calls Tryd.prog 9 #[v, .string t] w fun e w' => RpPost w w' r t e := by
  obtain ⟨uA, un, uc, um, ux, vA, vn, vc, hve⟩ := hv.form
  subst hve
  have hFa : Fr (fun _ => False) w (w.alloc (.cells #[.int .i64 (opOf r : Int), .slice uA un uc, .int .i64 um, .int .i64 ux, .bool false, .bool false, .slice vA vn vc] 25)) := (Fr.refl _ w).alloc _
  have q1 := tree_calls r hwd _ _ (hv.fr hFa (fun _ _ _ _ _ h => h))
  have HH := Lib.hid (And.intro hwp (And.intro hst (And.intro hnil (And.intro hS hFa))))
  have hnn := fun W => err_neq_nil W a 4
  clear hv hwp hst hnil hS hFa
  go_enter Tryd.func9, Tryd.ntmps9
  go_wp2_with fail
  refine q1.mono ?_
  rintro e w1 ⟨nb, rfl, hnd, hF1⟩
  clear q1
  obtain ⟨hwp, hst, hnil, hS, hFa⟩ := HH.out
  have hF01 := hFa.trans hF1 (fun _ _ h => h)
  have q2 := newp_calls (s := ⟨#[]⟩) hwf (node_unmask hnd) (hnil.fr hF01 (fun h => h) (fun h => h)) (by have := hF01.size; omega) hl (hS.below h9 hF01) hwp hst
  have HF := Lib.hid hF01
  clear hnd hF1 hwp hst hnil hS hFa hF01
  go_wp2_with fail
  refine q2.mono ?_
  rintro e w2 ⟨hcase, hF2⟩
  clear q2
  have hF02 := HF.out.trans hF2 (fun _ _ h => h)
  rcases hcase with ⟨rb, S, rfl, hrx⟩ | ⟨rfl, hcap⟩
  · have q3 := path_calls hrx t ht
    have HR := Lib.hid (And.intro hrx hF02)
    clear hrx hF02 hF2
    go_wp2_with fail
    refine q3.mono ?_
    rintro e w3 ⟨v1, v2, v3, rfl, hpw⟩
    clear q3
    go_wp2_with fail
    go_returns
    obtain ⟨hrx, hF02⟩ := HR.out
    exact ⟨.inl ⟨v1, v2, v3, S, w2, hrx.dfa, rfl, hF02.size, hpw⟩, hF02.trans hpw.fr (fun _ _ h => h)⟩
  · have q3 := wrong_many (HH.out.2.2.2.1.below h9 hF02)
    have HR := Lib.hid (And.intro hcap hF02)
    clear hcap hF02 hF2
    unfold errAt at hnn q3 ⊢
    go_wp2_with fail
    refine q3.mono ?_
    rintro e w3 ⟨rfl, rfl⟩
    clear q3
    go_wp2_with fail
    go_returns
    exact ⟨.inr ⟨rfl, HR.out.1⟩, HR.out.2⟩
end Go.Proofs.YtjeklnbfpehbeaaDoor

/- Pieces of a program and the words that lead through them, in plain lists. No condition. -/
namespace Go.Proofs.YtjeklnbfpehbeaaDoor

abbrev Words := List Nat → Prop

/-- A run of n steps that reads a word. -/
inductive RunN (p : List Ins) : Nat → Nat → List Nat → Nat → Prop where
  | nil (a : Nat) : RunN p 0 a [] a
  | eps {n a y b : Nat} {w : List Nat} {i : Ins} (h : p[a]? = some i) (hy : y ∈ i.succs) (r : RunN p n y w b) : RunN p (n + 1) a w b
  | byte {n a b c lo hi : Nat} {w : List Nat} (h : p[a]? = some (.rng lo hi)) (h1 : lo ≤ c) (h2 : c ≤ hi) (r : RunN p n (a + 1) w b) : RunN p (n + 1) a (c :: w) b
def Run (p : List Ins) (a : Nat) (w : List Nat) (b : Nat) : Prop := ∃ n, RunN p n a w b

theorem RunN.trans {p : List Ins} {n m a b c : Nat} {u v : List Nat} (h : RunN p n a u b) (k : RunN p m b v c) : RunN p (n + m) a (u ++ v) c := by
  induction h with
  | nil a => rw [Nat.zero_add]; exact k
  | eps h hy r ih => rw [Nat.add_right_comm]; exact .eps h hy (ih k)
  | byte h h1 h2 r ih => rw [Nat.add_right_comm]; exact .byte h h1 h2 (ih k)
theorem Run.trans {p : List Ins} {a b c : Nat} {u v : List Nat} (h : Run p a u b) (k : Run p b v c) : Run p a (u ++ v) c := by
  obtain ⟨n, h⟩ := h
  obtain ⟨m, k⟩ := k
  exact ⟨_, h.trans k⟩
theorem Run.nil (p : List Ins) (a : Nat) : Run p a [] a := ⟨0, .nil a⟩
theorem Run.eps {p : List Ins} {a y b : Nat} {w : List Nat} {i : Ins} (h : p[a]? = some i) (hy : y ∈ i.succs) (r : Run p y w b) : Run p a w b := by
  obtain ⟨n, r⟩ := r
  exact ⟨_, .eps h hy r⟩
theorem Run.byte {p : List Ins} {a b c lo hi : Nat} {w : List Nat} (h : p[a]? = some (.rng lo hi)) (h1 : lo ≤ c) (h2 : c ≤ hi) (r : Run p (a + 1) w b) : Run p a (c :: w) b := by
  obtain ⟨n, r⟩ := r
  exact ⟨_, .byte h h1 h2 r⟩

/-- The piece from o to e is passed by just the words L. -/
structure Good (p : List Ins) (o e : Nat) (L : Words) : Prop where
  le : o ≤ e
  full : ∀ w, L w → Run p o w e
  only : ∀ n w b, RunN p n o w b → b < o ∨ e ≤ b → ∃ w1 w2 m, w = w1 ++ w2 ∧ L w1 ∧ m ≤ n ∧ RunN p m e w2 b
  live : ∀ x, o ≤ x → x < e → ∃ w, Run p x w e
  succ : ∀ x i, o ≤ x → x < e → p[x]? = some i → ∀ y, y ∈ i.succs → o ≤ y ∧ y ≤ e
  bytes : ∀ (x lo hi : Nat), o ≤ x → x < e → p[x]? = some (.rng lo hi) → lo < 256 ∧ hi < 256

def One_ : Words := fun w => w = []
def Seq_ (A B : Words) : Words := fun w => ∃ u v, w = u ++ v ∧ A u ∧ B v
def Pow_ (A : Words) : Nat → Words
  | 0 => One_
  | k + 1 => Seq_ A (Pow_ A k)
def Star_ (A : Words) : Words := fun w => ∃ k, Pow_ A k w

theorem Good.mono {p : List Ins} {o e : Nat} {L M : Words} (h : Good p o e L) (hm : ∀ w, L w ↔ M w) : Good p o e M :=
  ⟨h.le, fun w hw => h.full w ((hm w).2 hw), fun n w b hr hb => by
    obtain ⟨w1, w2, m, h1, h2, h3, h4⟩ := h.only n w b hr hb
    exact ⟨w1, w2, m, h1, (hm w1).1 h2, h3, h4⟩, h.live, h.succ, h.bytes⟩
theorem good_nil (p : List Ins) (o : Nat) : Good p o o One_ :=
  ⟨Nat.le_refl _, fun w hw => by rw [hw]; exact .nil p o, fun n w b hr _ => ⟨[], w, n, rfl, rfl, Nat.le_refl _, hr⟩, fun x h1 h2 => by omega, fun x i h1 h2 => by omega, fun x lo hi h1 h2 => by omega⟩
theorem good_seq {p : List Ins} {o m e : Nat} {A B : Words} (h : Good p o m A) (k : Good p m e B) : Good p o e (Seq_ A B) := by
  refine ⟨Nat.le_trans h.le k.le, ?_, ?_, ?_, ?_, ?_⟩
  · rintro w ⟨u, v, rfl, hu, hv⟩
    exact (h.full u hu).trans (k.full v hv)
  · intro n w b hr hb
    have h1 := h.le
    have h2 := k.le
    obtain ⟨w1, w2, n1, rfl, hA, hn1, hr1⟩ := h.only n w b hr (by omega)
    obtain ⟨w3, w4, n2, rfl, hB, hn2, hr2⟩ := k.only n1 w2 b hr1 (by omega)
    exact ⟨w1 ++ w3, w4, n2, by simp, ⟨w1, w3, rfl, hA, hB⟩, by omega, hr2⟩
  · intro x h1 h2
    rcases Nat.lt_or_ge x m with hx | hx
    · obtain ⟨u, hu⟩ := h.live x h1 hx
      by_cases he : m = e
      · subst he; exact ⟨u, hu⟩
      · have h3 := k.le
        obtain ⟨v, hv⟩ := k.live m (Nat.le_refl _) (by omega)
        exact ⟨u ++ v, hu.trans hv⟩
    · exact k.live x hx h2
  · intro x i h1 h2 hi y hy
    have h3 := h.le
    have h4 := k.le
    rcases Nat.lt_or_ge x m with hx | hx
    · have := h.succ x i h1 hx hi y hy; omega
    · have := k.succ x i hx h2 hi y hy; omega
  · intro x lo hi h1 h2 hi'
    rcases Nat.lt_or_ge x m with hx | hx
    · exact h.bytes x lo hi h1 hx hi'
    · exact k.bytes x lo hi hx h2 hi'

/-- One range of bytes. -/
theorem good_rng {p : List Ins} {o lo hi : Nat} (h : p[o]? = some (.rng lo hi)) (h1 : lo ≤ hi) (h2 : hi < 256) : Good p o (o + 1) (fun w => ∃ c, w = [c] ∧ lo ≤ c ∧ c ≤ hi) := by
  refine ⟨by omega, ?_, ?_, ?_, ?_, ?_⟩
  · rintro w ⟨c, rfl, h3, h4⟩
    exact .byte h h3 h4 (.nil p _)
  · intro n w b hr hb
    cases hr with
    | nil => omega
    | eps h' hy r => rw [h] at h'; injection h' with h'; subst h'; simp [Ins.succs] at hy
    | byte h' h3 h4 r =>
      rw [h] at h'; injection h' with h'; injection h' with e1 e2; subst e1; subst e2
      exact ⟨[_], _, _, rfl, ⟨_, rfl, h3, h4⟩, by omega, r⟩
  · intro x h3 h4
    obtain rfl : x = o := by omega
    exact ⟨[lo], .byte h (Nat.le_refl _) h1 (.nil p _)⟩
  · intro x i h3 h4 hi' y hy
    obtain rfl : x = o := by omega
    rw [h] at hi'; injection hi' with hi'; subst hi'
    simp [Ins.succs] at hy
  · intro x l k h3 h4 hi'
    obtain rfl : x = o := by omega
    rw [h] at hi'; injection hi' with hi'; injection hi' with e1 e2
    omega

/-- A split whose second way leaves the piece. -/
theorem good_opt {p : List Ins} {o e : Nat} {A : Words} (h : p[o]? = some (.split (o + 1) e)) (k : Good p (o + 1) e A) : Good p o e (fun w => w = [] ∨ A w) := by
  have hle := k.le
  refine ⟨by omega, ?_, ?_, ?_, ?_, ?_⟩
  · rintro w (rfl | hw)
    · exact .eps h (by simp [Ins.succs]) (.nil p e)
    · exact .eps h (by simp [Ins.succs]) (k.full w hw)
  · intro n w b hr hb
    cases hr with
    | nil => omega
    | byte h' h3 h4 r => rw [h] at h'; cases h'
    | eps h' hy r =>
      rw [h] at h'; injection h' with h'; subst h'
      simp [Ins.succs] at hy
      rcases hy with rfl | rfl
      · obtain ⟨w1, w2, m, e1, h1, h2, h3⟩ := k.only _ _ _ r (by omega)
        exact ⟨w1, w2, m, e1, .inr h1, by omega, h3⟩
      · exact ⟨[], w, _, rfl, .inl rfl, by omega, r⟩
  · intro x h1 h2
    rcases Nat.eq_or_lt_of_le h1 with rfl | h1
    · exact ⟨[], .eps h (by simp [Ins.succs]) (.nil p e)⟩
    · exact k.live x h1 h2
  · intro x i h1 h2 hi y hy
    rcases Nat.eq_or_lt_of_le h1 with rfl | h1
    · rw [h] at hi; injection hi with hi; subst hi
      simp [Ins.succs] at hy
      omega
    · have := k.succ x i h1 h2 hi y hy; omega
  · intro x lo hi h1 h2 hi'
    rcases Nat.eq_or_lt_of_le h1 with rfl | h1
    · rw [h] at hi'; cases hi'
    · exact k.bytes x lo hi h1 h2 hi'

/-- A split over two ways, a jump behind the first one. -/
theorem good_alt {p : List Ins} {o m e : Nat} {A B : Words} (h : p[o]? = some (.split (o + 1) (m + 1))) (k : Good p (o + 1) m A) (hj : p[m]? = some (.jmp e)) (l : Good p (m + 1) e B) : Good p o e (fun w => A w ∨ B w) := by
  have h1 := k.le
  have h2 := l.le
  refine ⟨by omega, ?_, ?_, ?_, ?_, ?_⟩
  · rintro w (hw | hw)
    · have := (k.full w hw).trans (.eps hj (by simp [Ins.succs]) (.nil p e) : Run p m [] e)
      rw [List.append_nil] at this
      exact .eps h (by simp [Ins.succs]) this
    · exact .eps h (by simp [Ins.succs]) (l.full w hw)
  · intro n w b hr hb
    cases hr with
    | nil => omega
    | byte h' h3 h4 r => rw [h] at h'; cases h'
    | eps h' hy r =>
      rw [h] at h'; injection h' with h'; subst h'
      simp [Ins.succs] at hy
      rcases hy with rfl | rfl
      · obtain ⟨w1, w2, n1, rfl, hA, hn, hr1⟩ := k.only _ _ _ r (by omega)
        cases hr1 with
        | nil => omega
        | byte h' h3 h4 r => rw [hj] at h'; cases h'
        | eps h' hy r =>
          rw [hj] at h'; injection h' with h'; subst h'
          simp [Ins.succs] at hy
          subst hy
          exact ⟨w1, w2, _, rfl, .inl hA, by omega, r⟩
      · obtain ⟨w1, w2, n1, rfl, hB, hn, hr1⟩ := l.only _ _ _ r (by omega)
        exact ⟨w1, w2, n1, rfl, .inr hB, by omega, hr1⟩
  · intro x h3 h4
    rcases Nat.eq_or_lt_of_le h3 with rfl | h3
    · rcases Nat.eq_or_lt_of_le h2 with e | h2
      · subst e
        exact ⟨[], .eps h (by simp [Ins.succs]) (.nil p _)⟩
      · obtain ⟨w, hw⟩ := l.live (m + 1) (Nat.le_refl _) h2
        exact ⟨w, .eps h (by simp [Ins.succs]) hw⟩
    · rcases Nat.lt_trichotomy x m with hx | rfl | hx
      · obtain ⟨w, hw⟩ := k.live x h3 hx
        exact ⟨w ++ [], hw.trans (.eps hj (by simp [Ins.succs]) (.nil p e))⟩
      · exact ⟨[], .eps hj (by simp [Ins.succs]) (.nil p e)⟩
      · exact l.live x hx h4
  · intro x i h3 h4 hi y hy
    rcases Nat.eq_or_lt_of_le h3 with rfl | h3
    · rw [h] at hi; injection hi with hi; subst hi
      simp [Ins.succs] at hy
      omega
    · rcases Nat.lt_trichotomy x m with hx | rfl | hx
      · have := k.succ x i h3 hx hi y hy; omega
      · rw [hj] at hi; injection hi with hi; subst hi
        simp [Ins.succs] at hy
        omega
      · have := l.succ x i hx h4 hi y hy; omega
  · intro x lo hi h3 h4 hi'
    rcases Nat.eq_or_lt_of_le h3 with rfl | h3
    · rw [h] at hi'; cases hi'
    · rcases Nat.lt_trichotomy x m with hx | rfl | hx
      · exact k.bytes x lo hi h3 hx hi'
      · rw [hj] at hi'; cases hi'
      · exact l.bytes x lo hi hx h4 hi'

/-- A star. -/
theorem good_star {p : List Ins} {o m : Nat} {A : Words} (h : p[o]? = some (.split (o + 1) (m + 1))) (k : Good p (o + 1) m A) (hj : p[m]? = some (.jmp o)) : Good p o (m + 1) (Star_ A) := by
  have h1 := k.le
  have out : Run p o [] (m + 1) := .eps h (by simp [Ins.succs]) (.nil p _)
  have back : Run p m [] (m + 1) := .eps hj (by simp [Ins.succs]) out
  refine ⟨by omega, ?_, ?_, ?_, ?_, ?_⟩
  · rintro w ⟨j, hw⟩
    induction j generalizing w with
    | zero => rw [show w = [] from hw]; exact out
    | succ j ih =>
      obtain ⟨u, v, rfl, hu, hv⟩ := hw
      exact .eps h (by simp [Ins.succs]) ((k.full u hu).trans (.eps hj (by simp [Ins.succs]) (ih v hv)))
  · intro n
    induction n using Nat.strongRecOn with
    | _ n ih =>
      intro w b hr hb
      cases hr with
      | nil => omega
      | byte h' h3 h4 r => rw [h] at h'; cases h'
      | eps h' hy r =>
        rw [h] at h'; injection h' with h'; subst h'
        simp [Ins.succs] at hy
        rcases hy with rfl | rfl
        · obtain ⟨w1, w2, n1, rfl, hA, hn, hr1⟩ := k.only _ _ _ r (by omega)
          cases hr1 with
          | nil => omega
          | byte h' h3 h4 r => rw [hj] at h'; cases h'
          | eps h' hy r2 =>
            rw [hj] at h'; injection h' with h'; subst h'
            simp [Ins.succs] at hy
            subst hy
            have hx := fun hlt => ih _ hlt _ _ r2 hb
            obtain ⟨w3, w4, n2, rfl, ⟨j, hj'⟩, hn2, hr2⟩ := hx (by omega)
            exact ⟨w1 ++ w3, w4, n2, by simp, ⟨j + 1, w1, w3, rfl, hA, hj'⟩, by omega, hr2⟩
        · exact ⟨[], w, _, rfl, ⟨0, rfl⟩, by omega, r⟩
  · intro x h3 h4
    rcases Nat.eq_or_lt_of_le h3 with rfl | h3
    · exact ⟨[], out⟩
    · rcases Nat.lt_or_ge x m with hx | hx
      · obtain ⟨w, hw⟩ := k.live x h3 hx
        exact ⟨w ++ [], hw.trans back⟩
      · obtain rfl : x = m := by omega
        exact ⟨[], back⟩
  · intro x i h3 h4 hi y hy
    rcases Nat.eq_or_lt_of_le h3 with rfl | h3
    · rw [h] at hi; injection hi with hi; subst hi
      simp [Ins.succs] at hy
      omega
    · rcases Nat.lt_or_ge x m with hx | hx
      · have := k.succ x i h3 hx hi y hy; omega
      · obtain rfl : x = m := by omega
        rw [hj] at hi; injection hi with hi; subst hi
        simp [Ins.succs] at hy
        omega
  · intro x lo hi h3 h4 hi'
    rcases Nat.eq_or_lt_of_le h3 with rfl | h3
    · rw [h] at hi'; cases hi'
    · rcases Nat.lt_or_ge x m with hx | hx
      · exact k.bytes x lo hi h3 hx hi'
      · obtain rfl : x = m := by omega
        rw [hj] at hi'; cases hi'

/-- A plus. -/
theorem good_plus {p : List Ins} {o m : Nat} {A : Words} (k : Good p o m A) (h : p[m]? = some (.split o (m + 1))) : Good p o (m + 1) (Seq_ A (Star_ A)) := by
  have h1 := k.le
  have out : Run p m [] (m + 1) := .eps h (by simp [Ins.succs]) (.nil p _)
  have pow : ∀ j w, Pow_ A (j + 1) w → Run p o w (m + 1) := by
    intro j
    induction j with
    | zero =>
      rintro w ⟨u, v, rfl, hu, rfl⟩
      exact (k.full u hu).trans out
    | succ j ih =>
      rintro w ⟨u, v, rfl, hu, hv⟩
      exact (k.full u hu).trans (.eps h (by simp [Ins.succs]) (ih v hv))
  refine ⟨by omega, ?_, ?_, ?_, ?_, ?_⟩
  · rintro w ⟨u, v, rfl, hu, j, hv⟩
    exact pow j _ ⟨u, v, rfl, hu, hv⟩
  · intro n
    induction n using Nat.strongRecOn with
    | _ n ih =>
      intro w b hr hb
      obtain ⟨w1, w2, n1, rfl, hA, hn, hr1⟩ := k.only _ _ _ hr (by omega)
      cases hr1 with
      | nil => omega
      | byte h' h3 h4 r => rw [h] at h'; cases h'
      | eps h' hy r =>
        rw [h] at h'; injection h' with h'; subst h'
        simp [Ins.succs] at hy
        rcases hy with rfl | rfl
        · obtain ⟨w3, w4, n2, rfl, ⟨u, v, rfl, hu, j, hv⟩, hn2, hr2⟩ := ih _ (by omega) _ _ r hb
          exact ⟨w1 ++ (u ++ v), w4, n2, by simp, ⟨w1, u ++ v, rfl, hA, j + 1, u, v, rfl, hu, hv⟩, by omega, hr2⟩
        · exact ⟨w1, w2, _, rfl, ⟨w1, [], by simp, hA, 0, rfl⟩, by omega, r⟩
  · intro x h3 h4
    rcases Nat.lt_or_ge x m with hx | hx
    · obtain ⟨w, hw⟩ := k.live x h3 hx
      exact ⟨w ++ [], hw.trans out⟩
    · obtain rfl : x = m := by omega
      exact ⟨[], out⟩
  · intro x i h3 h4 hi y hy
    rcases Nat.lt_or_ge x m with hx | hx
    · have := k.succ x i h3 hx hi y hy; omega
    · obtain rfl : x = m := by omega
      rw [h] at hi; injection hi with hi; subst hi
      simp [Ins.succs] at hy
      omega
  · intro x lo hi h3 h4 hi'
    rcases Nat.lt_or_ge x m with hx | hx
    · exact k.bytes x lo hi h3 hx hi'
    · obtain rfl : x = m := by omega
      rw [h] at hi'; cases hi'
end Go.Proofs.YtjeklnbfpehbeaaDoor

/- The words of an expression, and that its program's runs read just these, in plain lists. Condition: the expression is right. -/
namespace Go.Proofs.YtjeklnbfpehbeaaDoor

/-- The list stands in the program from o on. -/
def Frag (p : List Ins) (o : Nat) (c : List Ins) : Prop := ∀ (i : Nat) x, c[i]? = some x → p[o + i]? = some x
theorem Frag.app {p : List Ins} {o : Nat} {a b : List Ins} (h : Frag p o (a ++ b)) : Frag p o a ∧ Frag p (o + a.length) b :=
  ⟨fun i x hi => h i x (by rw [List.getElem?_append_left (List.getElem?_eq_some_iff.1 hi).1]; exact hi), fun i x hi => by
    have := h (a.length + i) x (by rw [List.getElem?_append_right (by omega)]; simpa using hi)
    rw [Nat.add_assoc]; exact this⟩
theorem Frag.cons {p : List Ins} {o : Nat} {a : Ins} {b : List Ins} (h : Frag p o (a :: b)) : p[o]? = some a ∧ Frag p (o + 1) b :=
  ⟨h 0 a rfl, fun i x hi => by rw [show o + 1 + i = o + (i + 1) by omega]; exact h (i + 1) x (by simpa using hi)⟩

def GoodC (c : Nat → List Ins) (L : Words) : Prop := ∀ p o, Frag p o (c o) → Good p o (o + (c o).length) L

def CatW : List Words → Words
  | [] => One_
  | L :: Ls => Seq_ L (CatW Ls)

section
variable {α : Type} {f : α → Nat → List Ins} {L : α → Words}
theorem goodC_seq (l : List α) (h : ∀ a, a ∈ l → GoodC (f a) (L a)) : GoodC (seqC (l.map f)) (CatW (l.map L)) := by
  induction l with
  | nil => intro p o _; exact good_nil p o
  | cons a l ih =>
    intro p o hf
    simp only [List.map_cons, seqC, CatW] at hf ⊢
    obtain ⟨h1, h2⟩ := hf.app
    have := good_seq (h a (by simp) p o h1) (ih (fun a ha => h a (by simp [ha])) p _ h2)
    rw [List.length_append, ← Nat.add_assoc]
    exact this
theorem good_altE (l : List α) (hne : l ≠ []) (h : ∀ a, a ∈ l → GoodC (f a) (L a)) : ∀ p o E, Frag p o (altE o (l.map f) E) → E = o + (altE o (l.map f) E).length → Good p o E (fun w => ∃ a, a ∈ l ∧ L a w) := by
  induction l with
  | nil => exact absurd rfl hne
  | cons a l ih =>
    intro p o E hf hE
    cases l with
    | nil =>
      simp only [List.map_cons, List.map_nil, altE] at hf hE
      have := h a (by simp) p o hf
      rw [← hE] at this
      exact this.mono (fun w => by simp)
    | cons d l =>
      simp only [List.map_cons, altE] at hf hE
      rw [List.cons_append] at hf
      obtain ⟨h1, h2⟩ := hf.cons
      obtain ⟨h3, h4⟩ := h2.app
      obtain ⟨h5, h6⟩ := h4.cons
      have k := h a (by simp) p (o + 1) h3
      have e1 : o + 1 + (f a (o + 1)).length + 1 = o + (f a (o + 1)).length + 2 := by omega
      rw [e1] at h6
      have hE2 : E = o + (f a (o + 1)).length + 2 + (altE (o + (f a (o + 1)).length + 2) (f d :: l.map f) E).length := by
        simp only [List.length_append, List.length_cons] at hE
        omega
      have kk := ih (by simp) (fun a ha => h a (by simp [ha])) p _ E h6 hE2
      rw [← e1] at kk
      exact (good_alt h1 k h5 kk).mono (fun w => by simp [List.mem_cons])
theorem goodC_alt (l : List α) (hne : l ≠ []) (h : ∀ a, a ∈ l → GoodC (f a) (L a)) : GoodC (altc (l.map f)) (fun w => ∃ a, a ∈ l ∧ L a w) := by
  intro p o hf
  have hE : o + (altE o (l.map f) 0).length = o + (altE o (l.map f) (o + (altE o (l.map f) 0).length)).length := congrArg _ (altE_len o (l.map f) _ _)
  have := good_altE l hne h p o (o + (altE o (l.map f) 0).length) hf hE
  unfold altc
  rw [← hE]
  exact this
end

theorem goodC_star {c : Nat → List Ins} {A : Words} (h : GoodC c A) : GoodC (starC c) (Star_ A) := by
  intro p o hf
  unfold starC at hf ⊢
  rw [List.cons_append] at hf
  obtain ⟨h1, h2⟩ := hf.cons
  obtain ⟨h3, h4⟩ := h2.app
  have h5 := h4.cons.1
  have := good_star h1 (h p (o + 1) h3) h5
  rw [show o + (Ins.split (o + 1) (o + 1 + (c (o + 1)).length + 1) :: c (o + 1) ++ [Ins.jmp o]).length = o + 1 + (c (o + 1)).length + 1 by simp; omega]
  exact this
theorem good_optC {c : Nat → List Ins} {A : Words} (h : GoodC c A) (k : Nat) : ∀ p o E, Frag p o (optC c E k o) → E = o + (optC c E k o).length → Good p o E (fun w => ∃ j, j ≤ k ∧ Pow_ A j w) := by
  induction k with
  | zero =>
    intro p o E hf hE
    simp only [optC, List.length_nil, Nat.add_zero] at hE
    subst hE
    refine (good_nil p _).mono (fun w => ⟨fun hw => ⟨0, Nat.le_refl _, hw⟩, ?_⟩)
    rintro ⟨j, hj, hw⟩
    obtain rfl : j = 0 := by omega
    exact hw
  | succ k ih =>
    intro p o E hf hE
    simp only [optC] at hf hE
    rw [List.cons_append] at hf
    obtain ⟨h1, h2⟩ := hf.cons
    obtain ⟨h3, h4⟩ := h2.app
    have hE2 : E = o + 1 + (c (o + 1)).length + (optC c E k (o + 1 + (c (o + 1)).length)).length := by
      simp only [List.length_append, List.length_cons] at hE
      omega
    have kk := ih p _ E h4 hE2
    refine (good_opt h1 (good_seq (h p (o + 1) h3) kk)).mono (fun w => ?_)
    constructor
    · rintro (rfl | ⟨u, v, rfl, hu, j, hj, hv⟩)
      · exact ⟨0, by omega, rfl⟩
      · exact ⟨j + 1, by omega, u, v, rfl, hu, hv⟩
    · rintro ⟨j, hj, hw⟩
      cases j with
      | zero => exact .inl hw
      | succ j =>
        obtain ⟨u, v, rfl, hu, hv⟩ := hw
        exact .inr ⟨u, v, rfl, hu, j, by omega, hv⟩
theorem catW_replicate (A : Words) (n : Nat) : CatW (List.replicate n A) = Pow_ A n := by
  induction n with
  | zero => rfl
  | succ n ih => simp only [List.replicate_succ, CatW, Pow_, ih]
theorem goodC_pow {c : Nat → List Ins} {A : Words} (h : GoodC c A) (n : Nat) : GoodC (seqC (List.replicate n c)) (Pow_ A n) := by
  have := goodC_seq (f := fun _ : Unit => c) (L := fun _ => A) (List.replicate n ()) (fun _ _ => h)
  simp only [List.map_replicate, catW_replicate] at this
  exact this

theorem goodC_rngs (rs : List (Nat × Nat)) (h : ∀ q, q ∈ rs → q.1 ≤ q.2 ∧ q.2 < 256) : GoodC (fun _ => rngs rs) (inSeq rs) := by
  induction rs with
  | nil =>
    intro p o _
    refine (good_nil p o).mono (fun w => ?_)
    cases w <;> simp [One_, inSeq]
  | cons q rs ih =>
    intro p o hf
    simp only [rngs, List.map_cons] at hf
    obtain ⟨h1, h2⟩ := hf.cons
    have k := ih (fun q hq => h q (by simp [hq])) p (o + 1) h2
    have g := good_seq (good_rng h1 (h q (by simp)).1 (h q (by simp)).2) k
    simp only [rngs, List.map_cons, List.length_cons, List.length_map] at g ⊢
    rw [show o + (rs.length + 1) = o + 1 + rs.length by omega]
    refine g.mono (fun w => ?_)
    cases w with
    | nil =>
      simp only [inSeq]
      constructor
      · rintro ⟨u, v, h3, ⟨c, rfl, _⟩, _⟩; simp at h3
      · intro h3; exact h3.elim
    | cons x w =>
      simp only [inSeq]
      constructor
      · rintro ⟨u, v, h3, ⟨c, rfl, h4, h5⟩, h6⟩
        simp at h3
        obtain ⟨rfl, rfl⟩ := h3
        exact ⟨h4, h5, h6⟩
      · rintro ⟨h4, h5, h6⟩
        exact ⟨[x], w, rfl, ⟨x, rfl, h4, h5⟩, h6⟩

theorem parts_mem {a b : Nat} (h : okRange a b) : ∀ q, q ∈ parts a b → okRange q.1 q.2 ∧ cut q.1 q.2 = none :=
  parts_ind (P := fun a b => ∀ q, q ∈ parts a b → okRange q.1 q.2 ∧ cut q.1 q.2 = none) (fun a b h hc q hq => by
    rw [parts_leaf hc] at hq
    simp at hq; subst hq
    exact ⟨h, hc⟩) (fun a b m n h hc h1 h2 q hq => by
    rw [parts_cut h hc] at hq
    rcases List.mem_append.1 hq with hq | hq
    · exact h1 q hq
    · exact h2 q hq) _ a b (Nat.le_refl _) h
theorem inSeq_le {rs : List (Nat × Nat)} {xs : List Nat} (h : inSeq rs xs) : ∀ q, q ∈ rs → q.1 ≤ q.2 := by
  induction rs generalizing xs with
  | nil => intro q hq; simp at hq
  | cons r rs ih =>
    intro q hq
    cases xs with
    | nil => exact h.elim
    | cons x xs =>
      obtain ⟨h1, h2, h3⟩ := h
      rcases List.mem_cons.1 hq with rfl | hq
      · omega
      · exact ih h3 q hq
/-- Words: the runes from a to b. -/
def RangeW (a b : Nat) : Words := fun w => ∃ r, okRune r ∧ a ≤ r ∧ r ≤ b ∧ enc r = w
theorem goodC_range {a b : Nat} (h : okRange a b) : GoodC (rangeC a b) (RangeW a b) := by
  have hne : parts a b ≠ [] := fun e => by have := (parts_len h).1; rw [e] at this; simp at this
  have g := goodC_alt (f := partC) (L := fun q => inSeq ((enc q.1).zip (enc q.2))) (parts a b) hne (fun q hq => by
    obtain ⟨h1, h2⟩ := parts_mem h q hq
    have h3 := (leaf_ok h1 h2 (enc q.1)).2 ⟨q.1, h1.1, Nat.le_refl _, h1.2.2, rfl⟩
    exact goodC_rngs _ (fun z hz => ⟨inSeq_le h3 z hz, enc_byte h1.2.1 z.2 (List.of_mem_zip hz).2⟩))
  intro p o hf
  exact (g p o hf).mono (parts_ok h)
/-- Words: the runes of pairs. -/
def ClassW (l : List (Nat × Nat)) : Words := fun w => ∃ q, q ∈ l ∧ RangeW q.1 q.2 w
theorem goodC_class (l : List (Nat × Nat)) (hne : l ≠ []) (h : ∀ q, q ∈ l → okRange q.1 q.2) : GoodC (classC l) (ClassW l) :=
  goodC_alt (f := pairC) (L := fun q => RangeW q.1 q.2) l hne (fun q hq => goodC_range (h q hq))
theorem inSeq_self (x w : List Nat) : inSeq (x.zip x) w ↔ w = x := by
  induction x generalizing w with
  | nil => cases w <;> simp [inSeq]
  | cons a x ih =>
    cases w with
    | nil => simp [inSeq]
    | cons b w =>
      simp only [List.zip_cons_cons, inSeq, List.cons.injEq]
      rw [ih w]
      constructor
      · rintro ⟨h1, h2, h3⟩; exact ⟨by omega, h3⟩
      · rintro ⟨rfl, h3⟩; exact ⟨Nat.le_refl _, Nat.le_refl _, h3⟩
theorem goodC_lit (rs : List Nat) (h : ∀ r, r ∈ rs → okRune r) : GoodC (fun _ => litC rs) (fun w => w = rs.flatMap enc) := by
  induction rs with
  | nil => intro p o _; exact good_nil p o
  | cons r rs ih =>
    intro p o hf
    have e : litC (r :: rs) = rngs ((enc r).zip (enc r)) ++ litC rs := by simp [litC]
    simp only [e] at hf ⊢
    obtain ⟨h1, h2⟩ := hf.app
    have g1 := goodC_rngs ((enc r).zip (enc r)) (fun z hz => by
      have h3 := inSeq_le ((inSeq_self (enc r) (enc r)).2 rfl) z hz
      exact ⟨h3, enc_byte (h r (by simp)) z.2 (List.of_mem_zip hz).2⟩) p o h1
    have g := good_seq g1 (ih (fun r hr => h r (by simp [hr])) p _ h2)
    rw [List.length_append, ← Nat.add_assoc]
    refine g.mono (fun w => ?_)
    constructor
    · rintro ⟨u, v, rfl, hu, rfl⟩
      rw [(inSeq_self _ _).1 hu]; simp
    · rintro rfl
      exact ⟨enc r, rs.flatMap enc, by simp, (inSeq_self _ _).2 rfl, rfl⟩

mutual
/-- The words of an expression. -/
def Lang : RE → Words
  | .emp => One_
  | .lit rs => fun w => w = rs.flatMap enc
  | .cls l => ClassW l
  | .any => ClassW [(0, 1114111)]
  | .anyNl => ClassW [(0, 9), (11, 1114111)]
  | .cat l => CatW (langs l)
  | .alt l => fun w => ∃ L, L ∈ langs l ∧ L w
  | .star r => Star_ (Lang r)
  | .plus r => Seq_ (Lang r) (Star_ (Lang r))
  | .quest r => fun w => w = [] ∨ Lang r w
  | .rep mn none r => Seq_ (Pow_ (Lang r) mn) (Star_ (Lang r))
  | .rep mn (some mx) r => Seq_ (Pow_ (Lang r) mn) (fun w => ∃ j, j ≤ mx - mn ∧ Pow_ (Lang r) j w)
  | .cap r => Lang r
def langs : List RE → List Words
  | [] => []
  | r :: l => Lang r :: langs l
end
theorem langs_eq (l : List RE) : langs l = l.map Lang := by
  induction l with
  | nil => simp [langs]
  | cons r l ih => simp [langs, ih]

/-- An expression's instructions read just its words. -/
theorem code_good (r : RE) : WfR r → GoodC (code r) (Lang r) := by
  refine RE.ind (P := fun r => WfR r → GoodC (code r) (Lang r)) ?_ ?_ ?_ ?_ ?_ ?_ ?_ ?_ ?_ ?_ ?_ ?_ r
  · intro _ p o hf; simp only [code, Lang] at hf ⊢; exact good_nil p o
  · intro rs h p o hf; simp only [code, Lang, WfR] at *; exact goodC_lit rs h.2 p o hf
  · intro l h p o hf; simp only [code, Lang, WfR] at *; exact goodC_class l (fun e => by rw [e] at h; simp at h) h.2.2 p o hf
  · intro _ p o hf; simp only [code, Lang] at *; exact goodC_class _ (by simp) (by simp [okRange, okRune]) p o hf
  · intro _ p o hf; simp only [code, Lang] at *; exact goodC_class _ (by simp) (by simp [okRange, okRune]) p o hf
  · intro l ih h p o hf
    simp only [code, Lang, WfR, codes_eq, langs_eq] at *
    exact goodC_seq l (fun r hr => ih r hr (WfL_mem h.2 r hr)) p o hf
  · intro l ih h p o hf
    simp only [code, Lang, WfR, codes_eq, langs_eq] at *
    refine (goodC_alt l (fun e => by rw [e] at h; simp at h) (fun r hr => ih r hr (WfL_mem h.2.2 r hr)) p o hf).mono (fun w => ?_)
    simp only [List.mem_map]
    exact ⟨fun ⟨a, h1, h2⟩ => ⟨_, ⟨a, h1, rfl⟩, h2⟩, fun ⟨L, ⟨a, h1, h3⟩, h2⟩ => ⟨a, h1, by rw [h3]; exact h2⟩⟩
  · intro r ih h p o hf; simp only [code, Lang, WfR] at *; exact goodC_star (ih h) p o hf
  · intro r ih h p o hf
    simp only [code, Lang, WfR] at *
    obtain ⟨h1, h2⟩ := hf.app
    have := good_plus (ih h p o h1) h2.cons.1
    simpa [Nat.add_assoc] using this
  · intro r ih h p o hf
    simp only [code, Lang, WfR] at *
    obtain ⟨h1, h2⟩ := hf.cons
    have := good_opt h1 (ih h p (o + 1) h2)
    rw [List.length_cons, show o + ((code r (o + 1)).length + 1) = o + 1 + (code r (o + 1)).length by omega]
    exact this
  · intro mn mx r ih h p o hf
    have hr := ih (by simp only [WfR] at h; exact h.2.2)
    cases mx with
    | none =>
      simp only [code, Lang] at *
      obtain ⟨h1, h2⟩ := hf.app
      have := good_seq (goodC_pow hr mn p o h1) (goodC_star hr p _ h2)
      rw [List.length_append, ← Nat.add_assoc]
      exact this
    | some mx =>
      simp only [code, Lang] at *
      obtain ⟨h1, h2⟩ := hf.app
      have hE : o + (seqC (List.replicate mn (code r)) o).length + (optC (code r) 0 (mx - mn) (o + (seqC (List.replicate mn (code r)) o).length)).length = o + (seqC (List.replicate mn (code r)) o).length + (optC (code r) (o + (seqC (List.replicate mn (code r)) o).length + (optC (code r) 0 (mx - mn) (o + (seqC (List.replicate mn (code r)) o).length)).length) (mx - mn) (o + (seqC (List.replicate mn (code r)) o).length)).length :=
        congrArg _ (optC_fix (code_fix r) _ _ _ _ _)
      have := good_seq (goodC_pow hr mn p o h1) (good_optC hr (mx - mn) p _ _ h2 hE)
      rw [List.length_append, ← Nat.add_assoc, ← hE]
      exact this
  · intro r ih h p o hf; simp only [code, Lang, WfR] at *; exact ih h p o hf
end Go.Proofs.YtjeklnbfpehbeaaDoor

/- What the automaton of an expression says behind each beginning of a text: whether it is a word, whether it is the beginning of one. Condition: the expression is right. -/
namespace Go.Proofs.YtjeklnbfpehbeaaDoor

theorem prog_good {r : RE} (h : WfR r) : Good (prog r) 0 (clen r) (Lang r) := by
  have := code_good r h (prog r) 0 (fun i x hi => by
    rw [Nat.zero_add]
    unfold prog
    rw [List.getElem?_append_left (List.getElem?_eq_some_iff.1 hi).1]
    exact hi)
  rw [Nat.zero_add] at this
  exact this
theorem prog_end (r : RE) : (prog r)[clen r]? = some .mtch := by
  unfold prog clen
  simp
theorem prog_none {r : RE} {x : Nat} (h : clen r < x) : (prog r)[x]? = none := List.getElem?_eq_none (by rw [prog_len]; omega)

theorem prog_wf {r : RE} (h : WfR r) (hl : clen r ≤ 190000) : WfP (prog r) := by
  have g := prog_good h
  refine ⟨fun x i hi y hy => ?_, fun x lo hi hx => ?_, fun x lo hi hx => ?_, by rw [prog_len]; omega⟩
  · rw [prog_len]
    rcases Nat.lt_trichotomy x (clen r) with hx | rfl | hx
    · have := (g.succ x i (Nat.zero_le _) hx hi y hy).2; omega
    · rw [prog_end] at hi; injection hi with hi; subst hi; simp [Ins.succs] at hy
    · rw [prog_none hx] at hi; cases hi
  · rw [prog_len]
    rcases Nat.lt_trichotomy x (clen r) with h1 | rfl | h1
    · omega
    · rw [prog_end] at hx; cases hx
    · rw [prog_none h1] at hx; cases hx
  · rcases Nat.lt_trichotomy x (clen r) with h1 | rfl | h1
    · exact g.bytes x lo hi (Nat.zero_le _) h1 hx
    · rw [prog_end] at hx; cases hx
    · rw [prog_none h1] at hx; cases hx

section
variable {p : List Ins}
theorem ereach_run {a b : Nat} (h : EReach p a b) : Run p a [] b := by
  induction h with
  | refl x => exact .nil p x
  | step h hy r ih => exact .eps h hy ih
theorem run_ereach {n a b : Nat} {w : List Nat} (h : RunN p n a w b) : w = [] → EReach p a b := by
  induction h with
  | nil a => intro _; exact .refl a
  | eps h hy r ih => intro e; exact .step h hy (ih e)
  | byte h h1 h2 r ih => intro e; cases e
theorem run_split {n a b c : Nat} {w u v : List Nat} (h : RunN p n a w b) : w = u ++ c :: v → ∃ y lo hi, Run p a u y ∧ p[y]? = some (.rng lo hi) ∧ lo ≤ c ∧ c ≤ hi ∧ Run p (y + 1) v b := by
  induction h generalizing u with
  | nil a => intro e; simp at e
  | eps h hy r ih =>
    intro e
    obtain ⟨y, lo, hi, h1, h2⟩ := ih e
    exact ⟨y, lo, hi, .eps h hy h1, h2⟩
  | @byte n a b d lo hi w h h1 h2 r ih =>
    intro e
    cases u with
    | nil =>
      simp at e
      obtain ⟨rfl, rfl⟩ := e
      exact ⟨a, lo, hi, .nil p a, h, h1, h2, n, r⟩
    | cons x u =>
      simp at e
      obtain ⟨rfl, e⟩ := e
      obtain ⟨y, lo', hi', h3, h4⟩ := ih e
      exact ⟨y, lo', hi', .byte h h1 h2 h3, h4⟩
theorem run_kept {n a b : Nat} {w : List Nat} (h : RunN p n a w b) : rm p b = true → ∃ x, EReach p a x ∧ rm p x = true := by
  induction h with
  | nil a => intro hb; exact ⟨a, .refl a, hb⟩
  | eps h hy r ih =>
    intro hb
    obtain ⟨x, h1, h2⟩ := ih hb
    exact ⟨x, .step h hy h1, h2⟩
  | @byte n a b d lo hi w h h1 h2 r ih => intro _; exact ⟨a, .refl a, by simp [rm, h]⟩
theorem run_mid {n a b : Nat} {u v : List Nat} (h : RunN p n a (u ++ v) b) (hb : rm p b = true) : ∃ x, rm p x = true ∧ Run p a u x := by
  cases v with
  | nil => rw [List.append_nil] at h; exact ⟨b, hb, n, h⟩
  | cons c v =>
    obtain ⟨y, lo, hi, h1, h2, -⟩ := run_split h rfl
    exact ⟨y, by simp [rm, h2], h1⟩
theorem reach_in {a x : Nat} {l : List Nat} (hc : ∀ x, x ∈ l → ∀ i, p[x]? = some i → ∀ y, y ∈ i.succs → y ∈ l) (h : EReach p a x) : a ∈ l → x ∈ l := by
  induction h with
  | refl x => exact id
  | step h hy r ih => intro ha; exact ih (hc _ ha _ h _ hy)

/-- A place that is kept, reached by a text. -/
def Kept (p : List Ins) (w : List Nat) (x : Nat) : Prop := rm p x = true ∧ Run p 0 w x
theorem kept_snoc {w : List Nat} {c x : Nat} : Kept p (w ++ [c]) x ↔ ∃ y i, Kept p w y ∧ p[y]? = some i ∧ i.takes c = true ∧ EReach p (y + 1) x ∧ rm p x = true := by
  constructor
  · rintro ⟨hx, n, hr⟩
    obtain ⟨y, lo, hi, h1, h2, h3, h4, m, h5⟩ := run_split hr rfl
    exact ⟨y, _, ⟨by simp [rm, h2], h1⟩, h2, by simp [Ins.takes, h3, h4], run_ereach h5 rfl, hx⟩
  · rintro ⟨y, i, ⟨hy, h1⟩, h2, h3, h4, h5⟩
    refine ⟨h5, ?_⟩
    cases i with
    | rng lo hi =>
      simp [Ins.takes] at h3
      exact h1.trans (.byte h2 h3.1 h3.2 (ereach_run h4))
    | mtch => simp [Ins.takes] at h3
    | jmp t => simp [Ins.takes] at h3
    | split a b => simp [Ins.takes] at h3

theorem stAt_0 (S : List DSt) (bs : List Nat) : stAt S bs 0 = 1 := by simp [stAt]
theorem stAt_s (S : List DSt) (bs : List Nat) {k c : Nat} (h : bs[k]? = some c) : stAt S bs (k + 1) = nxt S (stAt S bs k) c := by
  unfold stAt
  rw [take_snoc_getElem? h, List.foldl_append]
  rfl

/-- The state behind a beginning names the places that it reaches. -/
theorem dfa_at {S : List DSt} (hD : Dfa p S) (bs : List Nat) (hb : ∀ c, c ∈ bs → c < 256) : ∀ k, k ≤ bs.length →
    (stAt S bs k = 0 ∧ ∀ x, ¬ Kept p (bs.take k) x) ∨ (1 ≤ stAt S bs k ∧ ∃ s, S[stAt S bs k]? = some s ∧ ∀ x, x ∈ s.l ↔ Kept p (bs.take k) x) := by
  intro k
  induction k with
  | zero =>
    intro _
    obtain ⟨s, l0, h1, h2, h3⟩ := hD.start
    rw [stAt_0]
    refine .inr ⟨Nat.le_refl _, s, h1, fun x => ?_⟩
    rw [h3, List.mem_filter, List.take_zero]
    constructor
    · rintro ⟨hx, hr⟩
      rcases h2.reach x hx with h | h
      · cases h
      · exact ⟨hr, ereach_run h⟩
    · rintro ⟨hr, n, h⟩
      exact ⟨reach_in (fun x hx i hi y hy => h2.closed x hx (by simp) i hi y hy) (run_ereach h rfl) h2.mem, hr⟩
  | succ k ih =>
    intro hk
    obtain ⟨c, hc⟩ : ∃ c, bs[k]? = some c := ⟨_, List.getElem?_eq_getElem (by omega)⟩
    have hc256 := hb c (List.mem_of_getElem? hc)
    rw [stAt_s S bs hc, take_snoc_getElem? hc]
    rcases ih (by omega) with ⟨h0, hn⟩ | ⟨h1, s, hs, hm⟩
    · left
      rw [h0]
      obtain ⟨z, hz, -, -, hnx⟩ := hD.inv.zero
      have hz0 : z.nx[c]? = some 0 := by rw [hnx, List.getElem?_replicate, if_pos hc256]
      have hnz : nxt S 0 c = 0 := by unfold nxt; rw [hz]; simp only [Option.bind_some]; rw [hz0]; rfl
      refine ⟨hnz, fun x hx => ?_⟩
      obtain ⟨y, i, hy, -⟩ := kept_snoc.1 hx
      exact hn y hy
    · have hlt := (List.getElem?_eq_some_iff.1 hs).1
      obtain ⟨st, l', ns, g1, g2, g3, g4⟩ := hD.step _ c h1 hlt hc256
      rw [hs] at g1
      injection g1 with g1
      subst g1
      have hnx : nxt S (stAt S bs k) c = ns := by simp [nxt, hs, g3]
      rw [hnx]
      have hmem : ∀ x, x ∈ l'.filter (rm p) ↔ Kept p (bs.take k ++ [c]) x := by
        intro x
        rw [List.mem_filter, kept_snoc]
        constructor
        · rintro ⟨hx, hr⟩
          obtain ⟨y, i, hy, hi, ht, he⟩ := g2.from_ x hx
          exact ⟨y, i, (hm y).1 hy, hi, ht, he, hr⟩
        · rintro ⟨y, i, hy, hi, ht, he, hr⟩
          exact ⟨reach_in g2.closed he (g2.to_ y i ((hm y).2 hy) hi ht), hr⟩
      rcases g4 with ⟨g4, g5⟩ | ⟨g4, g5, s', g6, g7⟩
      · left
        refine ⟨g5, fun x hx => ?_⟩
        have := (hmem x).2 hx
        rw [g4] at this
        cases this
      · exact .inr ⟨g5, s', g6, fun x => by rw [g7]; exact hmem x⟩
end

theorem prog_mt {r : RE} (h : WfR r) {x : Nat} : mt (prog r) x = true ↔ x = clen r := by
  constructor
  · intro hx
    have hm : (prog r)[x]? = some .mtch := by
      unfold mt at hx
      split at hx
      · assumption
      · cases hx
    rcases Nat.lt_trichotomy x (clen r) with h1 | rfl | h1
    · obtain ⟨w, n, hr⟩ := (prog_good h).live x (Nat.zero_le _) h1
      cases hr with
      | nil => omega
      | eps h' hy _ => rw [hm] at h'; injection h' with h'; subst h'; simp [Ins.succs] at hy
      | byte h' _ _ _ => rw [hm] at h'; cases h'
    · rfl
    · rw [prog_none h1] at hm; cases hm
  · rintro rfl
    simp [mt, prog_end]
theorem prog_rm_end (r : RE) : rm (prog r) (clen r) = true := by simp [rm, prog_end]
theorem prog_run {r : RE} (h : WfR r) (w : List Nat) : Run (prog r) 0 w (clen r) ↔ Lang r w := by
  constructor
  · rintro ⟨n, hr⟩
    obtain ⟨w1, w2, m, rfl, h1, -, h2⟩ := (prog_good h).only n w _ hr (.inr (Nat.le_refl _))
    cases h2 with
    | nil => rw [List.append_nil]; exact h1
    | eps h' hy _ => rw [prog_end] at h'; injection h' with h'; subst h'; simp [Ins.succs] at hy
    | byte h' _ _ _ => rw [prog_end] at h'; cases h'
  · exact (prog_good h).full w

theorem prog_start {r : RE} (h : WfR r) : ∀ l0, AddOk (prog r) [] 0 l0 → l0.filter (rm (prog r)) ≠ [] := by
  intro l0 h0 e
  obtain ⟨w, n, hr⟩ : ∃ w, Run (prog r) 0 w (clen r) := by
    by_cases hz : clen r = 0
    · rw [hz]; exact ⟨[], .nil _ 0⟩
    · exact (prog_good h).live 0 (Nat.le_refl _) (by omega)
  obtain ⟨x, h1, h2⟩ := run_kept hr (prog_rm_end r)
  have hx : x ∈ l0.filter (rm (prog r)) := List.mem_filter.2 ⟨reach_in (fun x hx i hi y hy => h0.closed x hx (by simp) i hi y hy) h1 h0.mem, h2⟩
  rw [e] at hx
  cases hx

/-- Behind a beginning the automaton matches just if it is a word. -/
theorem m_iff {r : RE} (h : WfR r) {S : List DSt} (hD : Dfa (prog r) S) (bs : List Nat) (hb : ∀ c, c ∈ bs → c < 256) {k : Nat} (hk : k ≤ bs.length) : mOf S (stAt S bs k) = true ↔ Lang r (bs.take k) := by
  rw [← prog_run h]
  rcases dfa_at hD bs hb k hk with ⟨h0, hn⟩ | ⟨h1, s, hs, hm⟩
  · rw [h0]
    obtain ⟨z, hz, -, hzm, -⟩ := hD.inv.zero
    have : mOf S 0 = false := by simp [mOf, hz, hzm]
    rw [this]
    exact ⟨fun e => (by cases e), fun hr => absurd ⟨prog_rm_end r, hr⟩ (hn (clen r))⟩
  · have hok := hD.inv.ok _ s h1 hs
    have : mOf S (stAt S bs k) = s.l.any (mt (prog r)) := by simp [mOf, hs, hok.m]
    rw [this, List.any_eq_true]
    constructor
    · rintro ⟨x, hx, hmx⟩
      rw [prog_mt h] at hmx
      subst hmx
      exact ((hm _).1 hx).2
    · intro hr
      exact ⟨clen r, (hm _).2 ⟨prog_rm_end r, hr⟩, (prog_mt h).2 rfl⟩
/-- .. and can match just if it is the beginning of a word. -/
theorem c_iff {r : RE} (h : WfR r) {S : List DSt} (hD : Dfa (prog r) S) (bs : List Nat) (hb : ∀ c, c ∈ bs → c < 256) {k : Nat} (hk : k ≤ bs.length) : 1 ≤ stAt S bs k ↔ ∃ v, Lang r (bs.take k ++ v) := by
  have key : (∃ x, Kept (prog r) (bs.take k) x) ↔ ∃ v, Lang r (bs.take k ++ v) := by
    constructor
    · rintro ⟨x, hx, hr⟩
      rcases Nat.lt_trichotomy x (clen r) with h1 | rfl | h1
      · obtain ⟨v, hv⟩ := (prog_good h).live x (Nat.zero_le _) h1
        exact ⟨v, (prog_run h _).1 (hr.trans hv)⟩
      · exact ⟨[], by rw [List.append_nil]; exact (prog_run h _).1 hr⟩
      · simp [rm, prog_none h1] at hx
    · rintro ⟨v, hv⟩
      obtain ⟨n, hr⟩ := (prog_run h _).2 hv
      exact run_mid hr (prog_rm_end r)
  rw [← key]
  rcases dfa_at hD bs hb k hk with ⟨h0, hn⟩ | ⟨h1, s, hs, hm⟩
  · rw [h0]
    exact ⟨fun e => (by omega), fun ⟨x, hx⟩ => absurd hx (hn x)⟩
  · refine ⟨fun _ => ?_, fun _ => h1⟩
    have hne := (hD.inv.ok _ s h1 hs).ne
    cases hl : s.l with
    | nil => exact absurd hl hne
    | cons x l => exact ⟨x, (hm x).1 (by rw [hl]; simp)⟩
end Go.Proofs.YtjeklnbfpehbeaaDoor

/- Small expressions have small automata: at most six places that are kept, so at most 1957 lists of them. Condition: at most five ranges of bytes. -/
namespace Go.Proofs.YtjeklnbfpehbeaaDoor

/-- How many ranges of bytes an expression is made of, about. -/
def pairPl (q : Nat × Nat) : Nat := if 128 ≤ q.2 then 31 else 1
def classPl (l : List (Nat × Nat)) : Nat := (l.map pairPl).sum
mutual
def plc : RE → Nat
  | .emp => 0
  | .lit rs => (rs.map fun r => (enc r).length).sum
  | .cls l => classPl l
  | .any => classPl [(0, 1114111)]
  | .anyNl => classPl [(0, 9), (11, 1114111)]
  | .cat l => plcs l
  | .alt l => plcs l
  | .star r => plc r
  | .plus r => plc r * 2
  | .quest r => plc r
  | .rep mn none r => plc r * (mn + 1)
  | .rep mn (some mx) r => plc r * (max mn mx + 1)
  | .cap r => plc r
def plcs : List RE → Nat
  | [] => 0
  | r :: l => plc r + plcs l
end
theorem plcs_eq (l : List RE) : plcs l = (l.map plc).sum := by
  induction l with
  | nil => simp [plcs]
  | cons r l ih => simp [plcs, ih]

def isRng : Ins → Bool
  | .rng _ _ => true
  | _ => false
def kc (l : List Ins) : Nat := l.countP isRng
theorem kc_app (a b : List Ins) : kc (a ++ b) = kc a + kc b := List.countP_append
theorem kc_cons (x : Ins) (l : List Ins) : kc (x :: l) = kc l + (if isRng x then 1 else 0) := List.countP_cons
theorem kc_rngs (rs : List (Nat × Nat)) : kc (rngs rs) = rs.length := by
  induction rs with
  | nil => rfl
  | cons r rs ih => simp only [rngs, List.map_cons, kc_cons, List.length_cons] at *; rw [ih]; rfl

section
variable {α : Type} {f : α → Nat → List Ins} {g : α → Nat}
theorem kc_seq (l : List α) (h : ∀ a, a ∈ l → ∀ o, kc (f a o) ≤ g a) : ∀ o, kc (seqC (l.map f) o) ≤ (l.map g).sum := by
  induction l with
  | nil => intro o; simp [seqC, kc]
  | cons a l ih =>
    intro o
    simp only [List.map_cons, seqC, kc_app, List.sum_cons]
    have h1 := h a (by simp) o
    have h2 := ih (fun a ha => h a (by simp [ha])) (o + (f a o).length)
    omega
theorem kc_altE (l : List α) (h : ∀ a, a ∈ l → ∀ o, kc (f a o) ≤ g a) (e : Nat) : ∀ o, kc (altE o (l.map f) e) ≤ (l.map g).sum := by
  induction l with
  | nil => intro o; simp [altE, kc]
  | cons a l ih =>
    intro o
    cases l with
    | nil => simp only [List.map_cons, List.map_nil, altE, List.sum_cons, List.sum_nil]; exact h a (by simp) o
    | cons d l =>
      have h1 := h a (by simp) (o + 1)
      have h2 := ih (fun a ha => h a (by simp [ha])) (o + (f a (o + 1)).length + 2)
      simp only [List.map_cons, altE, kc_app, kc_cons, List.cons_append, List.sum_cons] at h2 ⊢
      simp only [isRng] at *
      simp at h2 ⊢
      omega
end
theorem kc_optC {c : Nat → List Ins} {n : Nat} (h : ∀ o, kc (c o) ≤ n) (e k : Nat) : ∀ o, kc (optC c e k o) ≤ n * k := by
  induction k with
  | zero => intro o; simp [optC, kc]
  | succ k ih =>
    intro o
    have h1 := h (o + 1)
    have h2 := ih (o + 1 + (c (o + 1)).length)
    simp only [optC, List.cons_append, kc_cons, kc_app, isRng, Nat.mul_add, Nat.mul_one]
    simp
    omega
theorem kc_pow {c : Nat → List Ins} {n : Nat} (h : ∀ o, kc (c o) ≤ n) (k o : Nat) : kc (seqC (List.replicate k c) o) ≤ n * k := by
  have := kc_seq (f := fun _ : Unit => c) (g := fun _ => n) (List.replicate k ()) (fun _ _ => h) o
  simp only [List.map_replicate, List.sum_replicate_nat] at this
  rw [Nat.mul_comm]
  exact this
theorem kc_starC {c : Nat → List Ins} {n : Nat} (h : ∀ o, kc (c o) ≤ n) (o : Nat) : kc (starC c o) ≤ n := by
  have h1 := h (o + 1)
  have h2 : kc (starC c o) = kc (c (o + 1)) := by
    unfold starC
    rw [List.cons_append, kc_cons, kc_app]
    rfl
  omega
theorem kc_le_len (l : List Ins) : kc l ≤ l.length := List.countP_le_length
theorem parts_low {a b : Nat} (h : okRange a b) (hb : b < 128) : parts a b = [(a, b)] := by
  refine parts_leaf ?_
  unfold cut
  rw [if_neg (by omega), if_neg (by omega), if_neg (by omega), if_neg (by omega), if_pos (by omega)]
theorem kc_pair {q : Nat × Nat} (h : okRange q.1 q.2) (hp : pairPl q ≤ 30) (o : Nat) : kc (pairC q o) ≤ pairPl q := by
  unfold pairPl at hp ⊢
  split at hp
  · omega
  · rename_i hq
    rw [if_neg hq]
    have hle := h.2.2
    simp only [pairC, rangeC]
    rw [parts_low h (by omega)]
    have e : altc ([(q.1, q.2)].map partC) o = rngs ((enc q.1).zip (enc q.2)) := by simp [altc, altE, partC]
    rw [e, kc_rngs, List.length_zip]
    have e1 : enc q.1 = [q.1] := if_pos (by omega)
    rw [e1]
    simp only [List.length_cons, List.length_nil]
    omega
theorem le_sum {l : List Nat} {a : Nat} (h : a ∈ l) : a ≤ l.sum := by
  induction l with
  | nil => cases h
  | cons b l ih =>
    rw [List.sum_cons]
    rcases List.mem_cons.1 h with rfl | h
    · omega
    · have := ih h; omega
theorem kc_class {l : List (Nat × Nat)} (h : ∀ q, q ∈ l → okRange q.1 q.2) (hp : classPl l ≤ 30) (o : Nat) : kc (classC l o) ≤ classPl l :=
  kc_altE (f := pairC) (g := pairPl) l (fun q hq o => kc_pair (h q hq) (Nat.le_trans (le_sum (List.mem_map_of_mem hq)) hp) o) _ o
theorem kc_lit (rs : List Nat) : kc (litC rs) ≤ (rs.map fun r => (enc r).length).sum := by
  induction rs with
  | nil => simp [litC, kc]
  | cons r rs ih =>
    have e : litC (r :: rs) = rngs ((enc r).zip (enc r)) ++ litC rs := by simp [litC]
    rw [e, kc_app, kc_rngs, List.length_zip, List.map_cons, List.sum_cons]
    omega

/-- An expression of few ranges has few instructions that take bytes. -/
theorem kc_code (r : RE) : WfR r → plc r ≤ 30 → ∀ o, kc (code r o) ≤ plc r := by
  refine RE.ind (P := fun r => WfR r → plc r ≤ 30 → ∀ o, kc (code r o) ≤ plc r) ?_ ?_ ?_ ?_ ?_ ?_ ?_ ?_ ?_ ?_ ?_ ?_ r
  · intro _ _ o; simp [code, kc]
  · intro rs _ _ o; simp only [code, plc]; exact kc_lit rs
  · intro l h hp o; simp only [code, plc, WfR] at *; exact kc_class h.2.2 hp o
  · intro _ hp o; simp only [plc] at hp; simp [classPl, pairPl] at hp
  · intro _ hp o; simp only [plc] at hp; simp [classPl, pairPl] at hp
  · intro l ih h hp o
    simp only [code, plc, WfR, codes_eq, plcs_eq] at *
    exact kc_seq l (fun r hr o => ih r hr (WfL_mem h.2 r hr) (Nat.le_trans (le_sum (List.mem_map_of_mem hr)) hp) o) o
  · intro l ih h hp o
    simp only [code, plc, WfR, codes_eq, plcs_eq] at *
    exact kc_altE l (fun r hr o => ih r hr (WfL_mem h.2.2 r hr) (Nat.le_trans (le_sum (List.mem_map_of_mem hr)) hp) o) _ o
  · intro r ih h hp o; simp only [code, plc, WfR] at *; exact kc_starC (ih h hp) o
  · intro r ih h hp o
    simp only [code, plc, WfR] at *
    have := ih h (by omega) o
    rw [kc_app]
    have h2 : kc [Ins.split o (o + (code r o).length + 1)] = 0 := rfl
    omega
  · intro r ih h hp o
    simp only [code, plc, WfR] at *
    have := ih h hp (o + 1)
    rw [kc_cons]
    simp [isRng]
    exact this
  · intro mn mx r ih h hp o
    have hw : WfR r := by simp only [WfR] at h; exact h.2.2
    cases mx with
    | none =>
      simp only [code, plc] at *
      have h1 : plc r ≤ 30 := Nat.le_trans (Nat.le_mul_of_pos_right _ (by omega)) hp
      rw [kc_app, Nat.mul_add, Nat.mul_one]
      have h2 := kc_pow (ih hw h1) mn o
      have h3 := kc_starC (ih hw h1) (o + (seqC (List.replicate mn (code r)) o).length)
      omega
    | some mx =>
      simp only [code, plc, WfR] at *
      have h1 : plc r ≤ 30 := Nat.le_trans (Nat.le_mul_of_pos_right _ (by omega)) hp
      have hm := (h.2.1 mx rfl).2
      rw [kc_app]
      have h2 := kc_pow (ih hw h1) mn o
      have h3 := kc_optC (ih hw h1) (o + (seqC (List.replicate mn (code r)) o).length + (optC (code r) 0 (mx - mn) (o + (seqC (List.replicate mn (code r)) o).length)).length) (mx - mn) (o + (seqC (List.replicate mn (code r)) o).length)
      have h4 : plc r * mn + plc r * (mx - mn) = plc r * mx := by rw [← Nat.mul_add]; congr 1; omega
      have h5 : max mn mx = mx := by omega
      rw [h5, Nat.mul_add, Nat.mul_one]
      omega
  · intro r ih h hp o; simp only [code, plc, WfR] at *; exact ih h hp o

/-- All lists without repetition of elements of X. -/
def enum : Nat → List Nat → List (List Nat)
  | 0, _ => [[]]
  | k + 1, X => [] :: X.flatMap fun x => (enum k (X.erase x)).map (x :: ·)
def enumN : Nat → Nat
  | 0 => 1
  | k + 1 => 1 + (k + 1) * enumN k
theorem enumN_mono (k : Nat) : enumN k ≤ enumN (k + 1) := by
  rw [enumN, Nat.add_mul, Nat.one_mul]
  omega
theorem enum_len : ∀ (k : Nat) (X : List Nat), X.length ≤ k → (enum k X).length ≤ enumN k := by
  intro k
  induction k with
  | zero => intro X _; simp [enum, enumN]
  | succ k ih =>
    intro X hX
    simp only [enum, enumN, List.length_cons]
    have : ∀ Y : List Nat, (∀ x, x ∈ Y → x ∈ X) → (Y.flatMap fun x => (enum k (X.erase x)).map (x :: ·)).length ≤ Y.length * enumN k := by
      intro Y
      induction Y with
      | nil => intro _; simp
      | cons y Y ihY =>
        intro hY
        rw [List.flatMap_cons, List.length_append, List.length_map, List.length_cons, Nat.add_mul, Nat.one_mul]
        have h1 := ih (X.erase y) (by rw [List.length_erase_of_mem (hY y (by simp))]; omega)
        have h2 := ihY (fun x hx => hY x (by simp [hx]))
        omega
    have h1 := this X (fun x hx => hx)
    have h2 : X.length * enumN k ≤ (k + 1) * enumN k := Nat.mul_le_mul_right _ hX
    omega
theorem enum_mem : ∀ (k : Nat) (X l : List Nat), X.length ≤ k → l.Nodup → (∀ x, x ∈ l → x ∈ X) → l ∈ enum k X := by
  intro k
  induction k with
  | zero =>
    intro X l hX hn hl
    cases l with
    | nil => simp [enum]
    | cons x l =>
      have := hl x (by simp)
      rw [List.length_eq_zero_iff.1 (by omega : X.length = 0)] at this
      cases this
  | succ k ih =>
    intro X l hX hn hl
    cases l with
    | nil => simp [enum]
    | cons x l =>
      rw [List.nodup_cons] at hn
      simp only [enum, List.mem_cons, List.mem_flatMap, List.mem_map]
      right
      refine ⟨x, hl x (by simp), l, ?_, rfl⟩
      refine ih (X.erase x) l (by rw [List.length_erase_of_mem (hl x (by simp))]; omega) hn.2 (fun y hy => ?_)
      rw [List.mem_erase_of_ne (fun e => by subst e; exact hn.1 hy)]
      exact hl y (by simp [hy])
theorem len_le_of_sub {α : Type} [DecidableEq α] : ∀ (A B : List α), A.Nodup → (∀ a, a ∈ A → a ∈ B) → A.length ≤ B.length
  | [], _, _, _ => Nat.zero_le _
  | a :: A, B, hn, hs => by
    rw [List.nodup_cons] at hn
    have ha := hs a (by simp)
    have := len_le_of_sub A (B.erase a) hn.2 (fun x hx => by
      rw [List.mem_erase_of_ne (fun e => by subst e; exact hn.1 hx)]
      exact hs x (by simp [hx]))
    rw [List.length_erase_of_mem ha] at this
    have hp := List.length_pos_of_mem ha
    simp only [List.length_cons]
    omega

theorem filt_count (l : List Ins) : ((List.range l.length).filter fun x => (l[x]?).any isRng).length = kc l := by
  have e : (List.range l.length).map (fun x => l[x]?) = l.map some := by
    apply List.ext_getElem
    · simp
    · intro i h1 h2
      simp at h1
      simp [h1]
  rw [← List.countP_eq_length_filter]
  have h1 : (List.range l.length).countP (fun x => (l[x]?).any isRng) = ((List.range l.length).map (fun x => l[x]?)).countP (fun o => o.any isRng) := by rw [List.countP_map]; rfl
  rw [h1, e, List.countP_map]
  rfl

/-- A small expression's automaton is small. -/
theorem small_cap {r : RE} (h : WfR r) (hp : plc r ≤ 5) : Cap (prog r) := by
  intro Ls hLs hl
  have hk : kc (code r 0) ≤ 5 := Nat.le_trans (kc_code r h (by omega) 0) hp
  let X := ((List.range (code r 0).length).filter fun x => ((code r 0)[x]?).any isRng) ++ [clen r]
  have hX : X.length ≤ 6 := by
    simp only [X, List.length_append, List.length_cons, List.length_nil]
    rw [filt_count]
    omega
  have hin : ∀ x, x < (prog r).length → rm (prog r) x = true → x ∈ X := by
    intro x hx hr
    rw [prog_len] at hx
    simp only [X, List.mem_append, List.mem_filter, List.mem_range, List.mem_singleton]
    by_cases e : x = clen r
    · exact .inr e
    · left
      have hx2 : x < (code r 0).length := by have : (code r 0).length = clen r := rfl; omega
      refine ⟨hx2, ?_⟩
      have hpx : (prog r)[x]? = (code r 0)[x]? := by unfold prog; rw [List.getElem?_append_left hx2]
      have hmt : mt (prog r) x ≠ true := fun hm => e ((prog_mt h).1 hm)
      unfold rm at hr
      unfold mt at hmt
      rw [hpx] at hr hmt
      cases hc : (code r 0)[x]? with
      | none => rw [hc] at hr; simp at hr
      | some i => cases i <;> simp_all [isRng]
  have h1 : Ls.length ≤ (enum 6 X).length := len_le_of_sub Ls _ hLs (fun l hm => enum_mem 6 X l hX (hl l hm).1 (fun x hx => hin x ((hl l hm).2 x hx).1 ((hl l hm).2 x hx).2))
  have h2 := enum_len 6 X hX
  have h3 : enumN 6 = 1957 := rfl
  omega
end Go.Proofs.YtjeklnbfpehbeaaDoor

/- An expression of few levels has few instructions: at most four times its places and some more. Condition: each node has at most three parts and repeats at most five times. -/
namespace Go.Proofs.YtjeklnbfpehbeaaDoor

mutual
/-- How many levels an expression has at most, and how wide it is. -/
def Shp : RE → Nat → Prop
  | .emp, _ => True
  | .lit rs, _ => rs.length ≤ 4
  | .cls l, _ => l.length ≤ 4
  | .any, _ => True
  | .anyNl, _ => True
  | .cat l, d => ∃ e, d = e + 1 ∧ l.length ≤ 3 ∧ ShpL l e
  | .alt l, d => ∃ e, d = e + 1 ∧ l.length ≤ 3 ∧ ShpL l e
  | .star r, d => ∃ e, d = e + 1 ∧ Shp r e
  | .plus r, d => ∃ e, d = e + 1 ∧ Shp r e
  | .quest r, d => ∃ e, d = e + 1 ∧ Shp r e
  | .rep mn mx r, d => ∃ e, d = e + 1 ∧ mn ≤ 3 ∧ (∀ m, mx = some m → m ≤ 5) ∧ Shp r e
  | .cap r, d => ∃ e, d = e + 1 ∧ Shp r e
def ShpL : List RE → Nat → Prop
  | [], _ => True
  | r :: l, d => Shp r d ∧ ShpL l d
end
theorem ShpL_mem {l : List RE} {d : Nat} (h : ShpL l d) : ∀ r, r ∈ l → Shp r d := by
  induction l with
  | nil => intro r hr; cases hr
  | cons a l ih =>
    intro r hr
    simp only [ShpL] at h
    rcases List.mem_cons.1 hr with rfl | hr
    · exact h.1
    · exact ih h.2 r hr
def bnd : Nat → Nat
  | 0 => 0
  | d + 1 => 5 * bnd d + 5

section
variable {α : Type} {f : α → Nat → List Ins} {g : α → Nat}
theorem len_seq (l : List α) (h : ∀ a, a ∈ l → ∀ o, (f a o).length ≤ g a) : ∀ o, (seqC (l.map f) o).length ≤ (l.map g).sum := by
  induction l with
  | nil => intro o; simp [seqC]
  | cons a l ih =>
    intro o
    simp only [List.map_cons, seqC, List.length_append, List.sum_cons]
    have h1 := h a (by simp) o
    have h2 := ih (fun a ha => h a (by simp [ha])) (o + (f a o).length)
    omega
theorem len_altE (l : List α) (h : ∀ a, a ∈ l → ∀ o, (f a o).length ≤ g a) (e : Nat) : ∀ o, (altE o (l.map f) e).length ≤ (l.map g).sum + 2 * (l.length - 1) := by
  induction l with
  | nil => intro o; simp [altE]
  | cons a l ih =>
    intro o
    cases l with
    | nil =>
      simp only [List.map_cons, List.map_nil, altE, List.sum_cons, List.sum_nil]
      have := h a (by simp) o
      omega
    | cons d l =>
      have h1 := h a (by simp) (o + 1)
      have h2 := ih (fun a ha => h a (by simp [ha])) (o + (f a (o + 1)).length + 2)
      simp only [List.map_cons, altE, List.length_append, List.length_cons, List.sum_cons] at h2 ⊢
      omega
end
theorem len_optC {c : Nat → List Ins} {n : Nat} (h : ∀ o, (c o).length ≤ n) (e k : Nat) : ∀ o, (optC c e k o).length ≤ (n + 1) * k := by
  induction k with
  | zero => intro o; simp [optC]
  | succ k ih =>
    intro o
    have h1 := h (o + 1)
    have h2 := ih (o + 1 + (c (o + 1)).length)
    simp only [optC, List.length_append, List.length_cons, Nat.mul_add, Nat.mul_one]
    omega
theorem len_pow {c : Nat → List Ins} {n : Nat} (h : ∀ o, (c o).length ≤ n) (k o : Nat) : (seqC (List.replicate k c) o).length ≤ n * k := by
  have := len_seq (f := fun _ : Unit => c) (g := fun _ => n) (List.replicate k ()) (fun _ _ => h) o
  simp only [List.map_replicate, List.sum_replicate_nat] at this
  rw [Nat.mul_comm]
  exact this
theorem len_pair {q : Nat × Nat} (h : okRange q.1 q.2) (o : Nat) : (pairC q o).length + 2 ≤ 4 * pairPl q := by
  unfold pairPl
  split
  · have := rangeC_len h o
    simp only [pairC]
    omega
  · rename_i hq
    have hle := h.2.2
    simp only [pairC, rangeC]
    rw [parts_low h (by omega)]
    have e : altc ([(q.1, q.2)].map partC) o = rngs ((enc q.1).zip (enc q.2)) := by simp [altc, altE, partC]
    have e1 : enc q.1 = [q.1] := if_pos (by omega)
    rw [e, rngs, List.length_map, List.length_zip, e1]
    simp only [List.length_cons, List.length_nil]
    omega
theorem len_class {l : List (Nat × Nat)} (h : ∀ q, q ∈ l → okRange q.1 q.2) (o : Nat) : (classC l o).length ≤ 4 * classPl l := by
  have h1 := len_altE (f := pairC) (g := fun q => 4 * pairPl q - 2) l (fun q hq o => by have := len_pair (h q hq) o; omega) (o + (altE o (l.map pairC) 0).length) o
  have h2 : (l.map fun q => 4 * pairPl q - 2).sum + 2 * l.length ≤ 4 * classPl l := by
    clear h1
    induction l with
    | nil => simp [classPl]
    | cons a l ih =>
      have := ih (fun q hq => h q (by simp [hq]))
      have h3 := len_pair (h a (by simp)) 0
      simp only [List.map_cons, List.sum_cons, List.length_cons, classPl] at this ⊢
      omega
  unfold classC altc
  omega
theorem len_lit (rs : List Nat) : (litC rs).length ≤ (rs.map fun r => (enc r).length).sum := by
  induction rs with
  | nil => simp [litC]
  | cons r rs ih =>
    have e : litC (r :: rs) = rngs ((enc r).zip (enc r)) ++ litC rs := by simp [litC]
    rw [e, List.length_append, rngs, List.length_map, List.length_zip, List.map_cons, List.sum_cons]
    omega
theorem sum_affine {l : List RE} {b : Nat} : (l.map fun r => 4 * plc r + b).sum = 4 * (l.map plc).sum + l.length * b := by
  induction l with
  | nil => simp
  | cons a l ih =>
    simp only [List.map_cons, List.sum_cons, List.length_cons, ih, Nat.add_mul, Nat.one_mul]
    omega
theorem mul_le3 {n b : Nat} (h : n ≤ 3) : n * b ≤ 3 * b := Nat.mul_le_mul_right _ h

/-- How many instructions an expression becomes. -/
theorem clen_le (r : RE) : WfR r → ∀ d, Shp r d → clen r ≤ 4 * plc r + bnd d := by
  have hc : ∀ r : RE, ∀ n, clen r ≤ n → ∀ o, (code r o).length ≤ n := fun r n h o => by rw [clen_eq]; exact h
  refine RE.ind (P := fun r => WfR r → ∀ d, Shp r d → clen r ≤ 4 * plc r + bnd d) ?_ ?_ ?_ ?_ ?_ ?_ ?_ ?_ ?_ ?_ ?_ ?_ r
  · intro _ d _; simp [clen, code]
  · intro rs _ d _
    have := len_lit rs
    simp only [clen, code, plc]
    omega
  · intro l h d _
    simp only [clen, code, plc, WfR] at *
    have := len_class h.2.2 0
    omega
  · intro _ d _
    simp only [clen, code, plc]
    have := len_class (l := [(0, 1114111)]) (by simp [okRange, okRune]) 0
    omega
  · intro _ d _
    simp only [clen, code, plc]
    have := len_class (l := [(0, 9), (11, 1114111)]) (by simp [okRange, okRune]) 0
    omega
  · intro l ih h d hs
    simp only [Shp, WfR] at hs h
    obtain ⟨e, rfl, hl, hs⟩ := hs
    have h1 := len_seq (f := code) (g := fun r => 4 * plc r + bnd e) l (fun r hr => hc r _ (ih r hr (WfL_mem h.2 r hr) e (ShpL_mem hs r hr))) 0
    rw [sum_affine] at h1
    have h2 := mul_le3 (b := bnd e) hl
    simp only [clen, code, plc, codes_eq, plcs_eq, bnd]
    omega
  · intro l ih h d hs
    simp only [Shp, WfR] at hs h
    obtain ⟨e, rfl, hl, hs⟩ := hs
    have h1 := len_altE (f := code) (g := fun r => 4 * plc r + bnd e) l (fun r hr => hc r _ (ih r hr (WfL_mem h.2.2 r hr) e (ShpL_mem hs r hr))) (0 + (altE 0 (l.map code) 0).length) 0
    rw [sum_affine] at h1
    have h2 := mul_le3 (b := bnd e) hl
    simp only [clen, code, plc, codes_eq, plcs_eq, bnd, altc]
    omega
  · intro r ih h d hs
    simp only [Shp, WfR] at hs h
    obtain ⟨e, rfl, hs⟩ := hs
    have h1 := ih h e hs
    rw [clen]
    simp only [code, starC, List.length_append, List.length_cons, List.length_nil, clen_eq, plc, bnd]
    omega
  · intro r ih h d hs
    simp only [Shp, WfR] at hs h
    obtain ⟨e, rfl, hs⟩ := hs
    have h1 := ih h e hs
    rw [clen]
    simp only [code, List.length_append, List.length_cons, List.length_nil, clen_eq, plc, bnd]
    omega
  · intro r ih h d hs
    simp only [Shp, WfR] at hs h
    obtain ⟨e, rfl, hs⟩ := hs
    have h1 := ih h e hs
    rw [clen]
    simp only [code, List.length_cons, clen_eq, plc, bnd]
    omega
  · intro mn mx r ih h d hs
    simp only [Shp, WfR] at hs h
    obtain ⟨e, rfl, hmn, hmx, hs⟩ := hs
    have h1 := ih h.2.2 e hs
    have h2 := len_pow (hc r _ h1) mn 0
    cases mx with
    | none =>
      rw [clen]
      simp only [code, starC, List.length_append, List.length_cons, List.length_nil, clen_eq, plc, bnd]
      have h3 : (4 * plc r + bnd e) * mn + (4 * plc r + bnd e) = 4 * (plc r * (mn + 1)) + bnd e * (mn + 1) := by
        rw [Nat.add_mul, Nat.mul_assoc, Nat.mul_add (plc r), Nat.mul_add (bnd e)]; simp only [Nat.mul_one]; omega
      have h4 : bnd e * (mn + 1) ≤ bnd e * 4 := Nat.mul_le_mul_left _ (by omega)
      omega
    | some mx =>
      have hm5 := hmx mx rfl
      have hmm := (h.2.1 mx rfl).2
      have h3 := len_optC (hc r _ h1) (0 + (seqC (List.replicate mn (code r)) 0).length + (optC (code r) 0 (mx - mn) (0 + (seqC (List.replicate mn (code r)) 0).length)).length) (mx - mn) (0 + (seqC (List.replicate mn (code r)) 0).length)
      rw [clen]
      simp only [code, List.length_append, plc, bnd]
      have h5 : max mn mx = mx := by omega
      have h6 : (4 * plc r + bnd e) * mn + (4 * plc r + bnd e + 1) * (mx - mn) ≤ (4 * plc r + bnd e) * mx + (mx - mn) := by
        rw [Nat.add_mul (4 * plc r + bnd e) 1, Nat.one_mul, ← Nat.add_assoc, ← Nat.mul_add, show mn + (mx - mn) = mx by omega]
        exact Nat.le_refl _
      have h7 : (4 * plc r + bnd e) * mx ≤ 4 * (plc r * (mx + 1)) + bnd e * 5 := by
        rw [Nat.add_mul, Nat.mul_assoc, Nat.mul_add (plc r)]
        have := Nat.mul_le_mul_left (bnd e) hm5
        omega
      rw [h5]
      omega
  · intro r ih h d hs
    simp only [Shp, WfR] at hs h
    obtain ⟨e, rfl, hs⟩ := hs
    have h1 := ih h e hs
    have h2 : clen (.cap r) = clen r := by rw [clen]; simp only [code]; rfl
    rw [h2]
    simp only [plc, bnd]
    omega
end Go.Proofs.YtjeklnbfpehbeaaDoor

/- Small functions of the law's own side, walked: Valid, Encoded, Times. Condition: the runes have bytes. -/
namespace Go.Proofs.YtjeklnbfpehbeaaDoor
open Go.RowKit

theorem valid_spec (w : World) (z : Int) : Calls Tryd.prog 24 #[.int .i32 z] w fun e w' => e = .returned (.bool (decide (0 ≤ z ∧ z ≤ 1114111 ∧ (z < 55296 ∨ 57343 < z)))) ∧ w = w' := by
  by_cases h1 : 0 ≤ z
  · by_cases h2 : z ≤ 1114111
    · by_cases h3 : z < 55296
      · rw [decide_eq_true ⟨h1, h2, .inl h3⟩]
        go_enter Tryd.func24, Tryd.ntmps24
        go_wp2
        go_ret
        exact ⟨rfl, rfl⟩
      · by_cases h4 : 57343 < z
        · rw [decide_eq_true ⟨h1, h2, .inr h4⟩]
          go_enter Tryd.func24, Tryd.ntmps24
          go_wp2
          go_ret
          exact ⟨rfl, rfl⟩
        · rw [decide_eq_false (by omega)]
          go_enter Tryd.func24, Tryd.ntmps24
          go_wp2
          go_ret
          exact ⟨rfl, rfl⟩
    · rw [decide_eq_false (by omega)]
      go_enter Tryd.func24, Tryd.ntmps24
      go_wp2
      go_ret
      exact ⟨rfl, rfl⟩
  · rw [decide_eq_false (by omega)]
    go_enter Tryd.func24, Tryd.ntmps24
    go_wp2
    go_ret
    exact ⟨rfl, rfl⟩
theorem valid_ok (w : World) {r : Nat} (h : okRune r) : Calls Tryd.prog 24 #[.int .i32 (r : Int)] w fun e w' => e = .returned (.bool true) ∧ w = w' := by
  have := valid_spec w (r : Int)
  rw [decide_eq_true (by have := h.1; have := h.2; omega)] at this
  exact this

/-- A text of bytes. -/
def strB (l : List Nat) : ByteArray := strOfNums (l.map fun (n : Nat) => (n : Int))
theorem strB_size (l : List Nat) : (strB l).size = l.length := by simp [strB, strOfNums_size]
theorem strB_bytes (l : List Nat) (h : ∀ x, x ∈ l → x < 256) : bytesOf (strB l) = l := by
  unfold bytesOf strB
  rw [strOfNums_data]
  simp only [List.map_map]
  conv => rhs; rw [← List.map_id l]
  apply List.map_congr_left
  intro x hx
  have := h x hx
  simp
  omega
theorem conv_str (w : World) (l : List Nat) (n : Nat) (hn : n = l.length) : (convert 92 9 (.slice (some ⟨w.heap.size, 0, none⟩) n n)).run Tryd.prog (w.alloc (.cells (u8s l).toArray 5)) = .ok (.string (strB l)) (w.alloc (.cells (u8s l).toArray 5)) := by
  subst hn
  have hb := Blk.new w (u8s l) 5
  refine run_convert_bytes_arg (P := Tryd.prog) _ 92 5 (by kernel_rfl) (by kernel_rfl) w.heap.size 0 l.length l.length _ (by simp) (fun i hi => ?_) 9 (by kernel_rfl)
  rw [Nat.zero_add]
  refine hb.cell i ?_
  simp [u8s, List.getElem?_eq_getElem hi, List.getD]

set_option maxRecDepth 100000 in
set_option maxHeartbeats 2000000 in
/-- A rune's bytes as a text. -/
theorem enc12_spec (w : World) {r : Nat} (h : okRune r) (h20 : r < 2048) : Calls Tryd.prog 25 #[.int .i32 (r : Int)] w fun e w' => e = .returned (.string (strB (enc r))) ∧ Fr (fun _ => False) w w' := by
  have hv := valid_ok w h
  have hr := h.1
  by_cases h1 : r < 128
  · have ee : enc r = [r] := if_pos h1
    rw [ee]
    have e1 : (r : Int) < 128 := by omega
    have e3 : IntKind.u8.wrap (r : Int) = (r : Int) := by rw [IntKind.wrap_u8]; omega
    have hc : (convert 92 9 (.slice (some ⟨w.heap.size, 0, none⟩) 1 1)).run Tryd.prog (w.alloc (.cells #[.int .u8 (r : Int)] 5)) = .ok (.string (strB [r])) (w.alloc (.cells #[.int .u8 (r : Int)] 5)) := conv_str w [r] 1 rfl
    clear h
    go_enter Tryd.func25, Tryd.ntmps25
    go_wp2_with fail
    refine hv.mono ?_
    rintro e w1 ⟨rfl, rfl⟩
    go_wp2_with fail
    go_ret
    exact ⟨rfl, (Fr.refl _ w).alloc _⟩
  · have e1 : ¬ ((r : Int) < 128) := by omega
    obtain ⟨y1, hy1⟩ : ∃ y, Hid (y = r % 64) := ⟨_, Lib.hid rfl⟩
    obtain ⟨y2, hy2⟩ : ∃ y, Hid (y = r / 64 % 64) := ⟨_, Lib.hid rfl⟩
    obtain ⟨y3, hy3⟩ : ∃ y, Hid (y = r / 4096 % 64) := ⟨_, Lib.hid rfl⟩
    have l1 : y1 < 64 := by have := hy1.out; omega
    have l2 : y2 < 64 := by have := hy2.out; omega
    have l3 : y3 < 64 := by have := hy3.out; omega
    have m1 : bits .and .i32 (r : Int) 63 = (y1 : Int) := by rw [hy1.out]; exact and_mask (a := r) (by omega) (j := 6) (by decide)
    have m2 : bits .and .i32 ((r : Int) / 64) 63 = (y2 : Int) := by rw [hy2.out]; exact and_mask (a := r / 64) (by omega) (j := 6) (by decide)
    have m3 : bits .and .i32 ((r : Int) / 4096) 63 = (y3 : Int) := by rw [hy3.out]; exact and_mask (a := r / 4096) (by omega) (j := 6) (by decide)
    have m4 : (y1 : Int) % 256 = (y1 : Int) := by omega
    have m5 : (y2 : Int) % 256 = (y2 : Int) := by omega
    have m6 : (y3 : Int) % 256 = (y3 : Int) := by omega
    have o1 : bits .or .u8 128 (y1 : Int) = 128 + (y1 : Int) := by have := or_u8 (k := 7) (q := 1) (x := y1) (by omega) (by omega); simpa using this
    have o2 : bits .or .u8 128 (y2 : Int) = 128 + (y2 : Int) := by have := or_u8 (k := 7) (q := 1) (x := y2) (by omega) (by omega); simpa using this
    have o3 : bits .or .u8 128 (y3 : Int) = 128 + (y3 : Int) := by have := or_u8 (k := 7) (q := 1) (x := y3) (by omega) (by omega); simpa using this
    have h2 := h20
    · obtain ⟨t, ht⟩ : ∃ t, Hid (t = r / 64) := ⟨_, Lib.hid rfl⟩
      have lt : t < 32 := by have := ht.out; omega
      have s1 : (r : Int) / 64 = (t : Int) := by have := ht.out; omega
      have s2 : (t : Int) % 256 = (t : Int) := by omega
      have s3 : bits .or .u8 192 (t : Int) = 192 + (t : Int) := by have := or_u8 (k := 6) (q := 3) (x := t) (by omega) (by omega); simpa using this
      have ee : enc r = [192 + t, 128 + y1] := by rw [ht.out, hy1.out, enc, if_neg h1, if_pos h2]
      rw [ee]
      have e2 : (r : Int) < 2048 := by omega
      have hc : (convert 92 9 (.slice (some ⟨w.heap.size, 0, none⟩) 2 2)).run Tryd.prog (w.alloc (.cells #[.int .u8 (192 + (t : Int)), .int .u8 (128 + (y1 : Int))] 5)) = .ok (.string (strB [192 + t, 128 + y1])) (w.alloc (.cells #[.int .u8 (192 + (t : Int)), .int .u8 (128 + (y1 : Int))] 5)) := conv_str w [192 + t, 128 + y1] 2 rfl
      clear h
      go_enter Tryd.func25, Tryd.ntmps25
      go_wp2_with fail
      refine hv.mono ?_
      rintro e w1 ⟨rfl, rfl⟩
      go_wp2_with fail
      go_ret
      exact ⟨rfl, (Fr.refl _ w).alloc _⟩
end Go.Proofs.YtjeklnbfpehbeaaDoor

/- Encoded of the law's own side at runes of three and four bytes, walked. Condition: the rune has bytes. -/
namespace Go.Proofs.YtjeklnbfpehbeaaDoor
open Go.RowKit

set_option maxRecDepth 100000 in
set_option maxHeartbeats 2000000 in
theorem enc3_spec (w : World) {r : Nat} (h : okRune r) (h2 : ¬ r < 2048) (h3 : r < 65536) : Calls Tryd.prog 25 #[.int .i32 (r : Int)] w fun e w' => e = .returned (.string (strB (enc r))) ∧ Fr (fun _ => False) w w' := by
  have hv := valid_ok w h
  have hr := h.1
  have h1 : ¬ r < 128 := by omega
  have e1 : ¬ ((r : Int) < 128) := by omega
  have e2 : ¬ ((r : Int) < 2048) := by omega
  obtain ⟨y1, hy1⟩ : ∃ y, Hid (y = r % 64) := ⟨_, Lib.hid rfl⟩
  obtain ⟨y2, hy2⟩ : ∃ y, Hid (y = r / 64 % 64) := ⟨_, Lib.hid rfl⟩
  obtain ⟨y3, hy3⟩ : ∃ y, Hid (y = r / 4096 % 64) := ⟨_, Lib.hid rfl⟩
  have l1 : y1 < 64 := by have := hy1.out; omega
  have l2 : y2 < 64 := by have := hy2.out; omega
  have l3 : y3 < 64 := by have := hy3.out; omega
  have m1 : bits .and .i32 (r : Int) 63 = (y1 : Int) := by rw [hy1.out]; exact and_mask (a := r) (by omega) (j := 6) (by decide)
  have m2 : bits .and .i32 ((r : Int) / 64) 63 = (y2 : Int) := by rw [hy2.out]; exact and_mask (a := r / 64) (by omega) (j := 6) (by decide)
  have m3 : bits .and .i32 ((r : Int) / 4096) 63 = (y3 : Int) := by rw [hy3.out]; exact and_mask (a := r / 4096) (by omega) (j := 6) (by decide)
  have m4 : (y1 : Int) % 256 = (y1 : Int) := by omega
  have m5 : (y2 : Int) % 256 = (y2 : Int) := by omega
  have m6 : (y3 : Int) % 256 = (y3 : Int) := by omega
  have o1 : bits .or .u8 128 (y1 : Int) = 128 + (y1 : Int) := by have := or_u8 (k := 7) (q := 1) (x := y1) (by omega) (by omega); simpa using this
  have o2 : bits .or .u8 128 (y2 : Int) = 128 + (y2 : Int) := by have := or_u8 (k := 7) (q := 1) (x := y2) (by omega) (by omega); simpa using this
  have o3 : bits .or .u8 128 (y3 : Int) = 128 + (y3 : Int) := by have := or_u8 (k := 7) (q := 1) (x := y3) (by omega) (by omega); simpa using this
  obtain ⟨t, ht⟩ : ∃ t, Hid (t = r / 4096) := ⟨_, Lib.hid rfl⟩
  have lt : t < 16 := by have := ht.out; omega
  have s1 : (r : Int) / 4096 = (t : Int) := by have := ht.out; omega
  have s2 : (t : Int) % 256 = (t : Int) := by omega
  have s3 : bits .or .u8 224 (t : Int) = 224 + (t : Int) := by have := or_u8 (k := 5) (q := 7) (x := t) (by omega) (by omega); simpa using this
  have ee : enc r = [224 + t, 128 + y2, 128 + y1] := by rw [ht.out, hy1.out, hy2.out, enc, if_neg h1, if_neg h2, if_pos h3]
  rw [ee]
  have e4 : (r : Int) < 65536 := by omega
  have hc : (convert 92 9 (.slice (some ⟨w.heap.size, 0, none⟩) 3 3)).run Tryd.prog (w.alloc (.cells #[.int .u8 (224 + (t : Int)), .int .u8 (128 + (y2 : Int)), .int .u8 (128 + (y1 : Int))] 5)) = .ok (.string (strB [224 + t, 128 + y2, 128 + y1])) (w.alloc (.cells #[.int .u8 (224 + (t : Int)), .int .u8 (128 + (y2 : Int)), .int .u8 (128 + (y1 : Int))] 5)) := conv_str w [224 + t, 128 + y2, 128 + y1] 3 rfl
  clear h hr ee h1 h2 h3 ht hy1 hy2 hy3
  generalize (r : Int) = z at *
  go_enter Tryd.func25, Tryd.ntmps25
  go_wp2_with fail
  refine hv.mono ?_
  rintro e w1 ⟨rfl, rfl⟩
  go_wp2_with fail
  go_ret
  exact ⟨rfl, (Fr.refl _ w).alloc _⟩

set_option maxRecDepth 100000 in
set_option maxHeartbeats 2000000 in
theorem enc4_spec (w : World) {r : Nat} (h : okRune r) (h2 : ¬ r < 2048) (h3 : ¬ r < 65536) : Calls Tryd.prog 25 #[.int .i32 (r : Int)] w fun e w' => e = .returned (.string (strB (enc r))) ∧ Fr (fun _ => False) w w' := by
  have hv := valid_ok w h
  have hr := h.1
  have h1 : ¬ r < 128 := by omega
  have e1 : ¬ ((r : Int) < 128) := by omega
  have e2 : ¬ ((r : Int) < 2048) := by omega
  obtain ⟨y1, hy1⟩ : ∃ y, Hid (y = r % 64) := ⟨_, Lib.hid rfl⟩
  obtain ⟨y2, hy2⟩ : ∃ y, Hid (y = r / 64 % 64) := ⟨_, Lib.hid rfl⟩
  obtain ⟨y3, hy3⟩ : ∃ y, Hid (y = r / 4096 % 64) := ⟨_, Lib.hid rfl⟩
  have l1 : y1 < 64 := by have := hy1.out; omega
  have l2 : y2 < 64 := by have := hy2.out; omega
  have l3 : y3 < 64 := by have := hy3.out; omega
  have m1 : bits .and .i32 (r : Int) 63 = (y1 : Int) := by rw [hy1.out]; exact and_mask (a := r) (by omega) (j := 6) (by decide)
  have m2 : bits .and .i32 ((r : Int) / 64) 63 = (y2 : Int) := by rw [hy2.out]; exact and_mask (a := r / 64) (by omega) (j := 6) (by decide)
  have m3 : bits .and .i32 ((r : Int) / 4096) 63 = (y3 : Int) := by rw [hy3.out]; exact and_mask (a := r / 4096) (by omega) (j := 6) (by decide)
  have m4 : (y1 : Int) % 256 = (y1 : Int) := by omega
  have m5 : (y2 : Int) % 256 = (y2 : Int) := by omega
  have m6 : (y3 : Int) % 256 = (y3 : Int) := by omega
  have o1 : bits .or .u8 128 (y1 : Int) = 128 + (y1 : Int) := by have := or_u8 (k := 7) (q := 1) (x := y1) (by omega) (by omega); simpa using this
  have o2 : bits .or .u8 128 (y2 : Int) = 128 + (y2 : Int) := by have := or_u8 (k := 7) (q := 1) (x := y2) (by omega) (by omega); simpa using this
  have o3 : bits .or .u8 128 (y3 : Int) = 128 + (y3 : Int) := by have := or_u8 (k := 7) (q := 1) (x := y3) (by omega) (by omega); simpa using this
  obtain ⟨t, ht⟩ : ∃ t, Hid (t = r / 262144) := ⟨_, Lib.hid rfl⟩
  have lt : t < 8 := by have := ht.out; omega
  have s1 : (r : Int) / 262144 = (t : Int) := by have := ht.out; omega
  have s2 : (t : Int) % 256 = (t : Int) := by omega
  have s3 : bits .or .u8 240 (t : Int) = 240 + (t : Int) := by have := or_u8 (k := 4) (q := 15) (x := t) (by omega) (by omega); simpa using this
  have ee : enc r = [240 + t, 128 + y3, 128 + y2, 128 + y1] := by rw [ht.out, hy1.out, hy2.out, hy3.out, enc, if_neg h1, if_neg h2, if_neg h3]
  rw [ee]
  have e4 : ¬ ((r : Int) < 65536) := by omega
  have hc : (convert 92 9 (.slice (some ⟨w.heap.size, 0, none⟩) 4 4)).run Tryd.prog (w.alloc (.cells #[.int .u8 (240 + (t : Int)), .int .u8 (128 + (y3 : Int)), .int .u8 (128 + (y2 : Int)), .int .u8 (128 + (y1 : Int))] 5)) = .ok (.string (strB [240 + t, 128 + y3, 128 + y2, 128 + y1])) (w.alloc (.cells #[.int .u8 (240 + (t : Int)), .int .u8 (128 + (y3 : Int)), .int .u8 (128 + (y2 : Int)), .int .u8 (128 + (y1 : Int))] 5)) := conv_str w [240 + t, 128 + y3, 128 + y2, 128 + y1] 4 rfl
  clear h hr ee h1 h2 h3 ht hy1 hy2 hy3
  generalize (r : Int) = z at *
  go_enter Tryd.func25, Tryd.ntmps25
  go_wp2_with fail
  refine hv.mono ?_
  rintro e w1 ⟨rfl, rfl⟩
  go_wp2_with fail
  go_ret
  exact ⟨rfl, (Fr.refl _ w).alloc _⟩

/-- A rune's bytes as a text. -/
theorem enc_spec (w : World) {r : Nat} (h : okRune r) : Calls Tryd.prog 25 #[.int .i32 (r : Int)] w fun e w' => e = .returned (.string (strB (enc r))) ∧ Fr (fun _ => False) w w' := by
  by_cases h1 : r < 2048
  · exact enc12_spec w h h1
  · by_cases h2 : r < 65536
    · exact enc3_spec w h h1 h2
    · exact enc4_spec w h h1 h2
end Go.Proofs.YtjeklnbfpehbeaaDoor

/- Sets of places as slices of bools; 'none' and 'in' of the law's own side, walked. Condition: at most 10^6 places. -/
namespace Go.Proofs.YtjeklnbfpehbeaaDoor
open Go.RowKit

/-- The slice v of bools reads as L. -/
def SetAt (w : World) (v : Value) (L : List Bool) : Prop :=
  ∃ b o c cs, v = .slice (some ⟨b, o, none⟩) L.length c ∧ L.length ≤ c ∧ Blk w b cs 4 ∧ ∀ (i : Nat) (x : Bool), L[i]? = some x → w.cell? ⟨b, o + i, none⟩ = some (.bool x)
theorem SetAt.fr {w w' : World} {v : Value} {L : List Bool} {F : Nat → Prop} (h : SetAt w v L) (hf : Fr F w w') (hn : ∀ k cs, Blk w k cs 4 → ¬ F k) : SetAt w' v L := by
  obtain ⟨b, o, c, cs, h1, h2, h3, h4⟩ := h
  exact ⟨b, o, c, cs, h1, h2, h3.fr hf (hn _ _ h3), fun i x hi => hf.cell (h4 i x hi) (hn _ _ h3)⟩

set_option maxRecDepth 100000 in
set_option maxHeartbeats 1000000 in
theorem none_spec {w : World} {v : Value} {L : List Bool} (h : SetAt w v L) (hl : L.length ≤ 1000000) : Calls Tryd.prog 36 #[v] w fun e w' => e = .returned (.bool (L.all (!·))) ∧ w = w' := by
  obtain ⟨b, o, c, cs, rfl, hc, hb, hcell⟩ := h
  obtain ⟨N, hN⟩ : ∃ N, Hid (N = L.length) := ⟨_, Lib.hid rfl⟩
  rw [← hN.out] at hl hc ⊢
  have HC := Lib.hid hcell
  clear hcell hb
  go_enter Tryd.func36, Tryd.ntmps36
  go_wp2_with fail
  go_loopg [3] (N + 1) (fun g i wr => ∃ k : Nat, k ≤ N ∧ g = N - k + 1 ∧ i = .int .i64 (k : Int) ∧ (L.take k).all (!·) = true ∧ wr = w)
  case atStart => exact ⟨0, by omega, by omega, rfl, by simp, rfl⟩
  case round =>
    obtain ⟨k, hk, rfl, rfl, hall, rfl⟩ := hrel
    by_cases hlt : k < N
    · have e1 : (k : Int) < (N : Int) := by omega
      have hkL : k < L.length := by rw [← hN.out]; exact hlt
      obtain ⟨x, hx⟩ : ∃ x, L[k]? = some x := ⟨_, List.getElem?_eq_getElem hkL⟩
      have r0 := HC.out k x hx
      have HX := Lib.hid (And.intro hall hx)
      clear hall hx hkL
      cases x with
      | true =>
        go_wp2_with fail
        go_ret
        have hx := HX.out.2
        have : L.all (!·) = false := by
          rw [List.all_eq_false]
          exact ⟨true, List.mem_of_getElem? hx, by simp⟩
        rw [this]
        exact ⟨rfl, rfl⟩
      | false =>
        go_wp2_with fail
        go_roundg (N - (k + 1) + 1)
        case measure => omega
        case rel =>
          refine ⟨k + 1, by omega, rfl, by simp, ?_, rfl⟩
          rw [take_snoc_getElem? HX.out.2, List.all_append, HX.out.1]
          rfl
    · obtain rfl : k = N := by omega
      have e1 : ¬ ((k : Int) < (k : Int)) := by omega
      have hfin : L.all (!·) = true := by
        rw [List.take_of_length_le (by rw [← hN.out]; exact Nat.le_refl _)] at hall
        exact hall
      have HF := Lib.hid hfin
      clear hall hfin
      go_wp2_with fail
      go_ret
      rw [HF.out]
      exact ⟨rfl, rfl⟩

/-- Whether a rune is in pairs. -/
def inB (l : List (Nat × Nat)) (r : Nat) : Bool := l.any fun q => decide (q.1 ≤ r) && decide (r ≤ q.2)

set_option maxRecDepth 100000 in
set_option maxHeartbeats 1000000 in
theorem in_spec {w : World} {v : Value} {l : List (Nat × Nat)} {r : Nat} (h : RunesAt w v (flat l)) (hl : l.length ≤ 100000) : Calls Tryd.prog 32 #[v, .int .i32 (r : Int)] w fun e w' => e = .returned (.bool (inB l r)) ∧ w = w' := by
  obtain ⟨A, c, hv, -⟩ := id h
  obtain ⟨N, hN⟩ : ∃ N, Hid (N = (flat l).length) := ⟨_, Lib.hid rfl⟩
  have hN2 : N = 2 * l.length := by rw [hN.out, flat_len]
  rw [← hN.out] at hv
  subst hv
  obtain ⟨M, hM⟩ : ∃ M, M = l.length := ⟨_, rfl⟩
  rw [← hM] at hN2 hl
  have HC := Lib.hid (And.intro h (And.intro hM hN2))
  have hNl : N ≤ 200000 := by omega
  clear h hM hN2
  go_enter Tryd.func32, Tryd.ntmps32
  go_wp2_with fail
  go_loopg [5] (M + 1) (fun g i wr => ∃ k t : Nat, k ≤ M ∧ g = M - k + 1 ∧ i = .int .i64 (t : Int) ∧ Hid (t = 2 * k) ∧ Hid ((l.take k).any (fun q => decide (q.1 ≤ r) && decide (r ≤ q.2)) = false) ∧ wr = w)
  case atStart => exact ⟨0, 0, by omega, by omega, rfl, Lib.hid rfl, Lib.hid (by simp), rfl⟩
  case round =>
    obtain ⟨k, t, hk, rfl, rfl, ht, hall, rfl⟩ := hrel
    by_cases hlt : k < M
    · obtain ⟨h, hM, hN2⟩ := HC.out
      have ht' := ht.out
      have e1 : (t : Int) + 1 < (N : Int) := by omega
      have e2 : (t : Int) < (N : Int) := by omega
      have et : t ≤ 300000 := by omega
      obtain ⟨q, hq⟩ : ∃ q, l[k]? = some q := ⟨_, List.getElem?_eq_getElem (by omega)⟩
      obtain ⟨f0, f1⟩ := flat_get hq
      rw [← ht'] at f0 f1
      obtain ⟨b, o, c', e3, r0⟩ := h.get f0
      obtain ⟨b', o', c'', e4, r1⟩ := h.get f1
      simp at e3 e4
      obtain ⟨rfl, -, rfl⟩ := e3
      simp at e4
      obtain ⟨⟨rfl, rfl⟩, -⟩ := e4
      have HX := Lib.hid hq
      clear h hM hN2 ht' hq f0 f1
      have hnext : ∀ x : Bool, (decide (q.1 ≤ r) && decide (r ≤ q.2)) = x → (l.take (k + 1)).any (fun q => decide (q.1 ≤ r) && decide (r ≤ q.2)) = x := fun x hx => by
        rw [take_snoc_getElem? HX.out, List.any_append, hall.out]
        simpa using hx
      have HN := Lib.hid hnext
      clear hnext
      by_cases h1 : q.1 ≤ r
      · have e5 : (q.1 : Int) ≤ (r : Int) := by omega
        by_cases h2 : r ≤ q.2
        · have e6 : (r : Int) ≤ (q.2 : Int) := by omega
          go_wp2_with fail
          go_ret
          have : inB l r = true := by
            unfold inB
            rw [List.any_eq_true]
            exact ⟨q, List.mem_of_getElem? HX.out, by simp [h1, h2]⟩
          rw [this]
          exact ⟨rfl, rfl⟩
        · have e6 : ¬ ((r : Int) ≤ (q.2 : Int)) := by omega
          go_wp2_with fail
          go_roundg (M - (k + 1) + 1)
          case measure => omega
          case rel => exact ⟨k + 1, t + 2, by omega, rfl, by simp, Lib.hid (by have := ht.out; omega), Lib.hid (HN.out false (by simp [h2])), rfl⟩
      · have e5 : ¬ ((q.1 : Int) ≤ (r : Int)) := by omega
        go_wp2_with fail
        go_roundg (M - (k + 1) + 1)
        case measure => omega
        case rel => exact ⟨k + 1, t + 2, by omega, rfl, by simp, Lib.hid (by have := ht.out; omega), Lib.hid (HN.out false (by simp [h1])), rfl⟩
    · have e1 : ¬ ((t : Int) + 1 < (N : Int)) := by have := ht.out; have := HC.out.2.2; omega
      have et : t ≤ 300000 := by have := ht.out; omega
      go_wp2_with fail
      go_ret
      have : inB l r = false := by
        have := hall.out
        rw [List.take_of_length_le (by rw [← HC.out.2.1]; omega)] at this
        exact this
      rw [this]
      exact ⟨rfl, rfl⟩

theorem times_star (w : World) {r : RE} {v : Value} (h : ReAt w r v) {n : Nat} (lo hi : Int) (ho : opOf r = n) (hc : (n = 14 ∧ lo = 0 ∧ hi = -1) ∨ (n = 15 ∧ lo = 1 ∧ hi = -1) ∨ (n = 16 ∧ lo = 0 ∧ hi = 1)) :
    Calls Tryd.prog 34 #[v] w fun e w' => e = .returned (.tuple #[.int .i64 lo, .int .i64 hi]) ∧ Fr (fun _ => False) w w' := by
  obtain ⟨uA, un, uc, um, ux, vA, vn, vc, rfl⟩ := h.form
  rw [ho]
  clear h ho
  rcases hc with ⟨rfl, rfl, rfl⟩ | ⟨rfl, rfl, rfl⟩ | ⟨rfl, rfl, rfl⟩
  all_goals go_enter Tryd.func34, Tryd.ntmps34
  all_goals go_wp2_with fail
  all_goals go_ret2
  all_goals exact ⟨rfl, (Fr.refl _ w).alloc _⟩
end Go.Proofs.YtjeklnbfpehbeaaDoor

/- Sets of places: a copy, and 'either' of the law's own side, walked. Condition: at most 10^6 places, and one at least. -/
namespace Go.Proofs.YtjeklnbfpehbeaaDoor
open Go.RowKit

theorem info4 : (Tryd.prog.info? 4).map (fun i => (i.zero, i.size, i.bytes)) = some (some (.bool false), 1, 1) := by kernel_rfl

/-- A set in a block that was made here. -/
structure NewSet (w : World) (base g c : Nat) (L : List Bool) : Prop where
  blk : ∃ cs, Blk w g cs 4 ∧ ∀ (i : Nat) (x : Bool), L[i]? = some x → cs[i]? = some (.bool x)
  ge : base ≤ g
  le : L.length ≤ c
theorem NewSet.set {w : World} {base g c : Nat} {L : List Bool} (h : NewSet w base g c L) : SetAt w (.slice (some ⟨g, 0, none⟩) L.length c) L := by
  obtain ⟨cs, h1, h2⟩ := h.blk
  exact ⟨g, 0, c, cs, rfl, h.le, h1, fun i x hi => by rw [Nat.zero_add]; exact h1.cell i (h2 i x hi)⟩
theorem NewSet.fr {w w' : World} {base g c : Nat} {L : List Bool} {F : Nat → Prop} (h : NewSet w base g c L) (hf : Fr F w w') (hn : ¬ F g) : NewSet w' base g c L := by
  obtain ⟨cs, h1, h2⟩ := h.blk
  exact ⟨⟨cs, h1.fr hf hn, h2⟩, h.ge, h.le⟩
theorem NewSet.put {w : World} {base g c : Nat} {L : List Bool} (h : NewSet w base g c L) (i : Nat) (x : Bool) : NewSet (w.setCell ⟨g, i, none⟩ (.bool x)) base g c (L.set i x) := by
  obtain ⟨cs, h1, h2⟩ := h.blk
  refine ⟨⟨cs.set i (.bool x), h1.set i _, fun j y hj => ?_⟩, h.ge, by rw [List.length_set]; exact h.le⟩
  by_cases e : i = j
  · subst e
    have hl := (List.getElem?_eq_some_iff.1 hj).1
    rw [List.length_set] at hl
    rw [List.getElem?_set_self hl] at hj
    injection hj with hj; subst hj
    obtain ⟨y, hy⟩ : ∃ y, L[i]? = some y := ⟨_, List.getElem?_eq_getElem hl⟩
    exact List.getElem?_set_self (List.getElem?_eq_some_iff.1 (h2 i y hy)).1
  · rw [List.getElem?_set_ne e] at hj ⊢
    exact h2 j y hj

section
variable {ops : Array Oper} {rest : List Oper} {o : Oper} {a : Act} {Q : Exit → Act → World → Prop}
/-- append([]bool{}, set...). -/
theorem app_set (W : World) (hgd : o.guard = none) (s x : Operand) (ho : o.op = .call { callee := .builtin .append, args := #[s, x], argTypes := #[30, 30] })
    (hs : a.eval s = .slice (some ⟨W.heap.size, 0, none⟩) 0 0) (v : Value) (L : List Bool) (hx : a.eval x = v) (hv : SetAt W v L) (h0 : 0 < L.length) (hl : L.length ≤ 1000000)
    (h : ∀ g c w', NewSet w' W.heap.size g c L → Fr (fun _ => False) W w' → wpList Tryd.prog ops Q rest (a.put o.dst (.slice (some ⟨g, 0, none⟩) L.length c)) w') :
    wpList Tryd.prog ops Q (o :: rest) a (W.alloc (.cells #[] 4)) := by
  obtain ⟨i0, hi, hz0, hz1, hz2⟩ := info_parts info4
  have hF : Fr (fun _ => False) W (W.alloc (.cells #[] 4)) := (Fr.refl _ W).alloc _
  have hrow : (W.alloc (.cells #[] 4)).ownsRow W.heap.size 4 1 (.slice (some ⟨W.heap.size, 0, none⟩) 0 0) 0 [] := by
    have := own_of_blk (base := W.heap.size) (n := 0) (c := 0) (size := 1) (Blk.new W [] 4) (Nat.le_refl _) (Nat.le_refl _) (by decide) (by simp)
    simpa using this
  obtain ⟨b, ob, c, cs, rfl, hc, hb, hcell⟩ := hv
  refine wpList_append_lies (P := Tryd.prog) (w := W.alloc (.cells #[] 4)) hgd s x 30 ho W.heap.size 4 i0 (.bool false) 1 1 Tryd.underlying30 hi hz0 hz1 hz2 rfl (by decide) _ 0 [] hs hrow ⟨b, ob, none⟩ L.length c (L.map Value.bool) hx (by simp) ?_ (by intro u hu; obtain ⟨r, -, rfl⟩ := List.mem_map.1 hu; simp [Value.oneCell']) h0 (by simp only [maxLen]; omega) (by omega) hF.size _ rfl ?_
  · intro j u hj
    rw [List.getElem?_map] at hj
    obtain ⟨r, hr, rfl⟩ := Option.map_eq_some_iff.1 hj
    have e2 : (⟨b, ob, none⟩ : Addr).add j = ⟨b, ob + j, none⟩ := by simp [Addr.add]
    rw [e2]
    exact hF.cell (hcell j r hr) (fun h => h)
  · intro g cap w' h1 h2 h3 h4
    rw [Nat.zero_add] at h1 ⊢
    rcases h1.2 with ⟨e, _⟩ | ⟨g', cap', cur, e, hb', hg', q1, q2, q3, q4⟩
    · cases e
    · simp at e
      obtain ⟨rfl, rfl⟩ := e
      refine h g cap w' ⟨⟨cur.toList, by unfold Blk; simpa using hg', fun i x hi => ?_⟩, hb', q1⟩ ((hF.mono (fun _ _ h => h)).trans ((Fr.refl (fun k => k = W.heap.size) _).grown h2 (fun k hk _ => by simp [Value.ownBlock] at hk; exact hk.symm)) (fun k hk e => by omega))
      have hil : i < L.length := (List.getElem?_eq_some_iff.1 hi).1
      have := congrArg (fun l => l[i]?) q4
      simp only [List.nil_append, Nat.mul_one] at this
      rw [List.getElem?_take_of_lt hil, List.getElem?_map, hi] at this
      exact this
end

def zipOr (A B : List Bool) : List Bool := List.zipWith (fun a b => a || b) A B
theorem zipOr_len {A B : List Bool} (h : A.length = B.length) : (zipOr A B).length = A.length := by simp [zipOr, h]
theorem zipOr_get {A B : List Bool} {i : Nat} {a b : Bool} (h1 : A[i]? = some a) (h2 : B[i]? = some b) : (zipOr A B)[i]? = some (a || b) := by simp [zipOr, List.getElem?_zipWith, h1, h2]
def orUp (A B : List Bool) (k : Nat) : List Bool := (zipOr A B).take k ++ A.drop k
theorem orUp_len {A B : List Bool} (h : A.length = B.length) {k : Nat} (hk : k ≤ A.length) : (orUp A B k).length = A.length := by
  simp only [orUp, List.length_append, List.length_take, List.length_drop, zipOr_len h]; omega
theorem orUp_get {A B : List Bool} (h : A.length = B.length) {k : Nat} {a : Bool} (h1 : A[k]? = some a) : (orUp A B k)[k]? = some a := by
  have hk := (List.getElem?_eq_some_iff.1 h1).1
  unfold orUp
  rw [List.getElem?_append_right (by rw [List.length_take, zipOr_len h]; omega), List.length_take, zipOr_len h, Nat.min_eq_left (by omega), Nat.sub_self, List.getElem?_drop]
  exact h1
theorem orUp_step {A B : List Bool} (h : A.length = B.length) {k : Nat} {a b : Bool} (h1 : A[k]? = some a) (h2 : B[k]? = some b) : (orUp A B k).set k (a || b) = orUp A B (k + 1) := by
  have hk := (List.getElem?_eq_some_iff.1 h1).1
  have hl : ((zipOr A B).take k).length = k := by rw [List.length_take, zipOr_len h]; omega
  unfold orUp
  rw [take_snoc_getElem? (zipOr_get h1 h2), List.set_append_right _ _ (by omega), hl, Nat.sub_self]
  have : A.drop k = a :: A.drop (k + 1) := by
    rw [List.drop_eq_getElem_cons hk]
    congr 1
    have := (List.getElem?_eq_some_iff.1 h1).2
    exact this
  rw [this]
  simp

set_option maxRecDepth 100000 in
set_option maxHeartbeats 2000000 in
theorem either_spec {w : World} {v1 v2 : Value} {A B : List Bool} (h1 : SetAt w v1 A) (h2 : SetAt w v2 B) (hl : A.length = B.length) (h0 : 0 < A.length) (hm : A.length ≤ 1000000) :
    Calls Tryd.prog 33 #[v1, v2] w fun e w' => ∃ g c, e = .returned (.slice (some ⟨g, 0, none⟩) A.length c) ∧ NewSet w' w.heap.size g c (zipOr A B) ∧ Fr (fun _ => False) w w' := by
  have hb2 := h2
  obtain ⟨b, o, cB, csB, rfl, hcB, hbB, hcell⟩ := h2
  obtain ⟨N, hN⟩ : ∃ N, Hid (N = A.length) := ⟨_, Lib.hid rfl⟩
  have hNB : N = B.length := by rw [hN.out, hl]
  rw [← hNB] at hcB hb2
  obtain ⟨b1, o1, c1, cs1, rfl, r1⟩ := id h1
  rw [← hN.out] at h1 h0 hm r1 ⊢
  have HH := Lib.hid (And.intro h1 (And.intro hbB (And.intro hcell (And.intro hl (And.intro hNB r1)))))
  rw [← hNB]
  clear hbB hcell hb2 hl hNB r1
  go_enter Tryd.func33, Tryd.ntmps33
  go_wp2_with (at_builtin; ((refine app_set w rfl _ _ rfl rfl (.slice (some ⟨b1, o1, none⟩) N c1) A rfl (by rw [hN.out] at h1 ⊢; exact h1) (by rw [← hN.out]; exact h0) (by rw [← hN.out]; exact hm) ?_); intro g c w1 hs1 hF1; rw [← hN.out]))
  go_loopg [6] (N + 1) (fun gg i wr => ∃ k : Nat, k ≤ N ∧ gg = N - k + 1 ∧ i = .int .i64 (k : Int) ∧ NewSet wr w.heap.size g c (orUp A B k) ∧ Fr (fun _ => False) w wr)
  case atStart => exact ⟨0, by omega, by omega, rfl, by simpa [orUp] using hs1, hF1⟩
  case round =>
    clear hs1 hF1
    obtain ⟨k, hk, rfl, rfl, hs, hF⟩ := hrel
    by_cases hlt : k < N
    · obtain ⟨-, hbB, hcell, hl, hNB, -⟩ := HH.out
      have hNA := hN.out
      have e1 : (k : Int) < (N : Int) := by omega
      obtain ⟨x, hx⟩ : ∃ x, A[k]? = some x := ⟨_, List.getElem?_eq_getElem (by omega)⟩
      obtain ⟨y, hy⟩ : ∃ y, B[k]? = some y := ⟨_, List.getElem?_eq_getElem (by omega)⟩
      obtain ⟨cs, hcs, hcv⟩ := hs.blk
      have z1 := hcs.cell k (hcv k x (orUp_get hl hx))
      have z2 := hcs.frz k
      have z3 := hF.cell (hcell k y hy) (fun h => h)
      have hput := hs.put k (x || y)
      rw [orUp_step hl hx hy] at hput
      have hge := hs.ge
      have hFp : Fr (fun _ => False) w (wr.setCell ⟨g, k, none⟩ (.bool (x || y))) := hF.setCell (p := ⟨g, k, none⟩) (fun hlt2 => by have : g < w.heap.size := hlt2; omega) _
      have HP := Lib.hid (And.intro hput hFp)
      clear hbB hcell hl hNB hNA hx hy hcs hcv hput hFp hs hF
      cases x with
      | true =>
        go_wp2_with fail
        go_roundg (N - (k + 1) + 1)
        case measure => omega
        case rel => exact ⟨k + 1, by omega, rfl, by simp, HP.out.1, HP.out.2⟩
      | false =>
        cases y with
        | true =>
          go_wp2_with fail
          go_roundg (N - (k + 1) + 1)
          case measure => omega
          case rel => exact ⟨k + 1, by omega, rfl, by simp, HP.out.1, HP.out.2⟩
        | false =>
          go_wp2_with fail
          go_roundg (N - (k + 1) + 1)
          case measure => omega
          case rel => exact ⟨k + 1, by omega, rfl, by simp, HP.out.1, HP.out.2⟩
    · obtain rfl : k = N := by omega
      have e1 : ¬ ((k : Int) < (k : Int)) := by omega
      have HP := Lib.hid (And.intro hs hF)
      clear hs hF
      go_wp2_with fail
      go_ret
      obtain ⟨-, hbB, hcell, hl, hNB, -⟩ := HH.out
      refine ⟨g, c, rfl, ?_, HP.out.2⟩
      have := HP.out.1
      rw [show orUp A B k = zipOr A B by
        unfold orUp
        rw [List.take_of_length_le (by rw [zipOr_len hl, ← hN.out]; exact Nat.le_refl _), List.drop_of_length_le (by rw [← hN.out]; exact Nat.le_refl _), List.append_nil]] at this
      exact this
end Go.Proofs.YtjeklnbfpehbeaaDoor

/- 'Ranges' and 'places' of the law's own side, walked. Condition: the expression is right, and of fewer than 10^12 places. -/
namespace Go.Proofs.YtjeklnbfpehbeaaDoor
open Go.RowKit

/-- The pairs that a class stands for. -/
def pairsOf : RE → List (Nat × Nat)
  | .cls l => l
  | .any => [(0, 1114111)]
  | .anyNl => [(0, 9), (11, 1114111)]
  | _ => []

theorem runes_new {w : World} {b : Nat} {rs : List Nat} {n : Nat} (hb : Blk w b (rs.map fun (r : Nat) => Value.int .i32 (r : Int)) 21) (hn : n = rs.length) : RunesAt w (.slice (some ⟨b, 0, none⟩) n n) rs := by
  subst hn
  exact ⟨_, _, rfl, fun i r hr => ⟨b, 0, _, 21, rfl, .inl rfl, hb, by rw [Nat.zero_add]; exact hb.cell i (by simp [hr])⟩⟩

set_option maxRecDepth 100000 in
set_option maxHeartbeats 1000000 in
theorem ranges_spec {w : World} {r : RE} {v : Value} (h : ReAt w r v) (hr : opOf r = 4 ∨ opOf r = 5 ∨ opOf r = 6) : Calls Tryd.prog 26 #[v] w fun e w' => ∃ v', e = .returned v' ∧ RunesAt w' v' (flat (pairsOf r)) ∧ Fr (fun _ => False) w w' := by
  obtain @⟨_, A, c, rv, mn, mx, xs, hru, hr0, hm, hx, hs⟩ := h
  obtain ⟨rA, rc, hrv, -⟩ := id hru
  cases r with
  | cls l =>
    subst hrv
    have HH := Lib.hid hru
    clear hru hr0 hm hx hs hr
    simp only [opOf]
    go_enter Tryd.func26, Tryd.ntmps26
    go_wp2_with fail
    go_ret
    exact ⟨_, rfl, HH.out.fr ((Fr.refl (fun _ => False) w).alloc _) (fun _ _ _ _ _ h => h), (Fr.refl _ w).alloc _⟩
  | any =>
    subst hrv
    clear hru hr0 hm hx hs hr
    simp only [opOf]
    go_enter Tryd.func26, Tryd.ntmps26
    go_wp2_with fail
    go_ret
    exact ⟨_, rfl, runes_new (rs := [0, 1114111]) (Blk.newAt _ _ 21 _ (by simp)) rfl, ((Fr.refl _ w).alloc _).alloc _⟩
  | anyNl =>
    subst hrv
    clear hru hr0 hm hx hs hr
    simp only [opOf]
    go_enter Tryd.func26, Tryd.ntmps26
    go_wp2_with fail
    go_ret
    exact ⟨_, rfl, runes_new (rs := [0, 9, 11, 1114111]) (Blk.newAt _ _ 21 _ (by simp)) rfl, ((Fr.refl _ w).alloc _).alloc _⟩
  | emp => simp [opOf] at hr
  | lit rs => simp [opOf] at hr
  | cat l => simp [opOf] at hr
  | alt l => simp [opOf] at hr
  | star r => simp [opOf] at hr
  | plus r => simp [opOf] at hr
  | quest r => simp [opOf] at hr
  | rep a b r => simp [opOf] at hr
  | cap r => simp [opOf] at hr
end Go.Proofs.YtjeklnbfpehbeaaDoor
