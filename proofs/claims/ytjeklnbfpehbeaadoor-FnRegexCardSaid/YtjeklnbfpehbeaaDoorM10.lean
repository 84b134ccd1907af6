/- The compiler's '(*compiler).c' of package regexp at the nodes without parts. Condition: the program stays below 200000 instructions. The compiler's '(*compiler).c' of package regexp at a sequence, an option, a star, a plus, its parts' contracts given. Condition: the program stays below 200000 instructions. The compiler's '(*compiler).c' of package regexp at a star and a plus, its part's contract given. Condition: the program stays below 200000 instructions. -/
import Derived.Test.YtjeklnbfpehbeaaDoorM09
set_option linter.unusedVariables false
/- The compiler's '(*compiler).c' of package regexp at the nodes without parts. Condition: the program stays below 200000 instructions. -/
namespace Go.Proofs.YtjeklnbfpehbeaaDoor
open Go.RowKit

set_option maxRecDepth 100000 in
set_option maxHeartbeats 1000000 in
theorem size_ok {w : World} {B cb : Nat} {p : List Ins} (h : Cp w B cb p) (hl : p.length ≤ 262144) :
    Calls Tryd.prog 57 #[.pointer (some ⟨cb, 0, none⟩)] w fun e w' => e = .returned .nilIface ∧ Cp w' B cb p ∧ Fr (KT w B) w w' := by
  obtain ⟨q3, q4, sb, eb, h1, h2⟩ := id h
  obtain ⟨pv, pl, ps, h1⟩ := h1
  obtain ⟨A, c, rfl⟩ : ∃ A c, pv = .slice A p.length c := by
    rcases h1.own.2 with ⟨rfl, h0⟩ | ⟨g, cap, cur, rfl, _⟩
    · exact ⟨none, 0, by rw [h0]⟩
    · exact ⟨_, cap, rfl⟩
  have c1 := h1.hb.cell 1 rfl
  have c0 := h1.hb.cell 0 rfl
  have H := Lib.hid h
  clear h h1 h2
  obtain ⟨n, hn⟩ : ∃ n, n = p.length := ⟨_, rfl⟩
  rw [← hn] at hl c1
  clear hn
  have e1 : IntKind.i64.wrap ((n : Int) * 40) = (n : Int) * 40 := IntWalk.i64_in _ (by omega)
  have e2 : IntKind.u64.wrap ((n : Int) * 40) = (n : Int) * 40 := IntWalk.u64_in _ (by omega)
  have e3 : ¬ ((10485760 : Int) < (n : Int) * 40) := by omega
  go_enter Tryd.func57, Tryd.ntmps57
  go_wp2_with fail
  go_quiet (fail)
  go_wp2_with fail
  go_ret
  exact ⟨rfl, H.out.drop ((Fr.refl _ w).drewN _), kt_drop ((Fr.refl _ w).drewN _)⟩

set_option maxRecDepth 100000 in
set_option maxHeartbeats 8000000 in
theorem c_emp (B cb : Nat) : CC B cb .emp := by
  intro w p nb h hn hB hl
  simp only [NodeAt] at hn
  obtain ⟨sv, rv, mn, mx, -, ns, hb, n0, n1, n2, n4, n7, n8⟩ := hn.get (w' := w) (B := B)
  have y0 := hb.cell 0 n0
  have y1 := hb.cell 1 n1
  clear hn n0 n1 n2 n4 n7 n8 hb
  go_enter Tryd.func38, Tryd.ntmps38
  go_wp2_with fail
  go_ret
  exact ⟨rfl, by simpa [code] using h, Fr.refl _ _⟩

set_option maxRecDepth 100000 in
set_option maxHeartbeats 8000000 in
theorem c_cls (B cb : Nat) (l : List (Nat × Nat)) (hwf : WfR (.cls l)) : CC B cb (.cls l) := by
  intro w p nb h hn hB hl
  simp only [NodeAt] at hn
  simp only [WfR] at hwf
  obtain ⟨sv, rv, mn, mx, hr, ns, hb, n0, n1, n2, n4, n7, n8⟩ := hn.get (w' := w) (B := B)
  have hc := cls_calls h hwf.2.1 hwf.1 hwf.2.2 hB (by omega) hb n4 hr
  have y0 := hb.cell 0 n0
  have y1 := hb.cell 1 n1
  clear hn n0 n1 n2 n4 n7 n8 hb hr h
  go_enter Tryd.func38, Tryd.ntmps38
  go_wp2_with fail
  refine hc.mono ?_
  rintro e w1 ⟨rfl, h1, h2⟩
  go_wp2_with fail
  go_ret
  exact ⟨rfl, by simpa [code] using h1, h2⟩

/-- A node that was made here. -/
theorem node_new {w : World} {nb op : Nat} {sv : Value} {rA : Option Addr} {rn rc : Nat} {x0 x1 mn mx : Int} {cp nm : Value} {K : Value → Value → Int → Int → Prop} (hb : Blk w nb [.int .u8 (op : Int), .int .u16 0, sv, .pointer none, .slice rA rn rc, .int .i32 x0, .int .i32 x1, .int .i64 mn, .int .i64 mx, cp, nm] 77) (hK : K sv (.slice rA rn rc) mn mx) : Head w nb op K :=
  ⟨sv, _, x0, x1, mn, mx, cp, nm, hb, ⟨_, _, _, rfl⟩, hK⟩

set_option maxRecDepth 100000 in
set_option maxHeartbeats 8000000 in
theorem c_any (B cb : Nat) : CC B cb .any := by
  intro w p nb h hn hB hl
  simp only [NodeAt] at hn
  obtain ⟨sv, rv, mn, mx, hr, ns, hb, n0, n1, n2, n4, n7, n8⟩ := hn.get (w' := w) (B := B)
  have y0 := hb.cell 0 n0
  have y1 := hb.cell 1 n1
  clear hn n0 n1 n2 n4 n7 n8 hb hr
  have eb : bits BinOp.and IntKind.u16 0 1 = 0 := by decide +kernel
  have hwf : WfR (.cls [(0, 1114111)]) := by simp [WfR, okRange, okRune]
  have hc : ∀ s1 s3 s4 s5 s6, Calls Tryd.prog 38 #[.pointer (some ⟨cb, 0, none⟩), .pointer (some ⟨w.heap.size, 0, none⟩)] (w.alloc (.cells #[.int .u8 4, .int .u16 0, s1, .pointer none, .slice (some ⟨w.heap.size, 5, none⟩) 2 2, .int .i32 0, .int .i32 1114111, .int .i64 s3, .int .i64 s4, s5, s6] 77)) _ := fun s1 s3 s4 s5 s6 => by
    refine c_cls B cb _ hwf _ p w.heap.size (h.drop ((Fr.refl _ w).alloc _)) ?_ (Nat.le_trans hB (by simp)) (by simpa [clen, code] using hl)
    simp only [NodeAt]
    refine node_new (Blk.new w [_, _, _, _, _, _, _, _, _, _, _] 77) ?_
    refine ⟨_, 2, rfl, fun i r hr => ?_⟩
    refine ⟨w.heap.size, 5, _, 77, rfl, .inr rfl, Blk.new w [_, _, _, _, _, _, _, _, _, _, _] 77, ?_⟩
    have hi : i = 0 ∨ i = 1 := by
      have := (List.getElem?_eq_some_iff.1 hr).1
      simp [flat] at this; omega
    rcases hi with rfl | rfl
    · simp [flat] at hr; subst hr; exact (Blk.new w [_, _, _, _, _, _, _, _, _, _, _] 77).cell 5 rfl
    · simp [flat] at hr; subst hr; exact (Blk.new w [_, _, _, _, _, _, _, _, _, _, _] 77).cell 6 rfl
  go_enter Tryd.func38, Tryd.ntmps38
  go_wp2_with fail
  refine (hc _ _ _ _ _).mono ?_
  rintro e w1 ⟨rfl, h1, h2⟩
  go_wp2_with fail
  go_ret
  exact ⟨rfl, by simpa [code] using h1, kt_trans (kt_drop ((Fr.refl _ w).alloc _)) h2⟩

set_option maxRecDepth 100000 in
set_option maxHeartbeats 8000000 in
theorem c_anyNl (B cb : Nat) : CC B cb .anyNl := by
  intro w p nb h hn hB hl
  simp only [NodeAt] at hn
  obtain ⟨sv, rv, mn, mx, hr, ns, hb, n0, n1, n2, n4, n7, n8⟩ := hn.get (w' := w) (B := B)
  have y0 := hb.cell 0 n0
  have y1 := hb.cell 1 n1
  clear hn n0 n1 n2 n4 n7 n8 hb hr
  have eb : bits BinOp.and IntKind.u16 0 1 = 0 := by decide +kernel
  have hwf : WfR (.cls [(0, 9), (11, 1114111)]) := by simp [WfR, okRange, okRune]
  have hc : ∀ s1 s3 s4 s5 s6 s7 s8, Calls Tryd.prog 38 #[.pointer (some ⟨cb, 0, none⟩), .pointer (some ⟨w.heap.size + 1, 0, none⟩)] ((w.alloc (.cells #[.int .i32 0, .int .i32 9, .int .i32 11, .int .i32 1114111] 21)).alloc (.cells #[.int .u8 4, .int .u16 0, s1, .pointer none, .slice (some ⟨w.heap.size, 0, none⟩) 4 4, .int .i32 s7, .int .i32 s8, .int .i64 s3, .int .i64 s4, s5, s6] 77)) _ := fun s1 s3 s4 s5 s6 s7 s8 => by
    refine c_cls B cb _ hwf _ p (w.heap.size + 1) (h.drop (((Fr.refl _ w).alloc _).alloc _)) ?_ (Nat.le_trans hB (by simp; omega)) (by simpa [clen, code] using hl)
    simp only [NodeAt]
    refine node_new (Blk.newAt _ [_, _, _, _, _, _, _, _, _, _, _] 77 _ (by simp)) ?_
    refine ⟨_, 4, rfl, fun i r hr => ?_⟩
    have hbk : Blk ((w.alloc (.cells #[.int .i32 0, .int .i32 9, .int .i32 11, .int .i32 1114111] 21)).alloc (.cells #[.int .u8 4, .int .u16 0, s1, .pointer none, .slice (some ⟨w.heap.size, 0, none⟩) 4 4, .int .i32 s7, .int .i32 s8, .int .i64 s3, .int .i64 s4, s5, s6] 77)) w.heap.size [.int .i32 0, .int .i32 9, .int .i32 11, .int .i32 1114111] 21 := (Blk.new w [_, _, _, _] 21).alloc _
    refine ⟨w.heap.size, 0, _, 21, rfl, .inl rfl, hbk, ?_⟩
    have hi : i = 0 ∨ i = 1 ∨ i = 2 ∨ i = 3 := by
      have := (List.getElem?_eq_some_iff.1 hr).1
      simp [flat] at this; omega
    rcases hi with rfl | rfl | rfl | rfl
    · simp [flat] at hr; subst hr; exact hbk.cell 0 rfl
    · simp [flat] at hr; subst hr; exact hbk.cell 1 rfl
    · simp [flat] at hr; subst hr; exact hbk.cell 2 rfl
    · simp [flat] at hr; subst hr; exact hbk.cell 3 rfl
  go_enter Tryd.func38, Tryd.ntmps38
  go_wp2_with fail
  refine (hc _ _ _ _ _ _ _).mono ?_
  rintro e w1 ⟨rfl, h1, h2⟩
  go_wp2_with fail
  go_ret
  exact ⟨rfl, by simpa [code] using h1, kt_trans (kt_drop (((Fr.refl _ w).alloc _).alloc _)) h2⟩

set_option maxRecDepth 100000 in
set_option maxHeartbeats 8000000 in
theorem c_cap (B cb : Nat) (r : RE) (ih : CC B cb r) : CC B cb (.cap r) := by
  intro w p nb h hn hB hl
  simp only [NodeAt] at hn
  obtain ⟨sv, rv, mn, mx, hr, ns, hb, n0, n1, n2, n4, n7, n8⟩ := hn.get (w' := w) (B := B)
  obtain ⟨sb, so, sc, scs, kb, rfl, hsb, hsc, hk⟩ := hr
  have y0 := hb.cell 0 n0
  have y1 := hb.cell 1 n1
  have y2 := hb.cell 2 n2
  have hc := ih w p kb h hk hB (by simpa [clen, code] using hl)
  clear hn n0 n1 n2 n4 n7 n8 hb hk h
  go_enter Tryd.func38, Tryd.ntmps38
  go_wp2_with fail
  refine hc.mono ?_
  rintro e w1 ⟨rfl, h1, h2⟩
  go_wp2_with fail
  go_ret
  exact ⟨rfl, by simpa [code] using h1, h2⟩
end Go.Proofs.YtjeklnbfpehbeaaDoor

/- The compiler's '(*compiler).c' of package regexp at a sequence, an option, a star, a plus, its parts' contracts given. Condition: the program stays below 200000 instructions. -/
namespace Go.Proofs.YtjeklnbfpehbeaaDoor
open Go.RowKit

theorem seqC_snoc (cs : List (Nat → List Ins)) (c : Nat → List Ins) (o : Nat) : seqC (cs ++ [c]) o = seqC cs o ++ c (o + (seqC cs o).length) := by
  induction cs generalizing o with
  | nil => simp [seqC]
  | cons d cs ih =>
    simp only [List.cons_append, seqC, List.append_assoc]
    rw [ih, List.length_append, Nat.add_assoc]
theorem seqC_take_len (cs : List (Nat → List Ins)) (k o : Nat) : (seqC (cs.take k) o).length ≤ (seqC cs o).length := by
  induction cs generalizing k o with
  | nil => simp [seqC]
  | cons d cs ih =>
    cases k with
    | zero => simp [seqC]
    | succ k =>
      simp only [List.take_succ_cons, seqC, List.length_append]
      have := ih k (o + (d o).length)
      omega

set_option maxRecDepth 100000 in
set_option maxHeartbeats 8000000 in
theorem c_cat (B cb : Nat) (l : List RE) (hll : l.length ≤ 1000) (ih : ∀ r, r ∈ l → CC B cb r) : CC B cb (.cat l) := by
  intro w p nb h hn hB hl
  simp only [NodeAt] at hn
  obtain ⟨sv, rv, mn, mx, ⟨A, c, rfl, hs⟩, ns, hb, n0, n1, n2, n4, n7, n8⟩ := hn.get (w' := w) (B := B)
  have y0 := hb.cell 0 n0
  have y1 := hb.cell 1 n1
  have y2 := hb.cell 2 n2
  have hcl : (seqC (l.map code) p.length).length = clen (.cat l) := by rw [← clen_eq _ p.length]; simp only [code, codes_eq]
  obtain ⟨N, hN⟩ : ∃ N, Hid (N = l.length) := ⟨_, Lib.hid rfl⟩
  have hNl : N ≤ 1000 := by have := hN.out; omega
  rw [← hN.out] at y2 n2
  have HB := Lib.hid (And.intro hs (And.intro hcl hN.out))
  clear hn n0 n1 n2 n4 n7 n8 hb hs hcl
  go_enter Tryd.func38, Tryd.ntmps38
  go_wp2_with fail
  go_loopg [216] (N + 1) (fun g i wr => ∃ k : Nat, k ≤ N ∧ g = N - k + 1 ∧ i = .int .i64 (k : Int) ∧ Cp wr B cb (p ++ seqC ((l.map code).take k) p.length) ∧ Fr (KT w B) w wr)
  case atStart => exact ⟨0, by omega, by omega, rfl, by simpa [seqC] using h, Fr.refl _ _⟩
  case round =>
    clear h y0 y1 y2
    obtain ⟨k, hk, rfl, rfl, hcp, hF⟩ := hrel
    obtain ⟨hs, hcl, hNe⟩ := HB.out
    have hB1 : B ≤ wr.heap.size := Nat.le_trans hB hF.size
    by_cases hlt : k < N
    · have e1 : (k : Int) < (N : Int) := by omega
      obtain ⟨r, hr⟩ : ∃ r, l[k]? = some r := ⟨_, List.getElem?_eq_getElem (by omega)⟩
      obtain ⟨b, o, cs, kb, rfl, hbk, hck, hnk⟩ := SubsAt.get l _ 0 k r hs hr
      rw [Nat.zero_add] at hck
      have hck1 := hF.cell hck (blk_kt hbk (by decide))
      have hrm := List.mem_of_getElem? hr
      have htk := Lib.hid (show (l.map code).take (k + 1) = (l.map code).take k ++ [code r] from take_snoc_getElem? (by rw [List.getElem?_map, hr]; rfl))
      have hlen : (p ++ seqC ((l.map code).take k) p.length).length + clen r ≤ 200000 := by
        have h1 := seqC_take_len (l.map code) (k + 1) p.length
        rw [htk.out, seqC_snoc, List.length_append, clen_eq] at h1
        rw [List.length_append]
        omega
      have hc := ih r hrm wr _ kb hcp (hnk.kt hF) hB1 hlen
      have HF := Lib.hid hF
      clear hs hcl hNe hcp hF hbk hck hnk hr
      go_wp2_with fail
      refine hc.mono ?_
      rintro e w1 ⟨rfl, h1, h2⟩
      clear hc
      go_wp2_with fail
      go_roundg (N - (k + 1) + 1)
      case measure => omega
      case rel =>
        refine ⟨k + 1, by omega, rfl, by simp, ?_, kt_trans HF.out h2⟩
        rw [htk.out, seqC_snoc, ← List.append_assoc]
        rw [List.length_append] at h1
        exact h1
    · obtain rfl : k = N := by omega
      have e1 : ¬ ((k : Int) < (k : Int)) := by omega
      have hfin : Cp wr B cb (p ++ code (.cat l) p.length) := by
        rw [List.take_of_length_le (by simp; omega)] at hcp
        simpa only [code, codes_eq] using hcp
      clear hs hcl hNe hcp
      go_wp2_with fail
      go_ret
      exact ⟨rfl, hfin, hF⟩

set_option maxRecDepth 100000 in
set_option maxHeartbeats 8000000 in
theorem c_quest (B cb : Nat) (r : RE) (ih : CC B cb r) : CC B cb (.quest r) := by
  intro w p nb h hn hB hl
  simp only [NodeAt] at hn
  obtain ⟨sv, rv, mn, mx, hr, ns, hb, n0, n1, n2, n4, n7, n8⟩ := hn.get (w' := w) (B := B)
  obtain ⟨sb, so, sc, scs, kb, rfl, hsb, hsc, hk⟩ := hr
  have y0 := hb.cell 0 n0
  have y1 := hb.cell 1 n1
  have y2 := hb.cell 2 n2
  have hcl : clen (.quest r) = clen r + 1 := by rw [clen]; simp only [code, List.length_cons]; rw [clen_eq]
  obtain ⟨n0', hn0⟩ : ∃ n0, Hid (n0 = p.length) := ⟨_, Lib.hid rfl⟩
  have hsp := cp_split h hB (by omega)
  rw [← hn0.out] at hsp
  have HB := Lib.hid (And.intro hb (And.intro n2 (And.intro hsb (And.intro hsc hk))))
  clear hn n0 n1 n4 n7 n8 hb hk h n2 hsb hsc
  go_enter Tryd.func38, Tryd.ntmps38
  go_wp2_with fail
  refine hsp.mono ?_
  rintro e w1 ⟨rfl, h1, hF1⟩
  clear hsp y0 y1 y2
  have htp := cp_top h1 (by simp; omega)
  obtain ⟨n1', hn1⟩ : ∃ n, Hid (n = (p ++ [Ins.split 0 0]).length) := ⟨_, Lib.hid rfl⟩
  rw [← hn1.out] at htp
  obtain ⟨hb, n2, hsb, hsc, hk⟩ := HB.out
  have y2 := (hb.fr hF1 (blk_kt hb (by decide))).cell 2 n2
  have y3 := hF1.cell hsc (blk_kt hsb (by decide))
  have hc := ih w1 _ kb h1 (hk.kt hF1) (Nat.le_trans hB hF1.size) (by simp; omega)
  clear hb n2 hsb hsc hk h1
  go_wp2_with fail
  refine htp.mono ?_
  rintro e w1' ⟨rfl, rfl⟩
  clear htp
  go_wp2_with fail
  refine hc.mono ?_
  rintro e w2 ⟨rfl, h2, hF2⟩
  clear hc y2 y3
  obtain ⟨D, hD⟩ : ∃ D, Hid (D = code r (p.length + 1)) := ⟨_, Lib.hid rfl⟩
  have hpl : (p ++ [Ins.split 0 0]).length = p.length + 1 := by simp
  rw [hpl, ← hD.out] at h2
  have hDl : D.length = clen r := by rw [hD.out, clen_eq]
  have htp := cp_top h2 (by simp; omega)
  obtain ⟨n2', hn2⟩ : ∃ n, Hid (n = (p ++ [Ins.split 0 0] ++ D).length) := ⟨_, Lib.hid rfl⟩
  rw [← hn2.out] at htp
  have hss := cp_setsplit h2 (i := n0') (a := 0) (b := 0) (by rw [hn0.out]; simp) n1' n2'
  have hsz : (p ++ [Ins.split 0 0] ++ D).set n0' (.split n1' n2') = p ++ code (.quest r) p.length := by
    rw [hn0.out, hn1.out, hn2.out, List.append_assoc, List.set_append_right _ _ (Nat.le_refl _), Nat.sub_self]
    simp only [code, clen_eq]
    rw [← hD.out]
    simp
    omega
  have HZ := Lib.hid hsz
  have hF12 := kt_trans hF1 hF2
  clear h2 hpl hDl hsz hF1 hF2
  go_wp2_with fail
  refine htp.mono ?_
  rintro e w2' ⟨rfl, rfl⟩
  clear htp
  go_wp2_with fail
  refine hss.mono ?_
  rintro e w3 ⟨rfl, h3, hF3⟩
  clear hss
  rw [HZ.out] at h3
  have hsize := size_ok h3 (by rw [List.length_append, clen_eq]; omega)
  clear h3
  go_wp2_with fail
  refine hsize.mono ?_
  rintro e w4 ⟨rfl, h4, hF4⟩
  go_wp2_with fail
  go_ret
  exact ⟨rfl, h4, kt_trans (kt_trans hF12 hF3) hF4⟩
end Go.Proofs.YtjeklnbfpehbeaaDoor

/- The compiler's '(*compiler).c' of package regexp at a star and a plus, its part's contract given. Condition: the program stays below 200000 instructions. -/
namespace Go.Proofs.YtjeklnbfpehbeaaDoor
open Go.RowKit

theorem Cp.slc {w : World} {B cb : Nat} {p : List Ins} (h : Cp w B cb p) : ∃ A c, w.cell? ⟨cb, 1, none⟩ = some (.slice A p.length c) := by
  obtain ⟨q3, q4, sb, eb, ⟨pv, pl, ps, h1⟩, h2⟩ := h
  rcases h1.own.2 with ⟨rfl, h0⟩ | ⟨g, cap, cur, rfl, _⟩
  · exact ⟨none, 0, by rw [h0]; exact h1.hb.cell 1 rfl⟩
  · exact ⟨_, cap, h1.hb.cell 1 rfl⟩

set_option maxRecDepth 100000 in
set_option maxHeartbeats 8000000 in
theorem c_plus (B cb : Nat) (r : RE) (ih : CC B cb r) : CC B cb (.plus r) := by
  intro w p nb h hn hB hl
  simp only [NodeAt] at hn
  obtain ⟨sv, rv, mn, mx, hr, ns, hb, n0, n1, n2, n4, n7, n8⟩ := hn.get (w' := w) (B := B)
  obtain ⟨sb, so, sc, scs, kb, rfl, hsb, hsc, hk⟩ := hr
  have y0 := hb.cell 0 n0
  have y1 := hb.cell 1 n1
  have y2 := hb.cell 2 n2
  have hcl : clen (.plus r) = clen r + 1 := by rw [clen]; simp only [code, List.length_append, List.length_cons, List.length_nil]; rw [clen_eq]
  obtain ⟨n0', hn0⟩ : ∃ n0, Hid (n0 = p.length) := ⟨_, Lib.hid rfl⟩
  have htp := cp_top h (by omega)
  rw [← hn0.out] at htp
  have hc := ih w p kb h hk hB (by omega)
  clear hn n0 n1 n4 n7 n8 hb hk h n2 hsb
  go_enter Tryd.func38, Tryd.ntmps38
  go_wp2_with fail
  refine htp.mono ?_
  rintro e w1' ⟨rfl, rfl⟩
  clear htp
  go_wp2_with fail
  refine hc.mono ?_
  rintro e w1 ⟨rfl, h1, hF1⟩
  clear hc y0 y1 y2 hsc
  obtain ⟨D, hD⟩ : ∃ D, Hid (D = code r p.length) := ⟨_, Lib.hid rfl⟩
  rw [← hD.out] at h1
  have hDl : D.length = clen r := by rw [hD.out, clen_eq]
  have hB1 : B ≤ w1.heap.size := Nat.le_trans hB hF1.size
  have hsp := cp_split h1 hB1 (by rw [List.length_append]; omega)
  obtain ⟨n1', hn1⟩ : ∃ n, Hid (n = (p ++ D).length) := ⟨_, Lib.hid rfl⟩
  rw [← hn1.out] at hsp
  have HD := Lib.hid hDl
  clear h1 hDl
  go_wp2_with fail
  refine hsp.mono ?_
  rintro e w2 ⟨rfl, h2, hF2⟩
  clear hsp
  have htp := cp_top h2 (by have := HD.out; simp; omega)
  obtain ⟨n2', hn2⟩ : ∃ n, Hid (n = (p ++ D ++ [Ins.split 0 0]).length) := ⟨_, Lib.hid rfl⟩
  rw [← hn2.out] at htp
  have hss := cp_setsplit h2 (i := n1') (a := 0) (b := 0) (by rw [hn1.out]; simp) n0' n2'
  have hsz : (p ++ D ++ [Ins.split 0 0]).set n1' (.split n0' n2') = p ++ code (.plus r) p.length := by
    rw [hn0.out, hn1.out, hn2.out, List.set_append_right _ _ (Nat.le_refl _), Nat.sub_self]
    simp only [code]
    rw [← hD.out]
    simp
    omega
  have HZ := Lib.hid hsz
  have hF12 := kt_trans hF1 hF2
  clear h2 hsz hF1 hF2
  go_wp2_with fail
  refine htp.mono ?_
  rintro e w2' ⟨rfl, rfl⟩
  clear htp
  go_wp2_with fail
  refine hss.mono ?_
  rintro e w3 ⟨rfl, h3, hF3⟩
  clear hss
  rw [HZ.out] at h3
  have hsize := size_ok h3 (by rw [List.length_append, clen_eq]; omega)
  clear h3
  go_wp2_with fail
  refine hsize.mono ?_
  rintro e w4 ⟨rfl, h4, hF4⟩
  go_wp2_with fail
  go_ret
  exact ⟨rfl, h4, kt_trans (kt_trans hF12 hF3) hF4⟩

set_option maxRecDepth 100000 in
set_option maxHeartbeats 8000000 in
theorem c_star (B cb : Nat) (r : RE) (ih : CC B cb r) : CC B cb (.star r) := by
  intro w p nb h hn hB hl
  simp only [NodeAt] at hn
  obtain ⟨sv, rv, mn, mx, hr, ns, hb, n0, n1, n2, n4, n7, n8⟩ := hn.get (w' := w) (B := B)
  obtain ⟨sb, so, sc, scs, kb, rfl, hsb, hsc, hk⟩ := hr
  have y0 := hb.cell 0 n0
  have y1 := hb.cell 1 n1
  have y2 := hb.cell 2 n2
  have hcl : clen (.star r) = clen r + 2 := by rw [clen]; simp only [code, starC, List.length_append, List.length_cons, List.length_nil]; rw [clen_eq]
  obtain ⟨n0', hn0⟩ : ∃ n0, Hid (n0 = p.length) := ⟨_, Lib.hid rfl⟩
  have htp := cp_top h (by omega)
  rw [← hn0.out] at htp
  have hsp := cp_split h hB (by omega)
  rw [← hn0.out] at hsp
  have HB := Lib.hid (And.intro hb (And.intro n2 (And.intro hsb (And.intro hsc hk))))
  clear hn n0 n1 n4 n7 n8 hb hk h n2 hsb hsc
  go_enter Tryd.func38, Tryd.ntmps38
  go_wp2_with fail
  refine htp.mono ?_
  rintro e w1' ⟨rfl, rfl⟩
  clear htp
  go_wp2_with fail
  refine hsp.mono ?_
  rintro e w1 ⟨rfl, h1, hF1⟩
  clear hsp y0 y1 y2
  have htp := cp_top h1 (by simp; omega)
  obtain ⟨n1', hn1⟩ : ∃ n, Hid (n = (p ++ [Ins.split 0 0]).length) := ⟨_, Lib.hid rfl⟩
  rw [← hn1.out] at htp
  obtain ⟨hb, n2, hsb, hsc, hk⟩ := HB.out
  have y2 := (hb.fr hF1 (blk_kt hb (by decide))).cell 2 n2
  have y3 := hF1.cell hsc (blk_kt hsb (by decide))
  have hc := ih w1 _ kb h1 (hk.kt hF1) (Nat.le_trans hB hF1.size) (by simp; omega)
  clear hb n2 hsb hsc hk h1
  go_wp2_with fail
  refine htp.mono ?_
  rintro e w1' ⟨rfl, rfl⟩
  clear htp
  go_wp2_with fail
  refine hc.mono ?_
  rintro e w2 ⟨rfl, h2, hF2⟩
  clear hc y2 y3
  obtain ⟨D, hD⟩ : ∃ D, Hid (D = code r (p.length + 1)) := ⟨_, Lib.hid rfl⟩
  have hpl : (p ++ [Ins.split 0 0]).length = p.length + 1 := by simp
  rw [hpl, ← hD.out] at h2
  have hDl : D.length = clen r := by rw [hD.out, clen_eq]
  have hB2 : B ≤ w2.heap.size := Nat.le_trans hB (Nat.le_trans hF1.size hF2.size)
  have hjc := cp_jump h2 hB2 (by simp; omega)
  obtain ⟨n2', hn2⟩ : ∃ n, Hid (n = (p ++ [Ins.split 0 0] ++ D).length) := ⟨_, Lib.hid rfl⟩
  rw [← hn2.out] at hjc
  have HD := Lib.hid hDl
  have hF12 := kt_trans hF1 hF2
  clear h2 hDl hpl hF1 hF2
  go_wp2_with fail
  refine hjc.mono ?_
  rintro e w3 ⟨rfl, h3, hF3⟩
  clear hjc
  obtain ⟨A, c, hsl⟩ := h3.slc
  obtain ⟨n3', hn3⟩ : ∃ n, Hid (n = (p ++ [Ins.split 0 0] ++ D ++ [Ins.jmp 0]).length) := ⟨_, Lib.hid rfl⟩
  rw [← hn3.out] at hsl
  have hn3l : n3' ≤ 300000 := by have := HD.out; rw [hn3.out]; simp; omega
  have ew : IntKind.u64.wrap (n3' : Int) = (n3' : Int) := IntWalk.u64_in _ (by omega)
  have hsj := cp_setjump h3 (i := n2') (a := 0) (by rw [hn2.out]; simp) n0'
  clear h3
  go_wp2_with fail
  refine hsj.mono ?_
  rintro e w4 ⟨rfl, h4, hF4⟩
  clear hsj hsl
  have hss := cp_setsplit h4 (i := n0') (a := 0) (b := 0) (by rw [hn0.out, hn2.out]; simp) n1' n3'
  have hsz : ((p ++ [Ins.split 0 0] ++ D ++ [Ins.jmp 0]).set n2' (.jmp n0')).set n0' (.split n1' n3') = p ++ code (.star r) p.length := by
    rw [hn2.out, set_mid (p ++ [Ins.split 0 0] ++ D) [] (.jmp 0) (.jmp n0')]
    rw [hn0.out, hn1.out, hn3.out, List.append_assoc, List.append_assoc, List.set_append_right _ _ (Nat.le_refl _), Nat.sub_self]
    simp only [code, starC, clen_eq]
    rw [← hD.out]
    have := HD.out
    simp
    omega
  have HZ := Lib.hid hsz
  have hF34 := kt_trans (kt_trans hF12 hF3) hF4
  clear h4 hsz hF12 hF3 hF4
  go_wp2_with fail
  refine hss.mono ?_
  rintro e w5 ⟨rfl, h5, hF5⟩
  clear hss
  rw [HZ.out] at h5
  have hsize := size_ok h5 (by rw [List.length_append, clen_eq]; omega)
  clear h5
  go_wp2_with fail
  refine hsize.mono ?_
  rintro e w6 ⟨rfl, h6, hF6⟩
  go_wp2_with fail
  go_ret
  exact ⟨rfl, h6, kt_trans (kt_trans hF34 hF5) hF6⟩
end Go.Proofs.YtjeklnbfpehbeaaDoor
