/- The compiler's '(*compiler).c' of package regexp at letters. Condition: the program stays below 200000 instructions. Copies that may be left out, in plain lists: laid with open splits, which are set at the end. No condition. -/
import Derived.Test.YtjeklnbfpehbeaaDoorM11
import Derived.Test.YtjeklnbfpehbeaaDoorM09
set_option linter.unusedVariables false
/- The compiler's '(*compiler).c' of package regexp at letters. Condition: the program stays below 200000 instructions. -/
namespace Go.Proofs.YtjeklnbfpehbeaaDoor
open Go.RowKit

theorem cut_self {r : Nat} (h : okRune r) : cut r r = none := by
  unfold okRune at h
  unfold cut
  rw [if_neg (by omega), if_neg (by omega), if_neg (by omega), if_neg (by omega)]
  split
  · rfl
  rw [if_neg (by omega), if_neg (by omega), if_neg (by omega), if_neg (by omega), if_neg (by omega), if_neg (by omega)]
theorem litC_snoc (rs : List Nat) (r : Nat) : litC (rs ++ [r]) = litC rs ++ rngs ((enc r).zip (enc r)) := by simp [litC]
theorem litC_take_len (rs : List Nat) (k : Nat) : (litC (rs.take k)).length ≤ (litC rs).length := by
  have h : litC rs = litC (rs.take k) ++ litC (rs.drop k) := by
    unfold litC
    rw [← List.flatMap_append, List.take_append_drop]
  rw [h, List.length_append]
  omega

set_option maxRecDepth 100000 in
set_option maxHeartbeats 8000000 in
theorem c_lit (B cb : Nat) (rs : List Nat) (hwf : WfR (.lit rs)) : CC B cb (.lit rs) := by
  intro w p nb h hn hB hl
  simp only [NodeAt] at hn
  simp only [WfR] at hwf
  obtain ⟨hrl, hok⟩ := hwf
  obtain ⟨sv, rv, mn, mx, hr, ns, hb, n0, n1, n2, n4, n7, n8⟩ := hn.get (w' := w) (B := B)
  have y0 := hb.cell 0 n0
  have y1 := hb.cell 1 n1
  obtain ⟨rA, rc, rfl, -⟩ := id hr
  obtain ⟨N, hN⟩ : ∃ N, Hid (N = rs.length) := ⟨_, Lib.hid rfl⟩
  have hNl : N ≤ 1000 := by have := hN.out; omega
  rw [← hN.out] at hr n4
  have y4 := hb.cell 4 n4
  have eb : bits BinOp.and IntKind.u16 0 1 = 0 := by decide +kernel
  have hcl : (litC rs).length = clen (.lit rs) := by rw [clen]; simp only [code]
  have HB := Lib.hid (And.intro hb (And.intro n1 (And.intro hr (And.intro hcl hN.out))))
  clear hn n0 n1 n2 n4 n7 n8 hb hr hcl
  go_enter Tryd.func38, Tryd.ntmps38
  go_wp2_with fail
  go_loopg [82] (N + 1) (fun g i wr => ∃ k : Nat, k ≤ N ∧ g = N - k + 1 ∧ i = .int .i64 (k : Int) ∧ Cp wr B cb (p ++ litC (rs.take k)) ∧ Fr (KT w B) w wr)
  case atStart => exact ⟨0, by omega, by omega, rfl, by simpa [litC] using h, Fr.refl _ _⟩
  case round =>
    clear h y0 y1 y4
    obtain ⟨k, hk, rfl, rfl, hcp, hF⟩ := hrel
    obtain ⟨hb, n1, hr, hcl, hNe⟩ := HB.out
    have hB1 : B ≤ wr.heap.size := Nat.le_trans hB hF.size
    by_cases hlt : k < N
    · have e1 : (k : Int) < (N : Int) := by omega
      obtain ⟨r, hrk⟩ : ∃ r, rs[k]? = some r := ⟨_, List.getElem?_eq_getElem (by omega)⟩
      have hokr := hok r (List.mem_of_getElem? hrk)
      have hab : okRange r r := ⟨hokr, hokr, Nat.le_refl _⟩
      have hps : parts r r = [(r, r)] := parts_leaf (cut_self hokr)
      obtain ⟨b, o, c, e2, r0⟩ := (hr.kt hF).get hrk
      simp at e2
      obtain ⟨rfl, -, rfl⟩ := e2
      have y1 := (hb.fr hF (blk_kt hb (by decide))).cell 1 n1
      have htk := Lib.hid (show rs.take (k + 1) = rs.take k ++ [r] from take_snoc_getElem? hrk)
      have hPl := litC_take_len rs (k + 1)
      rw [htk.out, litC_snoc, List.length_append] at hPl
      have hPx : (p ++ litC (rs.take k)).length ≤ 200000 := by rw [List.length_append]; omega
      generalize hP0 : p ++ litC (rs.take k) = P at *
      have hP := Lib.hid hP0
      obtain ⟨q3, q4, sb, eb', hc, hbf⟩ := hcp
      obtain ⟨pv, pl, hcb, hge⟩ := hc.blk
      obtain ⟨n3, x3, r3⟩ := hbf.r3
      obtain ⟨n4, x4, r4⟩ := hbf.r4
      obtain ⟨cs, l1, b1⟩ := hbf.bs
      obtain ⟨ce, l2, b2⟩ := hbf.be
      have hns := nsp_calls (w := wr.drew) hab hB1 r3 r4 b1.drew b2.drew l1 l2 hbf.ne hbf.gs hbf.ge (hbf.nils.fr ((Fr.refl (fun _ => False) wr).drew) (fun h => h) (fun h => h)) hbf.b9
      have hcd := hc.drop ((Fr.refl (fun _ => False) wr).drew)
      have hbd := hbf.fr ((Fr.refl (fun _ => False) wr).drew) (fun _ _ h => h) (fun _ _ h => h) (fun _ _ _ h => h) (fun h => h) (fun h => h)
      have k3 : wr.drew.cell? ⟨cb, 3, none⟩ = some q3 := hcb.drew.cell 3 rfl
      have k4 : wr.drew.cell? ⟨cb, 4, none⟩ = some q4 := hcb.drew.cell 4 rfl
      have k5 : wr.drew.cell? ⟨cb, 5, none⟩ = some (bufS sb) := hcb.drew.cell 5 rfl
      have k6 : wr.drew.cell? ⟨cb, 6, none⟩ = some (bufS eb') := hcb.drew.cell 6 rfl
      have HH := Lib.hid (And.intro hcd (And.intro hbd (And.intro hcb (And.intro hF hps))))
      clear hc hbf hcb r3 r4 b1 b2 hcd hbd hb n1 hr hcl hNe hF hP0 hps hrk hPl
      go_wp2_with fail
      clear y1 r0
      refine wp_region_seqV (fun w' => w'.cell? ⟨cb, 3, none⟩ = some q3 ∧ w'.cell? ⟨cb, 4, none⟩ = some q4 ∧ w'.cell? ⟨cb, 5, none⟩ = some (bufS sb) ∧ w'.cell? ⟨cb, 6, none⟩ = some (bufS eb')) (fun i => decide (i < 20) || [21, 22, 23, 24].contains i) (fun i => ![7, 11, 15, 19].contains i && decide (i < 25) && decide (i ≠ 20)) (fun i => decide (i = 20) || decide (25 ≤ i)) [0, 1, 2, 3, 4, 5, 6, 7, 8, 9, 10, 11, 12, 13, 14, 15, 16, 17, 18, 19, 20, 21, 22, 23, 24, 25, 26, 27, 28, 29, 30, 31] (by kernel_rfl) (by kernel_rfl) (fun c a d v w h => by cases d <;> exact h) ⟨k3, k4, k5, k6⟩ ?_
      iterate 7 (apply seqV_pure (ho := rfl) (hr := rfl) (hg := rfl); (intro w'; go_simp; rfl))
      (apply seqV_read (ho := rfl) (hr := rfl) (hp := rfl) (hg := rfl); (rintro w' ⟨q1, q2, q3, q4⟩; go_simp; rfl))
      iterate 3 (apply seqV_pure (ho := rfl) (hr := rfl) (hg := rfl); (intro w'; go_simp; rfl))
      (apply seqV_read (ho := rfl) (hr := rfl) (hp := rfl) (hg := rfl); (rintro w' ⟨q1, q2, q3, q4⟩; go_simp; rfl))
      iterate 3 (apply seqV_pure (ho := rfl) (hr := rfl) (hg := rfl); (intro w'; go_simp; rfl))
      (apply seqV_read (ho := rfl) (hr := rfl) (hp := rfl) (hg := rfl); (rintro w' ⟨q1, q2, q3, q4⟩; go_simp; rfl))
      iterate 3 (apply seqV_pure (ho := rfl) (hr := rfl) (hg := rfl); (intro w'; go_simp; rfl))
      (apply seqV_read (ho := rfl) (hr := rfl) (hp := rfl) (hg := rfl); (rintro w' ⟨q1, q2, q3, q4⟩; go_simp; rfl))
      refine seqV_do rfl rfl fun K hK => ?_
      go_simp
      refine hns.mono ?_
      rintro e w1 hpost
      obtain ⟨gA, gc, A4, c4, rfl⟩ : ∃ gA gc A4 c4, e = .returned (.tuple #[.slice (some ⟨gA, 0, none⟩) (0 + 1) gc, .slice A4 0 c4, .nilIface]) := by
        obtain ⟨v1, v2, cs, ce, he, ⟨vs, hr, -⟩, hs, -⟩ := hpost
        rw [HH.out.2.2.2.2] at hr
        obtain ⟨gA, gc, rfl⟩ := own_slc (n := 0) hr
        obtain ⟨A4, c4, rfl⟩ := own_sl' hs
        exact ⟨gA, gc, A4, c4, he⟩
      refine hK _ _ (fun h => absurd h (by decide)) ?_
      clear hK K
      iterate 4 (apply seqV_pure (ho := rfl) (hr := rfl) (hg := rfl); (intro w'; go_simp; rfl))
      obtain ⟨hcd, hbd, hcb, hF, hps⟩ := HH.out
      have hst := rcls_stage hcd hbd hpost
      have hcb1 : Blk w1 cb [.int .u64 10485760, pv, pl, q3, q4, bufS sb, bufS eb'] 99 := by
        obtain ⟨-, -, -, -, -, -, -, -, -, -, -, hf⟩ := hpost
        exact hcb.drew.fr hf (blk_ut hcb (by decide) (by decide) (by decide))
      have x3 := hcb1.cell 3 rfl
      have f3 := hcb1.frz 3
      have x4 := (hcb1.set 3 (.slice (some ⟨gA, 0, none⟩) (0 + 1) gc)).cell 4 rfl
      have f4 := (hcb1.set 3 (.slice (some ⟨gA, 0, none⟩) (0 + 1) gc)).frz 4
      unfold RclsPost at hst
      rw [hps] at hst
      have HS := Lib.hid (And.intro hst hF)
      clear hcb1 hcd hbd hcb hst hpost hns k3 k4 k5 k6 HH hF hps
      refine seqV_do rfl rfl fun K hK => ?_
      go_simp
      refine hK _ _ (fun h => absurd h (by decide)) ?_
      clear hK K
      refine seqV_do rfl rfl fun K hK => ?_
      go_simp
      refine hK _ _ (fun h => absurd h (by decide)) ?_
      clear hK K
      refine seqV_do rfl rfl fun K hK => ?_
      go_simp
      refine hK _ _ (fun h => absurd h (by decide)) ?_
      clear hK K
      refine seqV_do rfl rfl fun K hK => ?_
      go_simp
      refine hK _ _ (fun h => absurd h (by decide)) ?_
      clear hK K
      refine seqV_do rfl rfl fun K hK => ?_
      go_simp
      refine hK _ _ (fun h => absurd h (by decide)) ?_
      clear hK K
      refine seqV_do rfl rfl fun K hK => ?_
      go_simp
      refine hK _ _ (fun h => absurd h (by decide)) ?_
      clear hK K
      refine seqV_do rfl rfl fun K hK => ?_
      go_simp
      refine hK _ _ (fun h => absurd h (by decide)) ?_
      clear hK K
      unfold seqV
      generalize hW : ((w1.setCell ⟨cb, 3, none⟩ (.slice (some ⟨gA, 0, none⟩) (0 + 1) gc)).setCell ⟨cb, 4, none⟩ (.slice A4 0 c4)) = W at *
      obtain ⟨⟨hcm, hbf, hrw, hfw⟩, hF⟩ := HS.out
      obtain ⟨pv2, pl2, hcb2, hge2⟩ := hcm.blk
      have y3 := hcb2.cell 3 rfl
      obtain ⟨vs, ho, hvs⟩ := hrw
      obtain ⟨u, hu, hsq⟩ := hvs 0 (r, r) rfl
      obtain ⟨g', c', he, -, -, hrc, -⟩ := own_cell ho hu
      simp at he
      obtain ⟨rfl, rfl⟩ := he
      obtain ⟨uA, um, uc, rfl⟩ : ∃ A m c, u = .slice A m c := by
        obtain ⟨A, c, h, -⟩ := hsq
        exact ⟨A, _, c, h⟩
      have hWB : B ≤ W.heap.size := Nat.le_trans hB1 hfw.size
      have hql : ((enc r).zip (enc r)).length ≤ 4 := by rw [List.length_zip]; have := enc_len_le r; omega
      have hsc := seq_calls hcm hWB hsq (by show P.length + ((enc r).zip (enc r)).length ≤ 1000000; omega)
      have HW := Lib.hid (And.intro hbf (And.intro hfw hF))
      clear hW hcb2 HS hcm hbf hvs hsq ho hu hfw hF x3 x4 f3 f4
      go_wp2_with fail
      clear y3
      refine wp_loop_rounds 2 ?_
      rw [rounds_succ]
      go_wp2_with fail
      refine hsc.mono ?_
      rintro e w2 ⟨rfl, hc2, hf2⟩
      clear hsc hrc
      go_wp2_with fail
      rw [rounds_succ]
      go_wp2_with fail
      go_roundg (N - (k + 1) + 1)
      case measure => omega
      case rel =>
        obtain ⟨hbf, hfw, hF⟩ := HW.out
        refine ⟨k + 1, by omega, rfl, by simp, ?_, ?_⟩
        · rw [htk.out, litC_snoc, ← List.append_assoc, hP.out]
          exact Cp.ofCt hbf hf2 hc2
        · exact kt_trans (kt_trans hF ((kt_drop ((Fr.refl (fun _ => False) wr).drew)))) (kt_trans hfw (ct_kt hf2))
    · obtain rfl : k = N := by omega
      have e1 : ¬ ((k : Int) < (k : Int)) := by omega
      rw [List.take_of_length_le (by omega)] at hcp
      have hfin : Cp wr B cb (p ++ code (.lit rs) p.length) := by simpa only [code] using hcp
      have hsize := size_ok hfin (by rw [List.length_append, clen_eq]; omega)
      have HF := Lib.hid hF
      clear hb n1 hr hcl hNe hcp hfin hF
      go_wp2_with fail
      refine hsize.mono ?_
      rintro e w6 ⟨rfl, h6, hF6⟩
      go_wp2_with fail
      go_ret
      exact ⟨rfl, h6, kt_trans HF.out hF6⟩
end Go.Proofs.YtjeklnbfpehbeaaDoor

/- Copies that may be left out, in plain lists: laid with open splits, which are set at the end. No condition. -/
namespace Go.Proofs.YtjeklnbfpehbeaaDoor

/-- The copies, their splits open. -/
def optO (c : Nat → List Ins) : Nat → Nat → List Ins
  | 0, _ => []
  | k + 1, o => .split 0 0 :: c (o + 1) ++ optO c k (o + 1 + (c (o + 1)).length)
/-- Where the splits stand. -/
def ops (c : Nat → List Ins) : Nat → Nat → List Nat
  | 0, _ => []
  | k + 1, o => o :: ops c k (o + 1 + (c (o + 1)).length)
theorem ops_len (c : Nat → List Ins) (k o : Nat) : (ops c k o).length = k := by
  induction k generalizing o with
  | zero => rfl
  | succ k ih => simp only [ops, List.length_cons]; rw [ih]
theorem optO_snoc (c : Nat → List Ins) (k o : Nat) : optO c (k + 1) o = optO c k o ++ (.split 0 0 :: c (o + (optO c k o).length + 1)) := by
  induction k generalizing o with
  | zero => simp [optO]
  | succ k ih =>
    have hn : o + (optO c (k + 1) o).length = o + 1 + (c (o + 1)).length + (optO c k (o + 1 + (c (o + 1)).length)).length := by
      simp only [optO, List.length_append, List.length_cons]; omega
    rw [hn]
    rw [optO, ih]
    simp [optO]
theorem ops_snoc (c : Nat → List Ins) (k o : Nat) : ops c (k + 1) o = ops c k o ++ [o + (optO c k o).length] := by
  induction k generalizing o with
  | zero => simp [ops, optO]
  | succ k ih =>
    have hn : o + (optO c (k + 1) o).length = o + 1 + (c (o + 1)).length + (optO c k (o + 1 + (c (o + 1)).length)).length := by
      simp only [optO, List.length_append, List.length_cons]; omega
    rw [hn, ops, ih]
    simp [ops]
theorem optO_len (c : Nat → List Ins) (e k o : Nat) : (optO c k o).length = (optC c e k o).length := by
  induction k generalizing o with
  | zero => rfl
  | succ k ih => simp only [optO, optC, List.length_append, List.length_cons]; rw [ih]

theorem optO_le (c : Nat → List Ins) {j k : Nat} (h : j ≤ k) (o : Nat) : (optO c j o).length ≤ (optO c k o).length := by
  induction k with
  | zero => obtain rfl : j = 0 := by omega
            exact Nat.le_refl _
  | succ k ih =>
    by_cases e : j = k + 1
    · subst e; exact Nat.le_refl _
    · have := ih (by omega)
      rw [optO_snoc, List.length_append]
      omega
/-- The splits are set. -/
def setSs (p : List Ins) (js : List Nat) (e : Nat) : List Ins := js.foldl (fun p j => p.set j (.split (j + 1) e)) p
theorem setSs_snoc (p : List Ins) (js : List Nat) (j e : Nat) : setSs p (js ++ [j]) e = (setSs p js e).set j (.split (j + 1) e) := by simp [setSs]
theorem setSs_split {p : List Ins} {js : List Nat} {e j a a' : Nat} (h : p[j]? = some (.split a a')) : ∃ b b', (setSs p js e)[j]? = some (.split b b') := by
  induction js generalizing p a a' with
  | nil => exact ⟨a, a', h⟩
  | cons i js ih =>
    simp only [setSs, List.foldl_cons] at *
    by_cases hij : i = j
    · subst hij
      exact ih (a := i + 1) (a' := e) (List.getElem?_set_self (List.getElem?_eq_some_iff.1 h).1)
    · exact ih (a := a) (a' := a') ((List.getElem?_set_ne hij).trans h)
theorem ops_split (A : List Ins) (c : Nat → List Ins) (k : Nat) : ∀ j, j ∈ ops c k A.length → (A ++ optO c k A.length)[j]? = some (.split 0 0) := by
  induction k generalizing A with
  | zero => intro j hj; simp [ops] at hj
  | succ k ih =>
    intro j hj
    simp only [ops, List.mem_cons] at hj
    have e1 : A ++ optO c (k + 1) A.length = (A ++ Ins.split 0 0 :: c (A.length + 1)) ++ optO c k (A.length + 1 + (c (A.length + 1)).length) := by simp [optO]
    have e2 : (A ++ Ins.split 0 0 :: c (A.length + 1)).length = A.length + 1 + (c (A.length + 1)).length := by simp; omega
    rcases hj with rfl | hj
    · simp [optO]
    · rw [e1]
      rw [← e2] at hj ⊢
      exact ih _ j hj
theorem setSs_opt (A : List Ins) (c : Nat → List Ins) (k e : Nat) : setSs (A ++ optO c k A.length) (ops c k A.length) e = A ++ optC c e k A.length := by
  induction k generalizing A with
  | zero => simp [ops, setSs, optO, optC]
  | succ k ih =>
    show setSs ((A ++ optO c (k + 1) A.length).set A.length (.split (A.length + 1) e)) (ops c k (A.length + 1 + (c (A.length + 1)).length)) e = _
    have e1 : A ++ optO c (k + 1) A.length = A ++ Ins.split 0 0 :: (c (A.length + 1) ++ optO c k (A.length + 1 + (c (A.length + 1)).length)) := by simp [optO]
    rw [e1, set_mid]
    have := ih (A ++ Ins.split (A.length + 1) e :: c (A.length + 1))
    have e2 : (A ++ Ins.split (A.length + 1) e :: c (A.length + 1)).length = A.length + 1 + (c (A.length + 1)).length := by simp; omega
    rw [e2] at this
    simpa [optC] using this
end Go.Proofs.YtjeklnbfpehbeaaDoor
