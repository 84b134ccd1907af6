/- The compiler's '(*compiler).c' of package regexp at alternatives, the parts' contracts given. Condition: the program stays below 200000 instructions. -/
import Derived.Test.YtjeklnbfpehbeaaDoorM10
set_option linter.unusedVariables false
/- The compiler's '(*compiler).c' of package regexp at alternatives, the parts' contracts given. Condition: the program stays below 200000 instructions. -/
namespace Go.Proofs.YtjeklnbfpehbeaaDoor
open Go.RowKit

theorem pre_take_le (cs : List (Nat → List Ins)) (e : Nat) : ∀ (k o : Nat), k < cs.length → (pre o (cs.take k) 0).length ≤ (altE o cs e).length := by
  induction cs with
  | nil => intro k o hk; simp at hk
  | cons c cs ih =>
    intro k o hk
    cases k with
    | zero => simp [pre]
    | succ k =>
      cases cs with
      | nil => simp at hk
      | cons d cs =>
        have := ih k (o + (c (o + 1)).length + 2) (by simpa using hk)
        simp only [List.take_succ_cons, pre, altE, List.length_append, List.length_cons] at this ⊢
        omega

set_option maxRecDepth 100000 in
set_option maxHeartbeats 8000000 in
theorem c_alt (B cb : Nat) (l : List RE) (hl1 : 1 ≤ l.length) (hll : l.length ≤ 1000) (ih : ∀ r, r ∈ l → CC B cb r) : CC B cb (.alt l) := by
  intro w p nb h hn hB hl
  simp only [NodeAt] at hn
  obtain ⟨sv, rv, mn, mx, ⟨A, c, rfl, hs⟩, ns, hb, n0, n1, n2, n4, n7, n8⟩ := hn.get (w' := w) (B := B)
  have y0 := hb.cell 0 n0
  have y1 := hb.cell 1 n1
  obtain ⟨m, hm⟩ : ∃ m, l.length = m + 1 := ⟨l.length - 1, by omega⟩
  rw [hm] at n2
  have y2 := hb.cell 2 n2
  have hcl : (altc (l.map code) p.length).length = clen (.alt l) := by rw [← clen_eq _ p.length]; simp only [code, codes_eq]
  have hmk : ∀ X : World, (Instr.makeSlice 113 (.int .i64 0) (.int .i64 (m : Int))).run Tryd.prog X = .ok (.slice (some ⟨X.heap.size, 0, none⟩) 0 m) (X.alloc (.cells (u64s (List.replicate m 0)).toArray 46)) := fun X => run_mk_u64 0 m (by omega) (by omega) .i64 .i64 X
  have hjo : (w.alloc (.cells (u64s (List.replicate m 0)).toArray 46)).ownsRow w.heap.size 46 1 (.slice (some ⟨w.heap.size, 0, none⟩) 0 m) 0 [] := by
    have := own_of_blk (base := w.heap.size) (n := 0) (c := m) (size := 1) (Blk.new w (u64s (List.replicate m 0)) 46) (Nat.le_refl _) (Nat.zero_le _) (by simp only [maxLen]; omega) (by simp [u64s])
    simpa using this
  have hFa : Fr (KT w B) w (w.alloc (.cells (u64s (List.replicate m 0)).toArray 46)) := kt_drop ((Fr.refl _ w).alloc _)
  have hca := h.drop ((Fr.refl (fun _ => False) w).alloc (.cells (u64s (List.replicate m 0)).toArray 46))
  generalize hC : (u64s (List.replicate m 0)).toArray = C at *
  obtain ⟨bl, hbl⟩ : ∃ bl, Hid (bl = l.map code) := ⟨_, Lib.hid rfl⟩
  have hbll : bl.length = m + 1 := by rw [hbl.out]; simpa using hm
  have hpl : ∀ k, k ≤ m → (p ++ pre p.length (bl.take k) 0).length ≤ p.length + clen (.alt l) := fun k hk => by
    have h1 := pre_take_le bl (p.length + (altE p.length bl 0).length) k p.length (by omega)
    have h2 := hcl
    rw [← hbl.out, altc] at h2
    rw [List.length_append]
    omega
  have HB := Lib.hid (And.intro hb (And.intro n2 (And.intro hs (And.intro hcl hC))))
  have e0 : ¬ ((m : Int) + 1 = 0) := by omega
  have e00 : (((m : Int) + 1) == 0) = false := by rw [beq_eq_false_iff_ne]; omega
  clear hn n0 n1 n2 n4 n7 n8 hb hs hcl hC h
  go_enter Tryd.func38, Tryd.ntmps38
  go_wp2_with fail
  clear y0 y1 y2 hmk
  go_loopg [16, 17] (m + 1) (fun g jm i wr => ∃ k : Nat, k ≤ m ∧ g = m - k + 1 ∧ i = .int .i64 (k : Int) ∧ Cp wr B cb (p ++ pre p.length (bl.take k) 0) ∧ wr.ownsRow w.heap.size 46 1 jm k (u64s (jps p.length (bl.take k))) ∧ Fr (KT w B) w wr)
  case atStart => exact ⟨0, by omega, by omega, rfl, by simpa [pre] using hca, by simpa [jps, u64s] using hjo, hFa⟩
  case round =>
    clear hca hjo hFa
    obtain ⟨k, hk, rfl, rfl, hcm, hjo, hF⟩ := hrel
    have hB1 : B ≤ wr.heap.size := Nat.le_trans hB hF.size
    have hPl := hpl k hk
    have y2 : wr.cell? ⟨nb, 2, none⟩ = some (.slice A (m + 1) c) := (HB.out.1.fr hF (blk_kt HB.out.1 (by decide))).cell 2 HB.out.2.1
    obtain ⟨r, hr⟩ : ∃ r, l[k]? = some r := ⟨_, List.getElem?_eq_getElem (by omega)⟩
    obtain ⟨b, o, cs, kb, rfl, hbk, hck, hnk⟩ := SubsAt.get l _ 0 k r HB.out.2.2.1 hr
    rw [Nat.zero_add] at hck
    have hck1 := hF.cell hck (blk_kt hbk (by decide))
    have hrm := List.mem_of_getElem? hr
    have hbk' : bl[k]? = some (code r) := by rw [hbl.out, List.getElem?_map, hr]; rfl
    by_cases hlt : k < m
    · have e1 : (k : Int) < (m : Int) := by omega
      have htk := Lib.hid (show bl.take (k + 1) = bl.take k ++ [code r] from take_snoc_getElem? hbk')
      have hPl1 := hpl (k + 1) (by omega)
      rw [htk.out, pre_snoc] at hPl1
      simp only [List.length_append, List.length_cons, List.length_nil, clen_eq] at hPl1
      generalize hP0 : p ++ pre p.length (bl.take k) 0 = P at *
      have hPe : P.length = p.length + (pre p.length (bl.take k) 0).length := by rw [← hP0, List.length_append]
      have hPx : P.length + 1 + clen r + 1 ≤ 200000 := by omega
      have hP := Lib.hid hP0
      clear hP0 hr hbk' hPe hPl1 hPl
      obtain ⟨n0, hn0⟩ : ∃ n0, Hid (n0 = P.length) := ⟨_, Lib.hid rfl⟩
      have hsp := cp_split hcm hB1 (by omega)
      rw [← hn0.out] at hsp
      have HK := Lib.hid (And.intro hbk (And.intro hck1 (And.intro hnk hF)))
      clear hbk hck hnk
      go_wp2_with fail
      refine hsp.mono ?_
      rintro e w2 ⟨rfl, hcm2, hF2⟩
      clear hsp y2 hck1
      have htp := cp_top hcm2 (by simp; omega)
      obtain ⟨n1, hn1⟩ : ∃ n1, Hid (n1 = (P ++ [Ins.split 0 0]).length) := ⟨_, Lib.hid rfl⟩
      rw [← hn1.out] at htp
      have hB2 : B ≤ w2.heap.size := Nat.le_trans hB1 hF2.size
      have hsc := ih r hrm w2 _ kb hcm2 (HK.out.2.2.1.kt (kt_trans hF hF2)) hB2 (by simp; omega)
      have hjo2 := own_kt46 hjo hF2
      clear hjo hcm2
      go_wp2_with fail
      refine htp.mono ?_
      rintro e w2' ⟨rfl, rfl⟩
      clear htp
      go_wp2_with fail
      refine hsc.mono ?_
      rintro e w3 ⟨rfl, hcm3, hF3⟩
      clear hsc
      have hB3 : B ≤ w3.heap.size := Nat.le_trans hB2 hF3.size
      have hjo3 := own_kt46 hjo2 hF3
      obtain ⟨D, hD⟩ : ∃ D, Hid (D = code r (P.length + 1)) := ⟨_, Lib.hid rfl⟩
      have hDl : D.length = clen r := by rw [hD.out, clen_eq]
      have hl1 : (P ++ [Ins.split 0 0]).length = P.length + 1 := by simp
      rw [hl1, ← hD.out] at hcm3
      have hln : (P ++ [Ins.split 0 0] ++ D).length ≤ 200000 := by simp only [List.length_append, List.length_cons, List.length_nil]; omega
      have hjc := cp_jump hcm3 hB3 (by omega)
      obtain ⟨n3', hn3⟩ : ∃ n, Hid (n = (P ++ [Ins.split 0 0] ++ D).length) := ⟨_, Lib.hid rfl⟩
      rw [← hn3.out] at hjc hln
      clear hcm3 hjo2 hl1 hDl
      go_wp2_with fail
      refine hjc.mono ?_
      rintro e w4 ⟨rfl, hcm4, hF4⟩
      clear hjc
      have hjo4 := own_kt46 hjo3 hF4
      have hF14 := kt_trans (kt_trans hF2 hF3) hF4
      have hWl : w.heap.size ≤ w4.heap.size := Nat.le_trans hF.size hF14.size
      have HC := Lib.hid (And.intro hcm4 (And.intro hF14 hF))
      clear hcm4 hF14 hF hjo3 hF2 hF3 hF4
      go_wp2_with (at_builtin; ((refine app1b w4 w4.heap.size rfl rfl _ _ 113 rfl w.heap.size 46 (.int .u64 0) 1 8 Tryd.underlying113 (by kernel_rfl) rfl (by decide) u16 k _ [.int .u64 (n3' : Int)] rfl rfl hjo4 rfl (by simp [Value.oneCell']) (by omega) (by decide) hWl ?_); intro jm' w5 ho5 hf5 hn5; obtain ⟨gj, cj, rfl⟩ := own_slc ho5))
      obtain ⟨hcm4, hF14, hF⟩ := HC.out
      have hcm5 := hcm4.row hjo4 hB hf5
      have htp := cp_top hcm5 (by rw [List.length_append, ← hn3.out]; simp only [List.length_cons, List.length_nil]; omega)
      obtain ⟨n5, hn5'⟩ : ∃ n, Hid (n = (P ++ [Ins.split 0 0] ++ D ++ [Ins.jmp 0]).length) := ⟨_, Lib.hid rfl⟩
      rw [← hn5'.out] at htp
      have hi : (P ++ [Ins.split 0 0] ++ D ++ [Ins.jmp 0])[n0]? = some (.split 0 0) := by
        rw [hn0.out]; simp
      have hss := cp_setsplit hcm5 hi n1 n5
      have hFW5 : Fr (KT w B) w w5 := kt_row (kt_trans hF hF14) hjo4 (Nat.le_refl _) hf5
      clear hcm4 hF14 hF hcm5 HC hjo4 hf5 hn5 hi
      go_wp2_with fail
      refine htp.mono ?_
      rintro e w5' ⟨rfl, rfl⟩
      clear htp
      go_wp2_with fail
      refine hss.mono ?_
      rintro e w6 ⟨rfl, hcm6, hF6⟩
      clear hss
      go_wp2_with fail
      go_roundg (m - (k + 1) + 1)
      case measure => omega
      case rel =>
        refine ⟨k + 1, by omega, rfl, by simp, ?_, ?_, kt_trans hFW5 hF6⟩
        · rw [htk.out, ← pre_step p (bl.take k) (code r) hP.out (D := D) hD.out.symm]
          rw [hn0.out, hn1.out, hn5'.out] at hcm6
          exact hcm6
        · rw [htk.out, jps_step p (bl.take k) (code r) hP.out (D := D) hD.out.symm]
          have := own_kt46 ho5 hF6
          rw [hn3.out] at this
          simpa [u64s] using this
    · obtain rfl : k = m := by omega
      have e1 : ¬ ((k : Int) < (k : Int)) := by omega
      have htk : Hid (bl = bl.take k ++ [code r]) := Lib.hid (by
        rw [← take_snoc_getElem? hbk', List.take_of_length_le (by omega)])
      have hPx : (p ++ pre p.length (bl.take k) 0).length + clen r = p.length + clen (.alt l) := by
        have h2 := HB.out.2.2.2.1
        rw [← hbl.out, htk.out, altc_snoc] at h2
        rw [List.length_append, clen_eq, pre_len p.length (bl.take k) _ 0] at h2
        rw [List.length_append]
        omega
      generalize hP0 : p ++ pre p.length (bl.take k) 0 = P at *
      have hP := Lib.hid hP0
      obtain ⟨jA, jc, rfl⟩ := own_sl' hjo
      have hsc := ih r hrm wr.drew P kb (hcm.drop ((Fr.refl (fun _ => False) wr).drew)) (hnk.kt (kt_trans hF (kt_drop ((Fr.refl (fun _ => False) wr).drew)))) hB1 (by omega)
      have r3 : wr.drew.cell? ⟨nb, 2, none⟩ = some (.slice (some ⟨b, o, none⟩) (k + 1) c) := y2
      have rr : wr.drew.cell? ⟨b, o + k, none⟩ = some (.pointer (some ⟨kb, 0, none⟩)) := hck1
      have HJ := Lib.hid (And.intro hF (And.intro hjo hbk))
      have ew : IntKind.i64.wrap (k : Int) = (k : Int) := IntWalk.i64_in _ (by omega)
      have ek0 : (0 : Int) ≤ (k : Int) := by omega
      have ek1 : (k : Int) < (k : Int) + 1 := by omega
      clear hP0 hr hbk' hF hjo hcm hck hnk hbk hck1
      go_wp2_with fail
      clear y2
      refine wp_region_seqV (fun w' => w'.cell? ⟨nb, 2, none⟩ = some (.slice (some ⟨b, o, none⟩) (k + 1) c) ∧ w'.cell? ⟨b, o + k, none⟩ = some (.pointer (some ⟨kb, 0, none⟩))) (fun i => decide (i ≠ 13)) (fun i => ![4, 8, 12].contains i && decide (i ≠ 13)) (fun i => false) [0, 1, 2, 3, 4, 5, 6, 7, 8, 9, 10, 11, 12, 13, 14] (by kernel_rfl) (by kernel_rfl) (fun c a d v w h => by cases d <;> exact h) ⟨r3, rr⟩ ?_
      iterate 4 (apply seqV_pure (ho := rfl) (hr := rfl) (hg := rfl); (intro w'; go_simp; rfl))
      (apply seqV_read (ho := rfl) (hr := rfl) (hp := rfl) (hg := rfl); (rintro w' ⟨q1, q2⟩; go_simp; rfl))
      iterate 3 (apply seqV_pure (ho := rfl) (hr := rfl) (hg := rfl); (intro w'; go_simp; rfl))
      (apply seqV_read (ho := rfl) (hr := rfl) (hp := rfl) (hg := rfl); (rintro w' ⟨q1, q2⟩; go_simp; rfl))
      iterate 3 (apply seqV_pure (ho := rfl) (hr := rfl) (hg := rfl); (intro w'; go_simp; rfl))
      (apply seqV_read (ho := rfl) (hr := rfl) (hp := rfl) (hg := rfl); (rintro w' ⟨q1, q2⟩; go_simp; rfl))
      refine seqV_do rfl rfl fun K hK => ?_
      go_simp
      refine hsc.mono ?_
      rintro e w3 ⟨rfl, hcm3, hF3⟩
      clear hsc
      obtain ⟨hF, hjo, hbk⟩ := HJ.out
      have hFd := kt_trans (kt_drop (B := B) ((Fr.refl (fun _ => False) wr).drew)) hF3
      have hF13 := kt_trans hF hFd
      refine hK _ _ (fun _ => ⟨(HB.out.1.fr hF13 (blk_kt HB.out.1 (by decide))).cell 2 HB.out.2.1, hF3.cell rr (blk_kt (Blk.drew (hbk.fr hF (blk_kt hbk (by decide)))) (by decide))⟩) ?_
      clear hK K
      iterate 1 (apply seqV_pure (ho := rfl) (hr := rfl) (hg := rfl); (intro w'; go_simp; rfl))
      unfold seqV
      have hjo3 := own_kt46 hjo hFd
      obtain ⟨D, hD⟩ : ∃ D, Hid (D = code r P.length) := ⟨_, Lib.hid rfl⟩
      have hDl : D.length = clen r := by rw [hD.out, clen_eq]
      rw [← hD.out] at hcm3
      obtain ⟨A1, c1, hsl⟩ := hcm3.slc
      obtain ⟨en, hen⟩ : ∃ n, Hid (n = (P ++ D).length) := ⟨_, Lib.hid rfl⟩
      rw [← hen.out] at hsl
      have henl : en ≤ 300000 := by rw [hen.out, List.length_append]; omega
      have ew2 : IntKind.u64.wrap (en : Int) = (en : Int) := IntWalk.u64_in _ (by omega)
      obtain ⟨js, hjs⟩ : ∃ js, Hid (js = jps p.length (bl.take k)) := ⟨_, Lib.hid rfl⟩
      rw [← hjs.out] at hjo3
      have hjl : js.length = k := by rw [hjs.out, jps_len, List.length_take]; omega
      clear hF hjo hF3 hFd HJ hDl r3 rr hbk
      go_wp2_with fail
      clear hsl
      go_loopg [306] (k + 1) (fun g i wr2 => ∃ j : Nat, j ≤ k ∧ g = k - j + 1 ∧ i = .int .i64 (j : Int) ∧ Cp wr2 B cb (setJs (P ++ D) (js.take j) en) ∧ Fr (KT w B) w wr2 ∧ wr2.ownsRow w.heap.size 46 1 (.slice jA k jc) k (u64s js))
      case atStart => exact ⟨0, by omega, by omega, rfl, by simpa [setJs] using hcm3, hF13, hjo3⟩
      case round =>
        clear hcm3 hF13 hjo3
        obtain ⟨j, hj, rfl, rfl, hcm, hF, hjo⟩ := hrel
        by_cases hjk : j < k
        · have e2 : (j : Int) < (k : Int) := by omega
          obtain ⟨t, ht⟩ : ∃ t, js[j]? = some t := ⟨_, List.getElem?_eq_getElem (by omega)⟩
          obtain ⟨g5, c5, he5, -, -, hrj, -⟩ := own_cell hjo (j := j) (u := .int .u64 (t : Int)) (by simp [u64s, ht])
          simp at he5
          obtain ⟨rfl, rfl⟩ := he5
          obtain ⟨a0, ha0⟩ : ∃ a0, (setJs (P ++ D) (js.take j) en)[t]? = some (.jmp a0) := by
            refine setJs_jmp (a := 0) ?_
            rw [← hP.out]
            exact pre_jmp p (bl.take k) 0 _ t (by rw [← hjs.out]; exact List.mem_of_getElem? ht)
          have hsj := cp_setjump hcm ha0 en
          have HF := Lib.hid (And.intro hF (And.intro hjo ht))
          clear hcm hF hjo ht ha0
          go_wp2_with fail
          refine hsj.mono ?_
          rintro e w4 ⟨rfl, hcm4, hF4⟩
          clear hsj
          go_wp2_with fail
          go_roundg (k - (j + 1) + 1)
          case measure => omega
          case rel =>
            obtain ⟨hF, hjo, ht⟩ := HF.out
            refine ⟨j + 1, by omega, rfl, by simp, ?_, kt_trans hF hF4, own_kt46 hjo hF4⟩
            rw [take_snoc_getElem? ht, setJs_snoc]
            exact hcm4
        · obtain rfl : j = k := by omega
          have e2 : ¬ ((j : Int) < (j : Int)) := by omega
          rw [List.take_of_length_le (by omega), hjs.out, hen.out, alt_step p (bl.take j) (code r) hP.out (D := D) hD.out.symm, ← htk.out, hbl.out] at hcm
          have hfin : Cp wr B cb (p ++ code (.alt l) p.length) := by simpa only [code, codes_eq] using hcm
          have hsize := size_ok hfin (by rw [List.length_append, clen_eq]; omega)
          have HF := Lib.hid hF
          clear hcm hF hfin hjo
          go_wp2_with fail
          refine hsize.mono ?_
          rintro e w6 ⟨rfl, h6, hF6⟩
          go_wp2_with fail
          go_ret
          exact ⟨rfl, h6, kt_trans HF.out hF6⟩
end Go.Proofs.YtjeklnbfpehbeaaDoor
