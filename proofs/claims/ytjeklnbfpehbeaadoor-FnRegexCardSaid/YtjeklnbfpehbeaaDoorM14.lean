/- The compiler's '(*compiler).c' of package regexp at a repetition with an end, its part's contract given. Condition: the program stays below 200000 instructions. -/
import Derived.Test.YtjeklnbfpehbeaaDoorM13
set_option linter.unusedVariables false
/- The compiler's '(*compiler).c' of package regexp at a repetition with an end, its part's contract given. Condition: the program stays below 200000 instructions. -/
namespace Go.Proofs.YtjeklnbfpehbeaaDoor
open Go.RowKit

set_option maxRecDepth 100000 in
set_option maxHeartbeats 8000000 in
theorem c_repS (B cb : Nat) (mn mx : Nat) (r : RE) (hmn : mn ≤ mx) (hmx : mx ≤ 1000) (ih : CC B cb r) : CC B cb (.rep mn (some mx) r) := by
  intro w p nb h hn hB hl
  simp only [NodeAt] at hn
  obtain ⟨sv, rv, x0, x1, a, b, cp, nm, hb, ⟨rA, rn, rc, rfl⟩, ha, hbx, hone⟩ := hn
  subst ha
  have hbx' : b = (mx : Int) := hbx
  subst hbx'
  have e8 : ¬ ((mx : Int) = -1) := by omega
  have e80 : ((mx : Int) == -1) = false := by rw [beq_eq_false_iff_ne]; omega
  obtain ⟨sb, so, sc, scs, kb, rfl, hsb, hsc, hk⟩ := hone
  have y0 := hb.cell 0 rfl
  have y1 := hb.cell 1 rfl
  have y8 := hb.cell 8 rfl
  have hcl : (seqC (List.replicate mn (code r)) p.length).length + (optC (code r) 0 (mx - mn) (p.length + (seqC (List.replicate mn (code r)) p.length).length)).length = clen (.rep mn (some mx) r) := by
    rw [← clen_eq (.rep mn (some mx) r) p.length]; simp only [code, List.length_append]; exact congrArg _ (optC_fix (code_fix r) _ _ _ _ _)
  have HB := Lib.hid (And.intro hb (And.intro hsb (And.intro hsc (And.intro hk hcl))))
  clear hbx hb hsb hsc hk hcl
  go_enter Tryd.func38, Tryd.ntmps38
  go_wp2_with fail
  clear y0 y1 y8
  go_loopg [44] (mn + 1) (fun g i wr => ∃ k : Nat, k ≤ mn ∧ g = mn - k + 1 ∧ i = .int .i64 (k : Int) ∧ Cp wr B cb (p ++ seqC ((List.replicate mn (code r)).take k) p.length) ∧ Fr (KT w B) w wr)
  case atStart => exact ⟨0, by omega, by omega, rfl, by simpa [seqC] using h, Fr.refl _ _⟩
  case round =>
    clear h
    obtain ⟨k, hk, rfl, rfl, hcp, hF⟩ := hrel
    obtain ⟨hb, hsb, hsc, hkn, hcl⟩ := HB.out
    have hB1 : B ≤ wr.heap.size := Nat.le_trans hB hF.size
    have hbw := hb.fr hF (blk_kt hb (by decide))
    have hscw := hF.cell hsc (blk_kt hsb (by decide))
    by_cases hlt : k < mn
    · have e1 : (k : Int) < (mn : Int) := by omega
      have y7 := hbw.cell 7 rfl
      have y2 := hbw.cell 2 rfl
      have htk := Lib.hid (show (List.replicate mn (code r)).take (k + 1) = (List.replicate mn (code r)).take k ++ [code r] from take_snoc_getElem? (by rw [List.getElem?_replicate, if_pos hlt]))
      have hlen : (p ++ seqC ((List.replicate mn (code r)).take k) p.length).length + clen r ≤ 200000 := by
        have h1 := seqC_take_len (List.replicate mn (code r)) (k + 1) p.length
        rw [htk.out, seqC_snoc, List.length_append, clen_eq] at h1
        rw [List.length_append]
        omega
      have hc := ih wr _ kb hcp (hkn.kt hF) hB1 hlen
      have HF := Lib.hid hF
      clear hb hsb hsc hkn hcl hcp hF hbw
      go_wp2_with fail
      refine hc.mono ?_
      rintro e w1 ⟨rfl, h1, h2⟩
      clear hc
      go_wp2_with fail
      go_roundg (mn - (k + 1) + 1)
      case measure => omega
      case rel =>
        refine ⟨k + 1, by omega, rfl, by simp, ?_, kt_trans HF.out h2⟩
        rw [htk.out, seqC_snoc, ← List.append_assoc]
        rw [List.length_append] at h1
        exact h1
    · obtain rfl : k = mn := by omega
      have e1 : ¬ ((k : Int) < (k : Int)) := by omega
      rw [List.take_of_length_le (by simp)] at hcp
      have y7 := hbw.cell 7 rfl
      obtain ⟨K, hKe⟩ : ∃ K, K = mx - k := ⟨_, rfl⟩
      have hK1 : K ≤ 1000 := by omega
      have hKs : (mx : Int) - (k : Int) = (K : Int) := by omega
      have hmk : ∀ X : World, (Instr.makeSlice 113 (.int .i64 0) (.int .i64 ((mx : Int) - (k : Int)))).run Tryd.prog X = .ok (.slice (some ⟨X.heap.size, 0, none⟩) 0 K) (X.alloc (.cells (u64s (List.replicate K 0)).toArray 46)) := fun X => by
        rw [hKs]; exact run_mk_u64 0 K (by omega) (by omega) .i64 .i64 X
      have hlc : (u64s (List.replicate K 0)).length = K * 1 := by simp [u64s]
      generalize hC : u64s (List.replicate K 0) = C at *
      have ew : IntKind.i64.wrap ((mx : Int) - (k : Int)) = (mx : Int) - (k : Int) := IntWalk.i64_in _ (by omega)
      have hKe' := Lib.hid (And.intro hKe (And.intro hC hKs))
      have k7 : wr.drew.cell? ⟨nb, 7, none⟩ = some (.int .i64 (k : Int)) := hbw.drew.cell 7 rfl
      have k8 : wr.drew.cell? ⟨nb, 8, none⟩ = some (.int .i64 (mx : Int)) := hbw.drew.cell 8 rfl
      have A1 : Fr (fun _ => False) wr.drew (wr.drew.alloc (.cells C.toArray 46)) := (Fr.refl _ _).alloc _
      have A2 : Fr (fun _ => False) wr.drew (wr.drew.alloc (.cells C.toArray 46)).drew := A1.drew
      have A3 : Fr (fun _ => False) wr.drew ((wr.drew.alloc (.cells C.toArray 46)).drew.alloc (.cells C.toArray 46)) := A2.alloc _
      have hb1 : Blk ((wr.drew.alloc (.cells C.toArray 46)).drew.alloc (.cells C.toArray 46)) wr.heap.size C 46 := (Blk.drew (Blk.new wr.drew C 46)).alloc _
      have hb2 : Blk ((wr.drew.alloc (.cells C.toArray 46)).drew.alloc (.cells C.toArray 46)) (wr.heap.size + 1) C 46 := Blk.newAt _ C 46 _ (by show (wr.alloc (.cells C.toArray 46)).heap.size = _; simp)
      have o1 : ((wr.drew.alloc (.cells C.toArray 46)).drew.alloc (.cells C.toArray 46)).ownsRow wr.heap.size 46 1 (.slice (some ⟨wr.heap.size, 0, none⟩) 0 K) 0 [] := by
        have := own_of_blk (base := wr.heap.size) (n := 0) (c := K) (size := 1) hb1 (Nat.le_refl _) (Nat.zero_le _) (by simp only [maxLen]; omega) hlc
        simpa using this
      have o2 : ((wr.drew.alloc (.cells C.toArray 46)).drew.alloc (.cells C.toArray 46)).ownsRow wr.heap.size 46 1 (.slice (some ⟨wr.heap.size + 1, 0, none⟩) 0 K) 0 [] := by
        have := own_of_blk (base := wr.heap.size) (n := 0) (c := K) (size := 1) hb2 (by omega) (Nat.zero_le _) (by simp only [maxLen]; omega) hlc
        simpa using this
      have hFd : Fr (KT w B) w ((wr.drew.alloc (.cells C.toArray 46)).drew.alloc (.cells C.toArray 46)) := kt_trans (kt_trans hF (kt_drop ((Fr.refl _ wr).drew))) (kt_drop A3)
      have hcA := hcp.drop (((Fr.refl (fun _ => False) wr).drew).trans A3 (fun _ _ h => h))
      generalize hQ0 : p ++ seqC (List.replicate k (code r)) p.length = Q at *
      have hQ := Lib.hid hQ0
      have hQl : Q.length + (optC (code r) 0 K Q.length).length = p.length + clen (.rep k (some mx) r) := by
        rw [← hcl, ← hKe, ← hQ0, List.length_append]; omega
      have hw0 : w.heap.size ≤ wr.heap.size := hF.size
      have HF := Lib.hid (And.intro hFd (And.intro hcA (And.intro o1 (And.intro o2 hlc))))
      have HA := Lib.hid (And.intro A1 (And.intro A2 A3))
      clear hQ0 hb hsb hsc hkn hcl hcp hF hbw hFd hscw hcA o1 o2 hb1 hb2 A1 A2 A3 hKe hC hKs hlc
      go_wp2_with fail
      clear y7
      refine wp_region_seqV (fun w' => w'.cell? ⟨nb, 7, none⟩ = some (.int .i64 (k : Int)) ∧ w'.cell? ⟨nb, 8, none⟩ = some (.int .i64 (mx : Int))) (fun i => decide (i ≠ 9)) (fun i => ![3, 7].contains i && decide (i ≠ 9)) (fun i => false) [0, 1, 2, 3, 4, 5, 6, 7, 8, 9, 10] (by kernel_rfl) (by kernel_rfl) (fun c a d v w h => by cases d <;> exact h) ⟨k7, k8⟩ ?_
      iterate 3 (apply seqV_pure (ho := rfl) (hr := rfl) (hg := rfl); (intro w'; go_simp; rfl))
      (apply seqV_read (ho := rfl) (hr := rfl) (hp := rfl) (hg := rfl); (rintro w' ⟨q1, q2⟩; go_simp; rfl))
      iterate 3 (apply seqV_pure (ho := rfl) (hr := rfl) (hg := rfl); (intro w'; go_simp; rfl))
      (apply seqV_read (ho := rfl) (hr := rfl) (hp := rfl) (hg := rfl); (rintro w' ⟨q1, q2⟩; go_simp; rfl))
      iterate 1 (apply seqV_pure (ho := rfl) (hr := rfl) (hg := rfl); (intro w'; go_simp; rfl))
      refine seqV_do rfl rfl fun K hK => ?_
      go_simp
      refine hK _ _ (fun _ => ⟨HA.out.1.cell k7 (fun h => h), HA.out.1.cell k8 (fun h => h)⟩) ?_
      clear hK K
      iterate 1 (apply seqV_pure (ho := rfl) (hr := rfl) (hg := rfl); (intro w'; go_simp; rfl))
      unfold seqV
      have k7' : (wr.drew.alloc (.cells C.toArray 46)).drew.cell? ⟨nb, 7, none⟩ = some (.int .i64 (k : Int)) := HA.out.2.1.cell k7 (fun h => h)
      have k8' : (wr.drew.alloc (.cells C.toArray 46)).drew.cell? ⟨nb, 8, none⟩ = some (.int .i64 (mx : Int)) := HA.out.2.1.cell k8 (fun h => h)
      go_wp2_with fail
      refine wp_region_seqV (fun w' => w'.cell? ⟨nb, 7, none⟩ = some (.int .i64 (k : Int)) ∧ w'.cell? ⟨nb, 8, none⟩ = some (.int .i64 (mx : Int))) (fun i => decide (i ≠ 9)) (fun i => ![3, 7].contains i && decide (i ≠ 9)) (fun i => false) [0, 1, 2, 3, 4, 5, 6, 7, 8, 9, 10] (by kernel_rfl) (by kernel_rfl) (fun c a d v w h => by cases d <;> exact h) ⟨k7', k8'⟩ ?_
      iterate 3 (apply seqV_pure (ho := rfl) (hr := rfl) (hg := rfl); (intro w'; go_simp; rfl))
      (apply seqV_read (ho := rfl) (hr := rfl) (hp := rfl) (hg := rfl); (rintro w' ⟨q1, q2⟩; go_simp; rfl))
      iterate 3 (apply seqV_pure (ho := rfl) (hr := rfl) (hg := rfl); (intro w'; go_simp; rfl))
      (apply seqV_read (ho := rfl) (hr := rfl) (hp := rfl) (hg := rfl); (rintro w' ⟨q1, q2⟩; go_simp; rfl))
      iterate 1 (apply seqV_pure (ho := rfl) (hr := rfl) (hg := rfl); (intro w'; go_simp; rfl))
      refine seqV_do rfl rfl fun K hK => ?_
      go_simp
      refine hK _ _ (fun _ => ⟨HA.out.2.2.cell k7 (fun h => h), HA.out.2.2.cell k8 (fun h => h)⟩) ?_
      clear hK K
      iterate 1 (apply seqV_pure (ho := rfl) (hr := rfl) (hg := rfl); (intro w'; go_simp; rfl))
      unfold seqV
      have y7 : ((wr.alloc (.cells C.toArray 46)).alloc (.cells C.toArray 46)).cell? ⟨nb, 7, none⟩ = some (.int .i64 (k : Int)) := HA.out.2.2.cell k7 (fun h => h)
      clear k7 k8 k7' k8'
      go_wp2_with fail
      clear y7 hmk
      generalize hbase : wr.heap.size = W0 at *
      go_loopg [46, 47, 48] (K + 1) (fun g sp st i wr2 => ∃ j t : Nat, j ≤ K ∧ g = K - j + 1 ∧ i = .int .i64 (t : Int) ∧ Hid (t = k + j) ∧ Cp wr2 B cb (Q ++ optO (code r) j Q.length) ∧ wr2.ownsRow W0 46 1 sp j (u64s (ops (code r) j Q.length)) ∧ wr2.ownsRow W0 46 1 st j (u64s ((ops (code r) j Q.length).map (· + 1))) ∧ (∀ b, sp.ownBlock = some b → st.ownBlock ≠ some b) ∧ Fr (KT w B) w wr2 ∧ W0 ≤ wr2.heap.size)
      case atStart => exact ⟨0, k, by omega, by omega, rfl, Lib.hid rfl, by rw [show Q ++ optO (code r) 0 Q.length = Q from by simp [optO]]; exact HF.out.2.1, HF.out.2.2.1, HF.out.2.2.2.1, by intro b hb hb2; simp [Value.ownBlock] at hb hb2; omega, HF.out.1, by rw [← hbase]; exact HA.out.2.2.size⟩
      case round =>
        obtain ⟨j, t, hj, rfl, rfl, ht, hcm, ho1, ho2, hne, hF, hWr0⟩ := hrel
        obtain ⟨hb, hsb, hsc, hkn, hcl⟩ := HB.out
        obtain ⟨hKe, -, -⟩ := hKe'.out
        have hB2 : B ≤ wr.heap.size := Nat.le_trans hB hF.size
        have y8 := (hb.fr hF (blk_kt hb (by decide))).cell 8 rfl
        have hBW : B ≤ W0 := Nat.le_trans hB hw0
        have ht' := ht.out
        have hOK := optO_len (code r) 0 K Q.length
        by_cases hlt : j < K
        · have e1 : (t : Int) < (mx : Int) := by omega
          have hO1 := optO_le (code r) (show j + 1 ≤ K by omega) Q.length
          rw [optO_snoc] at hO1
          simp only [List.length_append, List.length_cons, clen_eq] at hO1
          have hPx : (Q ++ optO (code r) j Q.length).length + 1 + clen r ≤ 200000 := by rw [List.length_append]; omega
          generalize hP0 : Q ++ optO (code r) j Q.length = P at *
          have hP := Lib.hid hP0
          have hPe := Lib.hid (show P.length = Q.length + (optO (code r) j Q.length).length by rw [← hP0, List.length_append])
          obtain ⟨n0, hn0⟩ : ∃ n0, Hid (n0 = P.length) := ⟨_, Lib.hid rfl⟩
          obtain ⟨n1, hn1⟩ : ∃ n1, Hid (n1 = (P ++ [Ins.split 0 0]).length) := ⟨_, Lib.hid rfl⟩
          have hn1l : n1 ≤ 300000 := by rw [hn1.out]; simp; omega
          have ew1 : IntKind.u64.wrap (n1 : Int) = (n1 : Int) := IntWalk.u64_in _ (by omega)
          have hsp := cp_split hcm hB2 (by omega)
          rw [← hn0.out] at hsp
          have HK := Lib.hid (And.intro hb (And.intro hsb (And.intro hsc (And.intro hkn (And.intro hF (And.intro ho1 ho2))))))
          clear hb hsb hsc hkn hcl hKe hF ho1 ho2 hcm hP0 hO1 hOK ht'
          go_wp2_with fail
          refine hsp.mono ?_
          rintro e w2 ⟨rfl, hcm2, hF2⟩
          clear hsp y8
          obtain ⟨hb, hsb, hsc, hkn, hF, ho1, ho2⟩ := HK.out
          have ho1b := own_kt46 ho1 hF2
          have ho2b := own_kt46 ho2 hF2
          have hW2 : W0 ≤ w2.heap.size := Nat.le_trans hWr0 (Nat.le_trans (Nat.le_refl _) hF2.size)
          have hF02 := kt_trans hF hF2
          clear ho1 ho2 hF
          have HN := Lib.hid (And.intro hb (And.intro hsb (And.intro hsc (And.intro hkn (And.intro hcm2 (And.intro ho2b (And.intro hF02 hne)))))))
          clear hb hsb hsc hkn hcm2 ho2b hF02 hne HK
          go_wp2_with (first
            | (at_builtin; ((refine app1b w2 w2.heap.size rfl rfl _ _ 113 rfl W0 46 (.int .u64 0) 1 8 Tryd.underlying113 (by kernel_rfl) rfl (by decide) u46 j _ [.int .u64 (n0 : Int)] rfl rfl ho1b rfl (by simp [Value.oneCell']) (by omega) (by decide) hW2 ?_); intro sp' w3 ho3 hf3 hn3; obtain ⟨g1, c1, rfl⟩ := own_slc ho3; obtain ⟨hb, hsb, hsc, hkn, hcm2, ho2b, hF02, hne⟩ := HN.out; have hcm3 := hcm2.row ho1b hBW hf3; obtain ⟨A1, c1', hsl⟩ := hcm3.slc; rw [← hn1.out] at hsl; have ho2c := own_fr ho2b hf3 (fun b hb e => hne b e hb); have hF03 := kt_row hF02 ho1b hw0 hf3; have hW3 : W0 ≤ w3.heap.size := Nat.le_trans hW2 hf3.size; have HM := Lib.hid (And.intro ho3 (And.intro hn3 (And.intro hcm3 (And.intro hF03 (And.intro ho2b ho1b))))); clear hb hsb hsc hkn hcm2 ho2b hF02 hne hcm3 hF03 ho3 hn3 ho1b hf3))
            | (at_builtin; ((refine app1b w3 w3.heap.size rfl rfl _ _ 113 rfl W0 46 (.int .u64 0) 1 8 Tryd.underlying113 (by kernel_rfl) rfl (by decide) u47 j _ [.int .u64 (n1 : Int)] rfl rfl ho2c rfl (by simp [Value.oneCell']) (by omega) (by decide) hW3 ?_); intro st' w4 ho4 hf4 hn4; obtain ⟨g2, c2, rfl⟩ := own_slc ho4; obtain ⟨hb, hsb, hsc, hkn, -, -, -, -⟩ := HN.out; have hF04 := kt_row HM.out.2.2.2.1 ho2c hw0 hf4; have y2 := (hb.fr hF04 (blk_kt hb (by decide))).cell 2 rfl; have y3 := hF04.cell hsc (blk_kt hsb (by decide)); have HM2 := Lib.hid (And.intro ho4 (And.intro hn4 (And.intro hF04 (And.intro ho2c hf4)))); clear hb hsb hsc hkn hF04 ho4 hn4 ho2c hf4 hsl))
            | fail)
          obtain ⟨ho3, hn3, hcm3, hF03, ho2b, ho1b⟩ := HM.out
          obtain ⟨ho4, hn4, hF04, ho2c, hf4⟩ := HM2.out
          obtain ⟨-, -, -, hkn, -, -, -, hne⟩ := HN.out
          have hcm4 := hcm3.row ho2c hBW hf4
          have hB4 : B ≤ w4.heap.size := Nat.le_trans hB hF04.size
          have hne1 : ∀ b, (Value.slice (some ⟨g1, 0, none⟩) (j + 1) c1).ownBlock = some b → u47.ownBlock ≠ some b := by
            intro b hb hb2
            rcases hn3 with e | ⟨b', e, hge⟩
            · rw [e] at hb; exact hne b hb hb2
            · rw [e] at hb; injection hb with hb; subst hb
              have := (own_lt' ho2b hb2).2; omega
          have ho34 : w4.ownsRow W0 46 1 (.slice (some ⟨g1, 0, none⟩) (j + 1) c1) (j + 1) _ := own_fr ho3 hf4 (fun b hb e => hne1 b hb e)
          have hne2 : ∀ b, (Value.slice (some ⟨g1, 0, none⟩) (j + 1) c1).ownBlock = some b → (Value.slice (some ⟨g2, 0, none⟩) (j + 1) c2).ownBlock ≠ some b := by
            intro b hb hb2
            rcases hn4 with e | ⟨b', e, hge⟩
            · rw [e] at hb2; exact hne1 b hb hb2
            · rw [e] at hb2; injection hb2 with hb2; subst hb2
              have := (own_lt' ho3 hb).2; omega
          have hpl1 : (P ++ [Ins.split 0 0]).length = P.length + 1 := by simp
          have hc := ih w4 _ kb hcm4 (hkn.kt hF04) hB4 (by rw [hpl1]; omega)
          rw [hpl1] at hc
          have HE := Lib.hid (And.intro ho34 (And.intro ho4 (And.intro hne2 hF04)))
          clear ho3 hn3 hcm3 hF03 ho2b ho1b ho4 hn4 hF04 ho2c hf4 hkn hne hcm4 hne1 hne2 ho34 HM HM2 HN y2 y3
          refine hc.mono ?_
          rintro e w5 ⟨rfl, h5, hF5⟩
          clear hc
          go_wp2_with fail
          go_roundg (K - (j + 1) + 1)
          case measure => omega
          case rel =>
            obtain ⟨ho34, ho4, hne2, hF04⟩ := HE.out
            refine ⟨j + 1, t + 1, by omega, rfl, by simp, Lib.hid (by have := ht.out; omega), ?_, ?_, ?_, hne2, kt_trans hF04 hF5, by have h1 := own_lt' ho34 (k := g1) rfl; have h2 := hF5.size; omega⟩
            · rw [optO_snoc, ← hPe.out, ← List.append_assoc, hP.out]
              simpa using h5
            · rw [ops_snoc, ← hPe.out]
              have := own_kt46 ho34 hF5
              rw [hn0.out] at this
              simpa [u64s] using this
            · rw [ops_snoc, ← hPe.out]
              have := own_kt46 ho4 hF5
              rw [hn1.out, hpl1] at this
              simpa [u64s] using this
        · obtain rfl : j = K := by omega
          have e1 : ¬ ((t : Int) < (mx : Int)) := by omega
          obtain ⟨A1, c1', hsl⟩ := hcm.slc
          obtain ⟨en, hen⟩ : ∃ n, Hid (n = (Q ++ optO (code r) j Q.length).length) := ⟨_, Lib.hid rfl⟩
          rw [← hen.out] at hsl
          have henl : en ≤ 300000 := by rw [hen.out, List.length_append]; omega
          have ew2 : IntKind.u64.wrap (en : Int) = (en : Int) := IntWalk.u64_in _ (by omega)
          obtain ⟨js, hjs⟩ : ∃ js, Hid (js = ops (code r) j Q.length) := ⟨_, Lib.hid rfl⟩
          rw [← hjs.out] at ho1 ho2
          have hjl : js.length = j := by rw [hjs.out, ops_len]
          obtain ⟨sA, sc', rfl⟩ := own_sl' ho1
          obtain ⟨tA, tc', rfl⟩ := own_sl' ho2
          clear hb hsb hsc hkn hcl hne hOK ht' hKe
          go_wp2_with fail
          clear hsl y8
          go_loopg [51] (j + 1) (fun g i wr3 => ∃ q : Nat, q ≤ j ∧ g = j - q + 1 ∧ i = .int .i64 (q : Int) ∧ Cp wr3 B cb (setSs (Q ++ optO (code r) j Q.length) (js.take q) en) ∧ Fr (KT w B) w wr3 ∧ wr3.ownsRow W0 46 1 (.slice sA j sc') j (u64s js) ∧ wr3.ownsRow W0 46 1 (.slice tA j tc') j (u64s (js.map (· + 1))))
          case atStart => exact ⟨0, by omega, by omega, rfl, by simpa [setSs] using hcm, hF, ho1, ho2⟩
          case round =>
            clear hcm hF ho1 ho2
            obtain ⟨q, hq, rfl, rfl, hcm, hF, ho1, ho2⟩ := hrel
            by_cases hqj : q < j
            · have e2 : (q : Int) < (j : Int) := by omega
              obtain ⟨z, hz⟩ : ∃ z, js[q]? = some z := ⟨_, List.getElem?_eq_getElem (by omega)⟩
              obtain ⟨g5, c5, he5, -, -, hr1, -⟩ := own_cell ho1 (j := q) (u := .int .u64 (z : Int)) (by simp [u64s, hz])
              simp at he5
              obtain ⟨rfl, rfl⟩ := he5
              obtain ⟨g6, c6, he6, -, -, hr2, -⟩ := own_cell ho2 (j := q) (u := .int .u64 ((z + 1 : Nat) : Int)) (by simp [u64s, hz])
              simp at he6
              obtain ⟨rfl, rfl⟩ := he6
              obtain ⟨z2, hz2⟩ : ∃ z2, Hid (z2 = z + 1) := ⟨_, Lib.hid rfl⟩
              rw [← hz2.out] at hr2
              obtain ⟨a0, a1, ha0⟩ : ∃ a0 a1, (setSs (Q ++ optO (code r) j Q.length) (js.take q) en)[z]? = some (.split a0 a1) := by
                refine setSs_split (a := 0) (a' := 0) ?_
                exact ops_split Q (code r) j z (by rw [← hjs.out]; exact List.mem_of_getElem? hz)
              have hsj := cp_setsplit (hcm.drop ((Fr.refl (fun _ => False) wr).drew)) ha0 z2 en
              have r1 : wr.drew.cell? ⟨g5, q, none⟩ = some (.int .u64 (z : Int)) := hr1
              have r2 : wr.drew.cell? ⟨g6, q, none⟩ = some (.int .u64 (z2 : Int)) := hr2
              have HF3 := Lib.hid (And.intro hF (And.intro ho1 (And.intro ho2 hz)))
              have ewq : IntKind.i64.wrap (q : Int) = (q : Int) := IntWalk.i64_in _ (by omega)
              have ewq0 : (0 : Int) ≤ (q : Int) := by omega
              clear hcm hF ho1 ho2 hz ha0 hr1 hr2
              go_wp2_with fail
              refine wp_region_seqV (fun w' => w'.cell? ⟨g5, q, none⟩ = some (.int .u64 (z : Int)) ∧ w'.cell? ⟨g6, q, none⟩ = some (.int .u64 (z2 : Int))) (fun i => decide (i ≠ 10)) (fun i => ![4, 8].contains i && decide (i ≠ 10)) (fun i => false) [0, 1, 2, 3, 4, 5, 6, 7, 8, 9, 10] (by kernel_rfl) (by kernel_rfl) (fun c a d v w h => by cases d <;> exact h) ⟨r1, r2⟩ ?_
              iterate 4 (apply seqV_pure (ho := rfl) (hr := rfl) (hg := rfl); (intro w'; go_simp; rfl))
              (apply seqV_read (ho := rfl) (hr := rfl) (hp := rfl) (hg := rfl); (rintro w' ⟨q1, q2⟩; go_simp; rfl))
              iterate 3 (apply seqV_pure (ho := rfl) (hr := rfl) (hg := rfl); (intro w'; go_simp; rfl))
              (apply seqV_read (ho := rfl) (hr := rfl) (hp := rfl) (hg := rfl); (rintro w' ⟨q1, q2⟩; go_simp; rfl))
              iterate 1 (apply seqV_pure (ho := rfl) (hr := rfl) (hg := rfl); (intro w'; go_simp; rfl))
              refine seqV_do rfl rfl fun K hK => ?_
              go_simp
              refine hsj.mono ?_
              rintro e w4 ⟨rfl, hcm4, hF4⟩
              clear hsj
              obtain ⟨hF, ho1, ho2, hz⟩ := HF3.out
              have hFd := kt_trans (kt_drop (B := B) ((Fr.refl (fun _ => False) wr).drew)) hF4
              have ho1' := own_kt46 ho1 hFd
              have ho2' := own_kt46 ho2 hFd
              obtain ⟨g7, c7, he7, -, -, hr7, -⟩ := own_cell ho1' (j := q) (u := .int .u64 (z : Int)) (by simp [u64s, hz])
              simp at he7
              obtain ⟨rfl, rfl⟩ := he7
              obtain ⟨g8, c8, he8, -, -, hr8, -⟩ := own_cell ho2' (j := q) (u := .int .u64 (z2 : Int)) (by rw [hz2.out]; simp [u64s, hz])
              simp at he8
              obtain ⟨rfl, rfl⟩ := he8
              refine hK _ _ (fun _ => ⟨hr7, hr8⟩) ?_
              clear hK K
              unfold seqV
              have HF4 := Lib.hid (And.intro (kt_trans hF hFd) (And.intro ho1' (And.intro ho2' (And.intro hcm4 hz))))
              clear hF ho1 ho2 hz hFd ho1' ho2' hr7 hr8 r1 r2 hcm4 hF4
              go_wp2_with fail
              go_roundg (j - (q + 1) + 1)
              case measure => omega
              case rel =>
                obtain ⟨hF, ho1, ho2, hcm4, hz⟩ := HF4.out
                refine ⟨q + 1, by omega, rfl, by simp, ?_, hF, ho1, ho2⟩
                rw [take_snoc_getElem? hz, setSs_snoc, ← hz2.out]
                exact hcm4
            · obtain rfl : q = j := by omega
              have e2 : ¬ ((q : Int) < (q : Int)) := by omega
              rw [List.take_of_length_le (by omega), hjs.out, hen.out, setSs_opt] at hcm
              have hfin : Cp wr B cb (p ++ code (.rep k (some mx) r) p.length) := by
                simp only [code]
                rw [← hKe'.out.1, ← List.append_assoc, hQ.out, ← List.length_append, hQ.out]
                rw [List.length_append, optO_len (code r) 0] at hcm
                exact hcm
              have hsize := size_ok hfin (by rw [List.length_append, clen_eq]; omega)
              have HF3 := Lib.hid hF
              clear hcm hF hfin ho1 ho2
              go_wp2_with fail
              refine hsize.mono ?_
              rintro e w6 ⟨rfl, h6, hF6⟩
              go_wp2_with fail
              go_ret
              exact ⟨rfl, h6, kt_trans HF3.out hF6⟩
end Go.Proofs.YtjeklnbfpehbeaaDoor
