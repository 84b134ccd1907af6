/- The law's own function, walked: it answers true at whatever arguments. Condition: the first argument reads as a value of its type, the errors are laid. -/
import Derived.Test.YtjeklnbfpehbeaaDoorM23
import Derived.Test.YtjeklnbfpehbeaaDoorM15
set_option linter.unusedVariables false
/- The law's own function, walked: it answers true at whatever arguments. Condition: the first argument reads as a value of its type, the errors are laid. -/
namespace Go.Proofs.YtjeklnbfpehbeaaDoor
open Go.RowKit

theorem extract_take (s : ByteArray) (k : Nat) : bytesOf (s.extract 0 k) = (bytesOf s).take k := by rw [bytes_ext, List.drop_zero]

set_option maxRecDepth 100000 in
set_option maxHeartbeats 8000000 in
theorem law_calls {w : World} {a : Nat → Addr} {v : Value} (t : ByteArray) (hraw : RawE w 4 v) (hS : Sent w a) (hnil : Nils w) (h9 : 9 < w.heap.size) : Calls Tryd.prog 3 #[v, .string t] w fun e w' => e = .returned (.bool true) ∧ Fr (fun _ => False) w w' := by
  obtain ⟨x, mn, mx, la, fo, rA, A, rn, rc, n, c, hve⟩ := hraw.form
  subst hve
  have hF1 : Fr (fun _ => False) w (w.alloc (.cells #[.int .i64 x, .slice rA rn rc, .int .i64 mn, .int .i64 mx, .bool la, .bool fo, .slice A n c] 25)) := (Fr.refl _ w).alloc _
  have hB0 : Blk (w.alloc (.cells #[.int .i64 x, .slice rA rn rc, .int .i64 mn, .int .i64 mx, .bool la, .bool fo, .slice A n c] 25)) w.heap.size [.int .i64 x, .slice rA rn rc, .int .i64 mn, .int .i64 mx, .bool la, .bool fo, .slice A n c] 25 := Blk.new w [_, _, _, _, _, _, _] 25
  have y0 := hB0.cell 0 rfl
  have y1 := hB0.cell 1 rfl
  have y2 := hB0.cell 2 rfl
  have y3 := hB0.cell 3 rfl
  have y4 := hB0.cell 4 rfl
  have y5 := hB0.cell 5 rfl
  have y6 := hB0.cell 6 rfl
  have HI := Lib.hid (And.intro hF1 (And.intro hB0 (And.intro hraw (And.intro hS hnil))))
  clear hF1 hB0 hraw hS hnil
  by_cases hfit : rn ≤ 2147483647 ∧ n ≤ 2147483647
  · have hc := fun W => fits_calls W x mn mx la fo rA A rn rc n c hfit.1 hfit.2
    go_enter Tryd.func3, Tryd.ntmps3
    go_wp2_with fail
    refine (hc _).mono ?_
    rintro e w2 ⟨rfl, hf2⟩
    clear hc y0 y1 y2 y3 y4 y5 y6
    by_cases hlen : t.size ≤ 2147483647
    · have e1 : ¬ ((2147483647 : Int) < (t.size : Int)) := by omega
      have hB2 := HI.out.2.1.fr hf2 (fun h => h)
      have y0 := hB2.cell 0 rfl
      have y1 := hB2.cell 1 rfl
      have y2 := hB2.cell 2 rfl
      have y3 := hB2.cell 3 rfl
      have y4 := hB2.cell 4 rfl
      have y5 := hB2.cell 5 rfl
      have y6 := hB2.cell 6 rfl
      have hF2 := HI.out.1.trans hf2 (fun _ _ h => h)
      have HJ := Lib.hid (And.intro hF2 hB2)
      clear hF2 hB2 hf2
      by_cases hwide : rn ≤ 65536 ∧ n ≤ 65536
      · have hc2 := wide_calls w2 x mn mx la fo rA A rn rc n c hwide.1 hwide.2
        go_wp2_with fail
        refine hc2.mono ?_
        rintro e w3 ⟨rfl, hf3⟩
        clear hc2 y0 y1 y2 y3 y4 y5 y6
        have hB3 := HJ.out.2.fr hf3 (fun h => h)
        have y0 := hB3.cell 0 rfl
        have y1 := hB3.cell 1 rfl
        have y2 := hB3.cell 2 rfl
        have y3 := hB3.cell 3 rfl
        have y4 := hB3.cell 4 rfl
        have y5 := hB3.cell 5 rfl
        have y6 := hB3.cell 6 rfl
        have hF3 := HJ.out.1.trans hf3 (fun _ _ h => h)
        have hc3 : Calls Tryd.prog 6 #[.agg #[.int .i64 x, .slice rA rn rc, .int .i64 mn, .int .i64 mx, .bool la, .bool fo, .slice A n c], .int .i64 5] w3 (ExprPost w3 4) := expr_calls 4 (by decide) w3 _ (HI.out.2.2.1.fr hF3)
        have HK := Lib.hid hF3
        clear hF3 hB3 hf3
        go_wp2_with fail
        refine hc3.mono ?_
        rintro e w4 ⟨r, v', rfl, hre, hsh, hwf, hf4⟩
        clear hc3 y0 y1 y2 y3 y4 y5 y6
        have hre := re_unmask hre
        obtain ⟨uA, un, uc, um, uM, vA, vn, vc, hve⟩ := hre.form
        subst hve
        have hc4 := few2_calls w4 t hlen
        have HE := Lib.hid (And.intro hre (And.intro hsh (And.intro hwf (HK.out.trans hf4 (fun _ _ h => h)))))
        clear hre hsh hwf hf4
        go_wp2_with fail
        refine hc4.mono ?_
        rintro e w5 ⟨s, hs40, rfl, rfl⟩
        clear hc4
        go_wp2_with fail
        have hF5 : Fr (fun _ => False) w (w4.alloc (.cells #[.int .i64 (opOf r : Int), .slice uA un uc, .int .i64 um, .int .i64 uM, .bool false, .bool false, .slice vA vn vc] 25)) := HE.out.2.2.2.alloc _
        have hB5 : Blk (w4.alloc (.cells #[.int .i64 (opOf r : Int), .slice uA un uc, .int .i64 um, .int .i64 uM, .bool false, .bool false, .slice vA vn vc] 25)) w4.heap.size [.int .i64 (opOf r : Int), .slice uA un uc, .int .i64 um, .int .i64 uM, .bool false, .bool false, .slice vA vn vc] 25 := Blk.new w4 [_, _, _, _, _, _, _] 25
        have hre5 := HE.out.1.fr ((Fr.refl (fun _ => False) w4).alloc (.cells #[.int .i64 (opOf r : Int), .slice uA un uc, .int .i64 um, .int .i64 uM, .bool false, .bool false, .slice vA vn vc] 25)) (fun _ _ _ _ _ h => h)
        generalize w4.alloc (.cells #[.int .i64 (opOf r : Int), .slice uA un uc, .int .i64 um, .int .i64 uM, .bool false, .bool false, .slice vA vn vc] 25) = W5 at *
        obtain ⟨b5, hb5⟩ : ∃ b, b = w4.heap.size := ⟨_, rfl⟩
        rw [← hb5] at hB5 ⊢
        clear hb5
        have hHE := Lib.hid (And.intro HE.out.2.2.1 HE.out.2.1)
        clear HE
        have hpl : plc r ≤ 1000000000000 := by
          have := plc_le r 4 hHE.out.2
          omega
        have hc5 := modest_calls hre5 hHE.out.1 hpl
        have HJ5 := Lib.hid (And.intro hF5 (And.intro hB5 hre5))
        clear hF5 hB5 hre5
        refine hc5.mono ?_
        rintro e w6 ⟨rfl, hf6⟩
        clear hc5
        have hF6 := HJ5.out.1.trans hf6 (fun _ _ h => h)
        have hB6 := HJ5.out.2.1.fr hf6 (fun h => h)
        have hre6 := HJ5.out.2.2.fr hf6 (fun _ _ _ _ _ h => h)
        clear hf6
        by_cases h160 : plc r ≤ 160
        · rw [decide_eq_true h160]
          have y0 := hB6.cell 0 rfl
          have y1 := hB6.cell 1 rfl
          have y2 := hB6.cell 2 rfl
          have y3 := hB6.cell 3 rfl
          have y4 := hB6.cell 4 rfl
          have y5 := hB6.cell 5 rfl
          have y6 := hB6.cell 6 rfl
          have hcl : clen r ≤ 190000 := by
            have h1 := clen_le r hHE.out.1 4 hHE.out.2
            have h2 : bnd 4 = 780 := rfl
            omega
          have hc6 := rp_calls (t := s) hre6 hHE.out.1 (wide_of r 4 hHE.out.2) (HI.out.2.2.2.2.fr hF6 (fun h => h) (fun h => h)) (by have := hF6.size; omega) hcl (HI.out.2.2.2.1.below h9 hF6) (prog_wf hHE.out.1 hcl) (prog_start hHE.out.1) (by omega)
          have HJ6 := Lib.hid (And.intro hF6 (And.intro hB6 (And.intro hre6 h160)))
          clear hF6 hB6 hre6 h160 hcl
          go_wp2_with fail
          refine hc6.mono ?_
          rintro e w7 ⟨hcase, hf7⟩
          clear hc6 y0 y1 y2 y3 y4 y5 y6
          have hF7 := HJ6.out.1.trans hf7 (fun _ _ h => h)
          have hB7 := HJ6.out.2.1.fr hf7 (fun h => h)
          have hre7 := HJ6.out.2.2.1.fr hf7 (fun _ _ _ _ _ h => h)
          clear hf7
          rcases hcase with ⟨v1, v2, v3, Sx, w0, hD, rfl, hw0, hpw⟩ | ⟨rfl, hcap⟩
          · obtain ⟨g1, d1, rfl⟩ := own_slc hpw.a1
            obtain ⟨g2, d2, rfl⟩ := own_slc hpw.a2
            obtain ⟨g3, d3, rfl⟩ := own_slc hpw.a3
            have HP := Lib.hid (And.intro hpw (And.intro hD (And.intro hF7 (And.intro hB7 hre7))))
            clear hpw hD hF7 hB7 hre7
            go_wp2_with fail
            go_loopg [11] (s.size + 2) (fun g i wr => ∃ k : Nat, k ≤ s.size + 1 ∧ g = s.size + 1 - k + 1 ∧ i = .int .i64 (k : Int) ∧ Fr (fun _ => False) w7 wr)
            case atStart => exact ⟨0, by omega, by omega, rfl, Fr.refl _ w7⟩
            case round =>
              obtain ⟨k, hk, rfl, rfl, hF⟩ := hrel
              by_cases hlt : k ≤ s.size
              · have e2 : (k : Int) ≤ (s.size : Int) := by omega
                have eb : (k : Int) < (s.size : Int) + 1 := by omega
                have eb0 : (0 : Int) ≤ (k : Int) := by omega
                have ewk : IntKind.i64.wrap (k : Int) = (k : Int) := IntWalk.i64_in _ (by omega)
                obtain ⟨m, hm⟩ : ∃ m, Hid (m = mOf Sx (stAt Sx (bytesOf s) k)) := ⟨_, Lib.hid rfl⟩
                obtain ⟨cc, hcq⟩ : ∃ c, Hid (c = decide (1 ≤ stAt Sx (bytesOf s) k)) := ⟨_, Lib.hid rfl⟩
                have hbl : (bytesOf s).length = s.size := bytes_len s
                have hmz : Hid (∀ z : Bool, (z = true ↔ Lang r (bytesOf (s.extract 0 k))) → z = m) := Lib.hid (fun z hz => by
                  rw [extract_take, ← m_iff hHE.out.1 HP.out.2.1 (bytesOf s) (bytes_lt s) (by omega), ← hm.out] at hz
                  exact Bool.eq_iff_iff.2 hz)
                have hcz : Hid (∀ z : Bool, (z = true ↔ ∃ v, Lang r (bytesOf (s.extract 0 k) ++ v)) → z = cc) := Lib.hid (fun z hz => by
                  rw [extract_take, ← c_iff hHE.out.1 HP.out.2.1 (bytesOf s) (bytes_lt s) (by omega)] at hz
                  rw [hcq.out]
                  exact Bool.eq_iff_iff.2 (by rw [hz, decide_eq_true_eq]))
                have q1 : wr.drew.cell? ⟨g1, k, none⟩ = some (.bool m) := hF.drew.cell (by
                  obtain ⟨g, c', e, -, -, h, -⟩ := own_cell HP.out.1.a1 (j := k) (u := .bool m) (by rw [hm.out]; simp only [bools, msOf, List.getElem?_map]; rw [List.getElem?_range (by omega)]; rfl)
                  simp at e
                  obtain ⟨rfl, rfl⟩ := e
                  exact h) (fun h => h)
                have q2 : wr.drew.cell? ⟨g2, k, none⟩ = some (.bool cc) := hF.drew.cell (by
                  obtain ⟨g, c', e, -, -, h, -⟩ := own_cell HP.out.1.a2 (j := k) (u := .bool cc) (by rw [hcq.out]; simp only [bools, csOf, List.getElem?_map]; rw [List.getElem?_range (by omega)]; rfl)
                  simp at e
                  obtain ⟨rfl, rfl⟩ := e
                  exact h) (fun h => h)
                have q3 : wr.drew.cell? ⟨g3, k, none⟩ = some (.bool false) := hF.drew.cell (by
                  obtain ⟨g, c', e, -, -, h, -⟩ := own_cell HP.out.1.a3 (j := k) (u := .bool false) (by simp only [bools, List.getElem?_map]; rw [List.getElem?_replicate, if_pos (by omega)]; rfl)
                  simp at e
                  obtain ⟨rfl, rfl⟩ := e
                  exact h) (fun h => h)
                have hBr := HP.out.2.2.2.1.fr hF.drew (fun h => h)
                have hreR := Lib.hid (HP.out.2.2.2.2.fr hF.drew (fun _ _ _ _ _ h => h))
                have hmc := matches_calls (t := s.extract 0 k) hHE.out.1 hreR.out (by rw [ByteArray.size_extract]; omega)
                have hFd := Lib.hid hF.drew
                clear hF hm hcq
                go_wp2_with fail
                cases m with
                | false =>
                  cases cc with
                  | false =>
                    refine wp_region_seqV (fun w' => w'.cell? ⟨g1, k, none⟩ = some (.bool false) ∧ w'.cell? ⟨g2, k, none⟩ = some (.bool false) ∧ w'.cell? ⟨g3, k, none⟩ = some (.bool false) ∧ Blk w' b5 [.int .i64 (opOf r : Int), .slice uA un uc, .int .i64 um, .int .i64 uM, .bool false, .bool false, .slice vA vn vc] 25) (fun i => ![8, 19].contains i) (fun i => ![3, 4, 14, 15, 26, 8, 19].contains i) (fun i => false) [0, 1, 2, 3, 4, 5, 6, 7, 8, 9, 10, 11, 12, 13, 14, 15, 16, 17, 18, 19, 20, 21, 22, 23, 24, 25, 26, 27] (by kernel_rfl) (by kernel_rfl) (fun c a d v w h => by cases d <;> exact h) ⟨q1, q2, q3, hBr⟩ ?_
                    iterate 3 (apply seqV_pure (ho := rfl) (hr := rfl) (hg := rfl); (intro w'; go_simp; rfl))
                    iterate 1 (apply seqV_read (ho := rfl) (hr := rfl) (hp := rfl) (hg := rfl); (rintro w' ⟨q1, q2, q3, q4⟩; clear q2 q3 q4; go_simp; rfl))
                    iterate 1 (apply seqV_read (ho := rfl) (hr := rfl) (hp := rfl) (hg := rfl); (rintro w' ⟨q1, q2, q3, q4⟩; have r0 := q4.cell 0 rfl; have r1 := q4.cell 1 rfl; have r2 := q4.cell 2 rfl; have r3 := q4.cell 3 rfl; have r4 := q4.cell 4 rfl; have r5 := q4.cell 5 rfl; have r6 := q4.cell 6 rfl; clear q1 q2 q3 q4; go_simp; rfl))
                    iterate 3 (apply seqV_pure (ho := rfl) (hr := rfl) (hg := rfl); (intro w'; go_simp; rfl))
                    go_simp
                    refine seqV_do rfl rfl fun K hK => ?_
                    go_simp
                    refine hmc.mono ?_
                    rintro e w7 ⟨z, rfl, hz, hf7⟩
                    obtain rfl : z = false := hmz.out z hz
                    have p1 := hf7.cell q1 (fun h => h)
                    have p2 := hf7.cell q2 (fun h => h)
                    have p3 := hf7.cell q3 (fun h => h)
                    have pB := hBr.fr hf7 (fun h => h)
                    refine hK _ _ (fun _ => ⟨p1, p2, p3, pB⟩) ?_
                    clear hK K
                    go_simp
                    iterate 2 (apply seqV_pure (ho := rfl) (hr := rfl) (hg := rfl); (intro w'; go_simp; rfl))
                    go_simp
                    iterate 3 (apply seqV_pureG (ho := rfl) (hr := rfl) (hw := by kernel_rfl); (intro w'; go_simp; rfl))
                    iterate 1 (apply seqV_readG (ho := rfl) (hr := rfl) (hp := rfl) (hw := by kernel_rfl); (rintro w' ⟨q1, q2, q3, q4⟩; clear q1 q3 q4; go_simp; rfl))
                    iterate 1 (apply seqV_readG (ho := rfl) (hr := rfl) (hp := rfl) (hw := by kernel_rfl); (rintro w' ⟨q1, q2, q3, q4⟩; have r0 := q4.cell 0 rfl; have r1 := q4.cell 1 rfl; have r2 := q4.cell 2 rfl; have r3 := q4.cell 3 rfl; have r4 := q4.cell 4 rfl; have r5 := q4.cell 5 rfl; have r6 := q4.cell 6 rfl; clear q1 q2 q3 q4; go_simp; rfl))
                    go_simp
                    iterate 3 (apply seqV_pureG (ho := rfl) (hr := rfl) (hw := by kernel_rfl); (intro w'; go_simp; rfl))
                    go_simp
                    have hcc := can_calls (t := s.extract 0 k) hHE.out.1 ((hreR.out.fr hf7 (fun _ _ _ _ _ h => h))) (by rw [ByteArray.size_extract]; omega)
                    refine seqV_do rfl rfl fun K hK => ?_
                    go_simp
                    refine hcc.mono ?_
                    rintro e w8 ⟨z, rfl, hz2, hf8⟩
                    obtain rfl : z = false := hcz.out z hz2
                    refine hK _ _ (fun _ => ⟨hf8.cell p1 (fun h => h), hf8.cell p2 (fun h => h), hf8.cell p3 (fun h => h), pB.fr hf8 (fun h => h)⟩) ?_
                    clear hK K
                    go_simp
                    iterate 1 (apply seqV_pureG (ho := rfl) (hr := rfl) (hw := by kernel_rfl); (intro w'; go_simp; rfl))
                    iterate 2 (apply seqV_pure (ho := rfl) (hr := rfl) (hg := rfl); (intro w'; go_simp; rfl))
                    go_simp
                    iterate 3 (apply seqV_pureG (ho := rfl) (hr := rfl) (hw := by kernel_rfl); (intro w'; go_simp; rfl))
                    iterate 1 (apply seqV_readG (ho := rfl) (hr := rfl) (hp := rfl) (hw := by kernel_rfl); (rintro w' ⟨q1, q2, q3, q4⟩; clear q1 q2 q4; go_simp; rfl))
                    go_simp
                    iterate 1 (apply seqV_pure (ho := rfl) (hr := rfl) (hg := rfl); (intro w'; go_simp; rfl))
                    go_simp
                    unfold seqV
                    have HR := Lib.hid ((hFd.out.trans hf7 (fun _ _ h => h)).trans hf8 (fun _ _ h => h))
                    clear hmc hcc hf7 hf8 p1 p2 p3 pB q1 q2 q3 hBr hz hz2
                    go_wp2_with fail
                    go_roundg (s.size + 1 - (k + 1) + 1)
                    case measure => omega
                    case rel => exact ⟨k + 1, by omega, rfl, by simp, HR.out⟩
                  | true =>
                    refine wp_region_seqV (fun w' => w'.cell? ⟨g1, k, none⟩ = some (.bool false) ∧ w'.cell? ⟨g2, k, none⟩ = some (.bool true) ∧ w'.cell? ⟨g3, k, none⟩ = some (.bool false) ∧ Blk w' b5 [.int .i64 (opOf r : Int), .slice uA un uc, .int .i64 um, .int .i64 uM, .bool false, .bool false, .slice vA vn vc] 25) (fun i => ![8, 19].contains i) (fun i => ![3, 4, 14, 15, 26, 8, 19].contains i) (fun i => false) [0, 1, 2, 3, 4, 5, 6, 7, 8, 9, 10, 11, 12, 13, 14, 15, 16, 17, 18, 19, 20, 21, 22, 23, 24, 25, 26, 27] (by kernel_rfl) (by kernel_rfl) (fun c a d v w h => by cases d <;> exact h) ⟨q1, q2, q3, hBr⟩ ?_
                    iterate 3 (apply seqV_pure (ho := rfl) (hr := rfl) (hg := rfl); (intro w'; go_simp; rfl))
                    iterate 1 (apply seqV_read (ho := rfl) (hr := rfl) (hp := rfl) (hg := rfl); (rintro w' ⟨q1, q2, q3, q4⟩; clear q2 q3 q4; go_simp; rfl))
                    iterate 1 (apply seqV_read (ho := rfl) (hr := rfl) (hp := rfl) (hg := rfl); (rintro w' ⟨q1, q2, q3, q4⟩; have r0 := q4.cell 0 rfl; have r1 := q4.cell 1 rfl; have r2 := q4.cell 2 rfl; have r3 := q4.cell 3 rfl; have r4 := q4.cell 4 rfl; have r5 := q4.cell 5 rfl; have r6 := q4.cell 6 rfl; clear q1 q2 q3 q4; go_simp; rfl))
                    iterate 3 (apply seqV_pure (ho := rfl) (hr := rfl) (hg := rfl); (intro w'; go_simp; rfl))
                    go_simp
                    refine seqV_do rfl rfl fun K hK => ?_
                    go_simp
                    refine hmc.mono ?_
                    rintro e w7 ⟨z, rfl, hz, hf7⟩
                    obtain rfl : z = false := hmz.out z hz
                    have p1 := hf7.cell q1 (fun h => h)
                    have p2 := hf7.cell q2 (fun h => h)
                    have p3 := hf7.cell q3 (fun h => h)
                    have pB := hBr.fr hf7 (fun h => h)
                    refine hK _ _ (fun _ => ⟨p1, p2, p3, pB⟩) ?_
                    clear hK K
                    go_simp
                    iterate 2 (apply seqV_pure (ho := rfl) (hr := rfl) (hg := rfl); (intro w'; go_simp; rfl))
                    go_simp
                    iterate 3 (apply seqV_pureG (ho := rfl) (hr := rfl) (hw := by kernel_rfl); (intro w'; go_simp; rfl))
                    iterate 1 (apply seqV_readG (ho := rfl) (hr := rfl) (hp := rfl) (hw := by kernel_rfl); (rintro w' ⟨q1, q2, q3, q4⟩; clear q1 q3 q4; go_simp; rfl))
                    iterate 1 (apply seqV_readG (ho := rfl) (hr := rfl) (hp := rfl) (hw := by kernel_rfl); (rintro w' ⟨q1, q2, q3, q4⟩; have r0 := q4.cell 0 rfl; have r1 := q4.cell 1 rfl; have r2 := q4.cell 2 rfl; have r3 := q4.cell 3 rfl; have r4 := q4.cell 4 rfl; have r5 := q4.cell 5 rfl; have r6 := q4.cell 6 rfl; clear q1 q2 q3 q4; go_simp; rfl))
                    go_simp
                    iterate 3 (apply seqV_pureG (ho := rfl) (hr := rfl) (hw := by kernel_rfl); (intro w'; go_simp; rfl))
                    go_simp
                    have hcc := can_calls (t := s.extract 0 k) hHE.out.1 ((hreR.out.fr hf7 (fun _ _ _ _ _ h => h))) (by rw [ByteArray.size_extract]; omega)
                    refine seqV_do rfl rfl fun K hK => ?_
                    go_simp
                    refine hcc.mono ?_
                    rintro e w8 ⟨z, rfl, hz2, hf8⟩
                    obtain rfl : z = true := hcz.out z hz2
                    refine hK _ _ (fun _ => ⟨hf8.cell p1 (fun h => h), hf8.cell p2 (fun h => h), hf8.cell p3 (fun h => h), pB.fr hf8 (fun h => h)⟩) ?_
                    clear hK K
                    go_simp
                    iterate 1 (apply seqV_pureG (ho := rfl) (hr := rfl) (hw := by kernel_rfl); (intro w'; go_simp; rfl))
                    iterate 2 (apply seqV_pure (ho := rfl) (hr := rfl) (hg := rfl); (intro w'; go_simp; rfl))
                    go_simp
                    iterate 3 (apply seqV_pureG (ho := rfl) (hr := rfl) (hw := by kernel_rfl); (intro w'; go_simp; rfl))
                    iterate 1 (apply seqV_readG (ho := rfl) (hr := rfl) (hp := rfl) (hw := by kernel_rfl); (rintro w' ⟨q1, q2, q3, q4⟩; clear q1 q2 q4; go_simp; rfl))
                    go_simp
                    iterate 1 (apply seqV_pure (ho := rfl) (hr := rfl) (hg := rfl); (intro w'; go_simp; rfl))
                    go_simp
                    unfold seqV
                    have HR := Lib.hid ((hFd.out.trans hf7 (fun _ _ h => h)).trans hf8 (fun _ _ h => h))
                    clear hmc hcc hf7 hf8 p1 p2 p3 pB q1 q2 q3 hBr hz hz2
                    go_wp2_with fail
                    go_roundg (s.size + 1 - (k + 1) + 1)
                    case measure => omega
                    case rel => exact ⟨k + 1, by omega, rfl, by simp, HR.out⟩
                | true =>
                  cases cc with
                  | false =>
                    refine wp_region_seqV (fun w' => w'.cell? ⟨g1, k, none⟩ = some (.bool true) ∧ w'.cell? ⟨g2, k, none⟩ = some (.bool false) ∧ w'.cell? ⟨g3, k, none⟩ = some (.bool false) ∧ Blk w' b5 [.int .i64 (opOf r : Int), .slice uA un uc, .int .i64 um, .int .i64 uM, .bool false, .bool false, .slice vA vn vc] 25) (fun i => ![8, 19].contains i) (fun i => ![3, 4, 14, 15, 26, 8, 19].contains i) (fun i => false) [0, 1, 2, 3, 4, 5, 6, 7, 8, 9, 10, 11, 12, 13, 14, 15, 16, 17, 18, 19, 20, 21, 22, 23, 24, 25, 26, 27] (by kernel_rfl) (by kernel_rfl) (fun c a d v w h => by cases d <;> exact h) ⟨q1, q2, q3, hBr⟩ ?_
                    iterate 3 (apply seqV_pure (ho := rfl) (hr := rfl) (hg := rfl); (intro w'; go_simp; rfl))
                    iterate 1 (apply seqV_read (ho := rfl) (hr := rfl) (hp := rfl) (hg := rfl); (rintro w' ⟨q1, q2, q3, q4⟩; clear q2 q3 q4; go_simp; rfl))
                    iterate 1 (apply seqV_read (ho := rfl) (hr := rfl) (hp := rfl) (hg := rfl); (rintro w' ⟨q1, q2, q3, q4⟩; have r0 := q4.cell 0 rfl; have r1 := q4.cell 1 rfl; have r2 := q4.cell 2 rfl; have r3 := q4.cell 3 rfl; have r4 := q4.cell 4 rfl; have r5 := q4.cell 5 rfl; have r6 := q4.cell 6 rfl; clear q1 q2 q3 q4; go_simp; rfl))
                    iterate 3 (apply seqV_pure (ho := rfl) (hr := rfl) (hg := rfl); (intro w'; go_simp; rfl))
                    go_simp
                    refine seqV_do rfl rfl fun K hK => ?_
                    go_simp
                    refine hmc.mono ?_
                    rintro e w7 ⟨z, rfl, hz, hf7⟩
                    obtain rfl : z = true := hmz.out z hz
                    have p1 := hf7.cell q1 (fun h => h)
                    have p2 := hf7.cell q2 (fun h => h)
                    have p3 := hf7.cell q3 (fun h => h)
                    have pB := hBr.fr hf7 (fun h => h)
                    refine hK _ _ (fun _ => ⟨p1, p2, p3, pB⟩) ?_
                    clear hK K
                    go_simp
                    iterate 2 (apply seqV_pure (ho := rfl) (hr := rfl) (hg := rfl); (intro w'; go_simp; rfl))
                    go_simp
                    iterate 3 (apply seqV_pureG (ho := rfl) (hr := rfl) (hw := by kernel_rfl); (intro w'; go_simp; rfl))
                    iterate 1 (apply seqV_readG (ho := rfl) (hr := rfl) (hp := rfl) (hw := by kernel_rfl); (rintro w' ⟨q1, q2, q3, q4⟩; clear q1 q3 q4; go_simp; rfl))
                    iterate 1 (apply seqV_readG (ho := rfl) (hr := rfl) (hp := rfl) (hw := by kernel_rfl); (rintro w' ⟨q1, q2, q3, q4⟩; have r0 := q4.cell 0 rfl; have r1 := q4.cell 1 rfl; have r2 := q4.cell 2 rfl; have r3 := q4.cell 3 rfl; have r4 := q4.cell 4 rfl; have r5 := q4.cell 5 rfl; have r6 := q4.cell 6 rfl; clear q1 q2 q3 q4; go_simp; rfl))
                    go_simp
                    iterate 3 (apply seqV_pureG (ho := rfl) (hr := rfl) (hw := by kernel_rfl); (intro w'; go_simp; rfl))
                    go_simp
                    have hcc := can_calls (t := s.extract 0 k) hHE.out.1 ((hreR.out.fr hf7 (fun _ _ _ _ _ h => h))) (by rw [ByteArray.size_extract]; omega)
                    refine seqV_do rfl rfl fun K hK => ?_
                    go_simp
                    refine hcc.mono ?_
                    rintro e w8 ⟨z, rfl, hz2, hf8⟩
                    obtain rfl : z = false := hcz.out z hz2
                    refine hK _ _ (fun _ => ⟨hf8.cell p1 (fun h => h), hf8.cell p2 (fun h => h), hf8.cell p3 (fun h => h), pB.fr hf8 (fun h => h)⟩) ?_
                    clear hK K
                    go_simp
                    iterate 1 (apply seqV_pureG (ho := rfl) (hr := rfl) (hw := by kernel_rfl); (intro w'; go_simp; rfl))
                    iterate 2 (apply seqV_pure (ho := rfl) (hr := rfl) (hg := rfl); (intro w'; go_simp; rfl))
                    go_simp
                    iterate 3 (apply seqV_pureG (ho := rfl) (hr := rfl) (hw := by kernel_rfl); (intro w'; go_simp; rfl))
                    iterate 1 (apply seqV_readG (ho := rfl) (hr := rfl) (hp := rfl) (hw := by kernel_rfl); (rintro w' ⟨q1, q2, q3, q4⟩; clear q1 q2 q4; go_simp; rfl))
                    go_simp
                    iterate 1 (apply seqV_pure (ho := rfl) (hr := rfl) (hg := rfl); (intro w'; go_simp; rfl))
                    go_simp
                    unfold seqV
                    have HR := Lib.hid ((hFd.out.trans hf7 (fun _ _ h => h)).trans hf8 (fun _ _ h => h))
                    clear hmc hcc hf7 hf8 p1 p2 p3 pB q1 q2 q3 hBr hz hz2
                    go_wp2_with fail
                    go_roundg (s.size + 1 - (k + 1) + 1)
                    case measure => omega
                    case rel => exact ⟨k + 1, by omega, rfl, by simp, HR.out⟩
                  | true =>
                    refine wp_region_seqV (fun w' => w'.cell? ⟨g1, k, none⟩ = some (.bool true) ∧ w'.cell? ⟨g2, k, none⟩ = some (.bool true) ∧ w'.cell? ⟨g3, k, none⟩ = some (.bool false) ∧ Blk w' b5 [.int .i64 (opOf r : Int), .slice uA un uc, .int .i64 um, .int .i64 uM, .bool false, .bool false, .slice vA vn vc] 25) (fun i => ![8, 19].contains i) (fun i => ![3, 4, 14, 15, 26, 8, 19].contains i) (fun i => false) [0, 1, 2, 3, 4, 5, 6, 7, 8, 9, 10, 11, 12, 13, 14, 15, 16, 17, 18, 19, 20, 21, 22, 23, 24, 25, 26, 27] (by kernel_rfl) (by kernel_rfl) (fun c a d v w h => by cases d <;> exact h) ⟨q1, q2, q3, hBr⟩ ?_
                    iterate 3 (apply seqV_pure (ho := rfl) (hr := rfl) (hg := rfl); (intro w'; go_simp; rfl))
                    iterate 1 (apply seqV_read (ho := rfl) (hr := rfl) (hp := rfl) (hg := rfl); (rintro w' ⟨q1, q2, q3, q4⟩; clear q2 q3 q4; go_simp; rfl))
                    iterate 1 (apply seqV_read (ho := rfl) (hr := rfl) (hp := rfl) (hg := rfl); (rintro w' ⟨q1, q2, q3, q4⟩; have r0 := q4.cell 0 rfl; have r1 := q4.cell 1 rfl; have r2 := q4.cell 2 rfl; have r3 := q4.cell 3 rfl; have r4 := q4.cell 4 rfl; have r5 := q4.cell 5 rfl; have r6 := q4.cell 6 rfl; clear q1 q2 q3 q4; go_simp; rfl))
                    iterate 3 (apply seqV_pure (ho := rfl) (hr := rfl) (hg := rfl); (intro w'; go_simp; rfl))
                    go_simp
                    refine seqV_do rfl rfl fun K hK => ?_
                    go_simp
                    refine hmc.mono ?_
                    rintro e w7 ⟨z, rfl, hz, hf7⟩
                    obtain rfl : z = true := hmz.out z hz
                    have p1 := hf7.cell q1 (fun h => h)
                    have p2 := hf7.cell q2 (fun h => h)
                    have p3 := hf7.cell q3 (fun h => h)
                    have pB := hBr.fr hf7 (fun h => h)
                    refine hK _ _ (fun _ => ⟨p1, p2, p3, pB⟩) ?_
                    clear hK K
                    go_simp
                    iterate 2 (apply seqV_pure (ho := rfl) (hr := rfl) (hg := rfl); (intro w'; go_simp; rfl))
                    go_simp
                    iterate 3 (apply seqV_pureG (ho := rfl) (hr := rfl) (hw := by kernel_rfl); (intro w'; go_simp; rfl))
                    iterate 1 (apply seqV_readG (ho := rfl) (hr := rfl) (hp := rfl) (hw := by kernel_rfl); (rintro w' ⟨q1, q2, q3, q4⟩; clear q1 q3 q4; go_simp; rfl))
                    iterate 1 (apply seqV_readG (ho := rfl) (hr := rfl) (hp := rfl) (hw := by kernel_rfl); (rintro w' ⟨q1, q2, q3, q4⟩; have r0 := q4.cell 0 rfl; have r1 := q4.cell 1 rfl; have r2 := q4.cell 2 rfl; have r3 := q4.cell 3 rfl; have r4 := q4.cell 4 rfl; have r5 := q4.cell 5 rfl; have r6 := q4.cell 6 rfl; clear q1 q2 q3 q4; go_simp; rfl))
                    go_simp
                    iterate 3 (apply seqV_pureG (ho := rfl) (hr := rfl) (hw := by kernel_rfl); (intro w'; go_simp; rfl))
                    go_simp
                    have hcc := can_calls (t := s.extract 0 k) hHE.out.1 ((hreR.out.fr hf7 (fun _ _ _ _ _ h => h))) (by rw [ByteArray.size_extract]; omega)
                    refine seqV_do rfl rfl fun K hK => ?_
                    go_simp
                    refine hcc.mono ?_
                    rintro e w8 ⟨z, rfl, hz2, hf8⟩
                    obtain rfl : z = true := hcz.out z hz2
                    refine hK _ _ (fun _ => ⟨hf8.cell p1 (fun h => h), hf8.cell p2 (fun h => h), hf8.cell p3 (fun h => h), pB.fr hf8 (fun h => h)⟩) ?_
                    clear hK K
                    go_simp
                    iterate 1 (apply seqV_pureG (ho := rfl) (hr := rfl) (hw := by kernel_rfl); (intro w'; go_simp; rfl))
                    iterate 2 (apply seqV_pure (ho := rfl) (hr := rfl) (hg := rfl); (intro w'; go_simp; rfl))
                    go_simp
                    iterate 3 (apply seqV_pureG (ho := rfl) (hr := rfl) (hw := by kernel_rfl); (intro w'; go_simp; rfl))
                    iterate 1 (apply seqV_readG (ho := rfl) (hr := rfl) (hp := rfl) (hw := by kernel_rfl); (rintro w' ⟨q1, q2, q3, q4⟩; clear q1 q2 q4; go_simp; rfl))
                    go_simp
                    iterate 1 (apply seqV_pure (ho := rfl) (hr := rfl) (hg := rfl); (intro w'; go_simp; rfl))
                    go_simp
                    unfold seqV
                    have HR := Lib.hid ((hFd.out.trans hf7 (fun _ _ h => h)).trans hf8 (fun _ _ h => h))
                    clear hmc hcc hf7 hf8 p1 p2 p3 pB q1 q2 q3 hBr hz hz2
                    go_wp2_with fail
                    go_roundg (s.size + 1 - (k + 1) + 1)
                    case measure => omega
                    case rel => exact ⟨k + 1, by omega, rfl, by simp, HR.out⟩
              · obtain rfl : k = s.size + 1 := by omega
                have e2 : ¬ (((s.size + 1 : Nat) : Int) ≤ (s.size : Int)) := by omega
                have HR := Lib.hid hF
                clear hF
                go_wp2_with fail
                go_ret
                exact ⟨rfl, HP.out.2.2.1.trans HR.out (fun _ _ h => h)⟩
          · have hno : ¬ plc r ≤ 5 := fun h => hcap (small_cap hHE.out.1 h)
            have y0 := hB7.cell 0 rfl
            have y1 := hB7.cell 1 rfl
            have y2 := hB7.cell 2 rfl
            have y3 := hB7.cell 3 rfl
            have y4 := hB7.cell 4 rfl
            have y5 := hB7.cell 5 rfl
            have y6 := hB7.cell 6 rfl
            have hc7 := refused_calls hre7 hHE.out.1 hpl
            rw [decide_eq_false hno] at hc7
            have HQ := Lib.hid hF7
            clear hF7 hB7 hre7 hno hcap
            go_wp2_with fail
            refine hc7.mono ?_
            rintro e w8 ⟨rfl, hf8⟩
            clear hc7 y0 y1 y2 y3 y4 y5 y6
            go_wp2_with fail
            go_ret
            exact ⟨rfl, HQ.out.trans hf8 (fun _ _ h => h)⟩
        · rw [decide_eq_false h160]
          have HQ := Lib.hid hF6
          clear hF6 hB6 hre6 h160
          go_wp2_with fail
          go_ret
          exact ⟨rfl, HQ.out⟩
      · have hc2 := wide_not w2 x mn mx la fo rA A rn rc n c hwide
        go_wp2_with fail
        refine hc2.mono ?_
        rintro e w3 ⟨rfl, hf3⟩
        clear hc2 y0 y1 y2 y3 y4 y5 y6
        go_wp2_with fail
        go_ret
        exact ⟨rfl, HJ.out.1.trans hf3 (fun _ _ h => h)⟩
    · have e1 : (2147483647 : Int) < (t.size : Int) := by omega
      go_wp2_with fail
      go_ret
      exact ⟨rfl, HI.out.1.trans hf2 (fun _ _ h => h)⟩
  · have hc := fun W => fits_not W x mn mx la fo rA A rn rc n c hfit
    go_enter Tryd.func3, Tryd.ntmps3
    go_wp2_with fail
    refine (hc _).mono ?_
    rintro e w2 ⟨rfl, hf2⟩
    clear hc y0 y1 y2 y3 y4 y5 y6
    go_wp2_with fail
    go_ret
    exact ⟨rfl, HI.out.1.trans hf2 (fun _ _ h => h)⟩
end Go.Proofs.YtjeklnbfpehbeaaDoor
