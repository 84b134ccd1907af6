/- The compiler's '(*compiler).c' of package regexp at a repetition without end, its part's contract given. Condition: the program stays below 200000 instructions. -/
import Derived.Test.YtjeklnbfpehbeaaDoorM10
import Derived.Test.YtjeklnbfpehbeaaDoorM12
set_option linter.unusedVariables false
/- The compiler's '(*compiler).c' of package regexp at a repetition without end, its part's contract given. Condition: the program stays below 200000 instructions. -/
namespace Go.Proofs.YtjeklnbfpehbeaaDoor
open Go.RowKit

set_option maxRecDepth 100000 in
set_option maxHeartbeats 8000000 in
theorem c_repN (B cb : Nat) (mn : Nat) (r : RE) (hmn : mn ≤ 1000) (ih : CC B cb r) : CC B cb (.rep mn none r) := by
  intro w p nb h hn hB hl
  simp only [NodeAt] at hn
  obtain ⟨sv, rv, x0, x1, a, b, cp, nm, hb, ⟨rA, rn, rc, rfl⟩, ha, hbx, hone⟩ := hn
  subst ha
  have hbx' : b = -1 := hbx
  subst hbx'
  obtain ⟨sb, so, sc, scs, kb, rfl, hsb, hsc, hk⟩ := hone
  have y0 := hb.cell 0 rfl
  have y1 := hb.cell 1 rfl
  have y8 := hb.cell 8 rfl
  have hcl : (seqC (List.replicate mn (code r)) p.length).length + (clen r + 2) = clen (.rep mn none r) := by
    rw [← clen_eq (.rep mn none r) p.length]; simp only [code, starC, List.length_append, List.length_cons, List.length_nil, clen_eq]
  have HB := Lib.hid (And.intro hb (And.intro hsb (And.intro hsc (And.intro hk hcl))))
  clear hbx hb hsb hsc hk hcl
  go_enter Tryd.func38, Tryd.ntmps38
  go_wp2_with fail
  clear y0 y1 y8
  go_loopg [41] (mn + 1) (fun g i wr => ∃ k : Nat, k ≤ mn ∧ g = mn - k + 1 ∧ i = .int .i64 (k : Int) ∧ Cp wr B cb (p ++ seqC ((List.replicate mn (code r)).take k) p.length) ∧ Fr (KT w B) w wr)
  case atStart => exact ⟨0, by omega, by omega, rfl, by simpa [seqC] using h, Fr.refl _ _⟩
  case round =>
    clear h
    obtain ⟨k, hk, rfl, rfl, hcp, hF⟩ := hrel
    obtain ⟨hb, hsb, hsc, hkn, hcl⟩ := HB.out
    have hB1 : B ≤ wr.heap.size := Nat.le_trans hB hF.size
    have hbw := hb.fr hF (blk_kt hb (by decide))
    have hscw := hF.cell hsc (blk_kt hsb (by decide))
    by_cases hlt : k < mn
    · have e1 : (k : Int) < (mn : Int) := by omega
      have y7 := hbw.cell 7 rfl
      have y2 := hbw.cell 2 rfl
      have htk := Lib.hid (show (List.replicate mn (code r)).take (k + 1) = (List.replicate mn (code r)).take k ++ [code r] from take_snoc_getElem? (by rw [List.getElem?_replicate, if_pos hlt]))
      have hlen : (p ++ seqC ((List.replicate mn (code r)).take k) p.length).length + clen r ≤ 200000 := by
        have h1 := seqC_take_len (List.replicate mn (code r)) (k + 1) p.length
        rw [htk.out, seqC_snoc, List.length_append, clen_eq] at h1
        rw [List.length_append]
        omega
      have hc := ih wr _ kb hcp (hkn.kt hF) hB1 hlen
      have HF := Lib.hid hF
      clear hb hsb hsc hkn hcl hcp hF hbw
      go_wp2_with fail
      refine hc.mono ?_
      rintro e w1 ⟨rfl, h1, h2⟩
      clear hc
      go_wp2_with fail
      go_roundg (mn - (k + 1) + 1)
      case measure => omega
      case rel =>
        refine ⟨k + 1, by omega, rfl, by simp, ?_, kt_trans HF.out h2⟩
        rw [htk.out, seqC_snoc, ← List.append_assoc]
        rw [List.length_append] at h1
        exact h1
    · obtain rfl : k = mn := by omega
      have e1 : ¬ ((k : Int) < (k : Int)) := by omega
      rw [List.take_of_length_le (by simp)] at hcp
      have y7 := hbw.cell 7 rfl
      have k1 : wr.drew.cell? ⟨nb, 1, none⟩ = some (.int .u16 0) := hbw.drew.cell 1 rfl
      have k2 : wr.drew.cell? ⟨nb, 2, none⟩ = some (.slice (some ⟨sb, so, none⟩) 1 sc) := hbw.drew.cell 2 rfl
      have k3 : wr.drew.cell? ⟨nb, 3, none⟩ = some (.pointer none) := hbw.drew.cell 3 rfl
      have k4 : wr.drew.cell? ⟨nb, 4, none⟩ = some (.slice rA rn rc) := hbw.drew.cell 4 rfl
      have k5 : wr.drew.cell? ⟨nb, 5, none⟩ = some (.int .i32 x0) ∧ wr.drew.cell? ⟨nb, 6, none⟩ = some (.int .i32 x1) := ⟨hbw.drew.cell 5 rfl, hbw.drew.cell 6 rfl⟩
      have hFd : Fr (KT w B) w wr.drew := kt_trans hF (kt_drop ((Fr.refl _ wr).drew))
      have hst : ∀ m1 m2 s5 s6, Calls Tryd.prog 38 #[.pointer (some ⟨cb, 0, none⟩), .pointer (some ⟨wr.heap.size, 0, none⟩)] (wr.drew.alloc (.cells #[.int .u8 14, .int .u16 0, .slice (some ⟨sb, so, none⟩) 1 sc, .pointer none, .slice rA rn rc, .int .i32 x0, .int .i32 x1, .int .i64 m1, .int .i64 m2, s5, s6] 77)) _ := fun m1 m2 s5 s6 => by
        have hFa : Fr (KT w B) w (wr.drew.alloc (.cells #[.int .u8 14, .int .u16 0, .slice (some ⟨sb, so, none⟩) 1 sc, .pointer none, .slice rA rn rc, .int .i32 x0, .int .i32 x1, .int .i64 m1, .int .i64 m2, s5, s6] 77)) := kt_trans hFd (kt_drop ((Fr.refl _ _).alloc _))
        refine c_star B cb r ih _ _ wr.heap.size (hcp.drop (((Fr.refl (fun _ => False) wr).drew).alloc _)) ?_ (Nat.le_trans hB hFa.size) ?_
        · simp only [NodeAt]
          refine node_new (Blk.new wr.drew [_, _, _, _, _, _, _, _, _, _, _] 77) ?_
          exact ⟨sb, so, sc, scs, kb, rfl, hsb.fr hFa (blk_kt hsb (by decide)), hFa.cell hsc (blk_kt hsb (by decide)), hkn.kt hFa⟩
        · rw [List.length_append]
          have : clen (.star r) = clen r + 2 := by rw [clen]; simp only [code, starC, List.length_append, List.length_cons, List.length_nil]; rw [clen_eq]
          omega
      have HF := Lib.hid hFd
      clear hb hsb hsc hkn hcl hcp hF hbw hFd hscw
      go_wp2_with fail
      clear y7
      refine wp_region_seqV (fun w' => w'.cell? ⟨nb, 1, none⟩ = some (.int .u16 0) ∧ w'.cell? ⟨nb, 2, none⟩ = some (.slice (some ⟨sb, so, none⟩) 1 sc) ∧ w'.cell? ⟨nb, 3, none⟩ = some (.pointer none) ∧ w'.cell? ⟨nb, 4, none⟩ = some (.slice rA rn rc) ∧ w'.cell? ⟨nb, 5, none⟩ = some (.int .i32 x0) ∧ w'.cell? ⟨nb, 6, none⟩ = some (.int .i32 x1)) (fun i => decide (i ≤ 20)) (fun i => ![3, 7, 11, 15, 19].contains i && decide (i ≤ 20)) (fun i => decide (22 ≤ i)) [0, 1, 2, 3, 4, 5, 6, 7, 8, 9, 10, 11, 12, 13, 14, 15, 16, 17, 18, 19, 20, 21, 22] (by kernel_rfl) (by kernel_rfl) (fun c a d v w h => by cases d <;> exact h) ⟨k1, k2, k3, k4, k5.1, k5.2⟩ ?_
      iterate 3 (apply seqV_pure (ho := rfl) (hr := rfl) (hg := rfl); (intro w'; go_simp; rfl))
      (apply seqV_read (ho := rfl) (hr := rfl) (hp := rfl) (hg := rfl); (rintro w' ⟨q1, q2, q3, q4, q5, q6⟩; go_simp; rfl))
      iterate 3 (apply seqV_pure (ho := rfl) (hr := rfl) (hg := rfl); (intro w'; go_simp; rfl))
      (apply seqV_read (ho := rfl) (hr := rfl) (hp := rfl) (hg := rfl); (rintro w' ⟨q1, q2, q3, q4, q5, q6⟩; go_simp; rfl))
      iterate 3 (apply seqV_pure (ho := rfl) (hr := rfl) (hg := rfl); (intro w'; go_simp; rfl))
      (apply seqV_read (ho := rfl) (hr := rfl) (hp := rfl) (hg := rfl); (rintro w' ⟨q1, q2, q3, q4, q5, q6⟩; go_simp; rfl))
      iterate 3 (apply seqV_pure (ho := rfl) (hr := rfl) (hg := rfl); (intro w'; go_simp; rfl))
      (apply seqV_read (ho := rfl) (hr := rfl) (hp := rfl) (hg := rfl); (rintro w' ⟨q1, q2, q3, q4, q5, q6⟩; go_simp; rfl))
      iterate 3 (apply seqV_pure (ho := rfl) (hr := rfl) (hg := rfl); (intro w'; go_simp; rfl))
      (apply seqV_read (ho := rfl) (hr := rfl) (hp := rfl) (hg := rfl); (rintro w' ⟨q1, q2, q3, q4, q5, q6⟩; go_simp; rfl))
      iterate 1 (apply seqV_pure (ho := rfl) (hr := rfl) (hg := rfl); (intro w'; go_simp; rfl))
      refine seqV_do rfl rfl fun K hK => ?_
      go_simp
      refine hK _ _ (fun _ => ⟨((Fr.refl (fun _ => False) wr.drew).alloc _).cell k1 (fun h => h), ((Fr.refl (fun _ => False) wr.drew).alloc _).cell k2 (fun h => h), ((Fr.refl (fun _ => False) wr.drew).alloc _).cell k3 (fun h => h), ((Fr.refl (fun _ => False) wr.drew).alloc _).cell k4 (fun h => h), ((Fr.refl (fun _ => False) wr.drew).alloc _).cell k5.1 (fun h => h), ((Fr.refl (fun _ => False) wr.drew).alloc _).cell k5.2 (fun h => h)⟩) ?_
      clear hK K
      refine seqV_do rfl rfl fun K hK => ?_
      go_simp
      refine hK _ _ (fun h => absurd h (by decide)) ?_
      clear hK K k1 k2 k3 k4 k5
      unfold seqV
      go_wp2_with fail
      refine (hst _ _ _ _).mono ?_
      rintro e w2 ⟨rfl, h2, hF2⟩
      clear hst
      go_wp2_with fail
      go_ret
      refine ⟨rfl, ?_, kt_trans (kt_trans HF.out (kt_drop ((Fr.refl _ _).alloc _))) hF2⟩
      simp only [code] at h2 ⊢
      rw [List.length_append, List.append_assoc] at h2
      exact h2
end Go.Proofs.YtjeklnbfpehbeaaDoor
