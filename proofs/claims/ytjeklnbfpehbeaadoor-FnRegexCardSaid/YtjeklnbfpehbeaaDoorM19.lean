/- The walk of 'Reached' of the law's own side at the classes. Condition: the expression is right, the text at most 40 bytes. -/
import Derived.Test.YtjeklnbfpehbeaaDoorM18
set_option linter.unusedVariables false
/- The walk of 'Reached' of the law's own side at the classes. Condition: the expression is right, the text at most 40 bytes. -/
namespace Go.Proofs.YtjeklnbfpehbeaaDoor
open Go.RowKit

theorem rune_cut {s : List Nat} {r c : Nat} (hr : r ≤ 1114111) (hc : c ≤ 1114111) (h1 : enc r <+: s) (h2 : enc c <+: s) : r = c := by
  obtain ⟨b, l, h3, -, -⟩ := enc_first hr
  have hs : s.head? = some b := by
    obtain ⟨t, rfl⟩ := h1
    rw [h3]; rfl
  have h4 := enc_long hs hr h1
  have h5 := enc_long hs hc h2
  exact enc_inj hr hc ((List.prefix_of_prefix_length_le h1 h2 (by omega)).eq_of_length (by omega))
theorem cut_enc {bs : List Nat} {k r : Nat} (h : enc r <+: bs.drop k) : cutB bs k (k + (enc r).length) = enc r ∧ (k ≤ bs.length → k + (enc r).length ≤ bs.length) := by
  obtain ⟨t, ht⟩ := h
  refine ⟨?_, fun hk => ?_⟩
  · unfold cutB
    rw [Nat.add_sub_cancel_left, ← ht, List.take_left']
    rfl
  · have := congrArg List.length ht
    rw [List.length_append, List.length_drop] at this
    omega
theorem cut_pre {bs : List Nat} {k j : Nat} : cutB bs k j <+: bs.drop k := List.take_prefix _ _
theorem class_step {bs : List Nat} {L : List (Nat × Nat)} {k c n : Nat} (hk : k ≤ bs.length) (h : RuneOf (bs.drop k) c n) (j : Nat) : (j ≤ bs.length ∧ k ≤ j ∧ ClassW L (cutB bs k j)) ↔ (0 < n ∧ inB L c = true ∧ j = k + n) := by
  constructor
  · rintro ⟨h1, h2, q, hq, r, hr, h3, h4, h5⟩
    have hp : enc r <+: bs.drop k := by rw [h5]; exact cut_pre
    rcases h with ⟨-, h⟩ | ⟨h6, h7, h8, h9⟩
    · exact absurd hp (h r hr)
    · obtain rfl := rune_cut hr.1 h7.1 hp h8
      have h10 := congrArg List.length h5
      rw [cut_len h1] at h10
      refine ⟨h6, ?_, by omega⟩
      unfold inB
      rw [List.any_eq_true]
      exact ⟨q, hq, by simp [h3, h4]⟩
  · rintro ⟨h1, h2, rfl⟩
    rcases h with ⟨h, -⟩ | ⟨h6, h7, h8, h9⟩
    · omega
    · have h10 := cut_enc h8
      rw [← h9] at h10
      unfold inB at h2
      rw [List.any_eq_true] at h2
      obtain ⟨q, hq, h2⟩ := h2
      simp at h2
      exact ⟨h10.2 hk, by omega, q, hq, c, h7, h2.1, h2.2, h10.1.symm⟩
theorem lang_class {r : RE} (hop : opOf r = 4 ∨ opOf r = 5 ∨ opOf r = 6) (w : List Nat) : Lang r w ↔ ClassW (pairsOf r) w := by
  cases r <;> simp [opOf] at hop <;> simp only [Lang, pairsOf]

set_option maxRecDepth 100000 in
set_option maxHeartbeats 4000000 in
theorem rc_cls (l : List (Nat × Nat)) (hwf : WfR (.cls l)) : RC (.cls l) := by
  intro w v fv t A hv hA hl ht
  have hcl : (pairsOf (.cls l)).length ≤ 1000 := by simp only [WfR] at hwf; exact hwf.2.1
  have hv0 := hv
  obtain ⟨uA, un, uc, um, ux, vA, vn, vc, rfl⟩ := hv.form
  have hvH := Lib.hid hv0
  clear hv hv0
  have hA0 := hA
  obtain ⟨b1, o1, c1, cs1, rfl, hcA, hbA, hcellA⟩ := hA0
  rw [hl] at hA ⊢
  have HA := Lib.hid (And.intro hA (And.intro hbA (And.intro hcellA hl)))
  have hmk : ∀ X : World, (Instr.makeSlice 30 (.int .i64 ((t.size : Int) + 1)) (.int .i64 ((t.size : Int) + 1))).run Tryd.prog X = .ok (.slice (some ⟨X.heap.size, 0, none⟩) (t.size + 1) (t.size + 1)) (X.alloc (.cells ((List.replicate (t.size + 1) false).map Value.bool).toArray 4)) := fun X => run_mk_bool (t.size + 1) (by omega) X
  generalize hC : ((List.replicate (t.size + 1) false).map Value.bool).toArray = C at hmk
  have HC := Lib.hid hC
  clear hC hA hbA hcellA hcA hl
  simp only [opOf] at hvH ⊢
  obtain ⟨L, hL⟩ : ∃ L, Hid (L = pairsOf (.cls l)) := ⟨_, Lib.hid rfl⟩
  rw [← hL.out] at hcl
  have hF2 : Fr (fun _ => False) w ((w.alloc (.cells #[.int .i64 4, .slice uA un uc, .int .i64 um, .int .i64 ux, .bool false, .bool false, .slice vA vn vc] 25)).alloc (.cells C 4)) := ((Fr.refl _ w).alloc _).alloc _
  have hB0 : Blk ((w.alloc (.cells #[.int .i64 4, .slice uA un uc, .int .i64 um, .int .i64 ux, .bool false, .bool false, .slice vA vn vc] 25)).alloc (.cells C 4)) w.heap.size [.int .i64 4, .slice uA un uc, .int .i64 um, .int .i64 ux, .bool false, .bool false, .slice vA vn vc] 25 := (Blk.new w [_, _, _, _, _, _, _] 25).alloc _
  have hO : NewSet ((w.alloc (.cells #[.int .i64 4, .slice uA un uc, .int .i64 um, .int .i64 ux, .bool false, .bool false, .slice vA vn vc] 25)).alloc (.cells C 4)) w.heap.size (w.heap.size + 1) (t.size + 1) (List.replicate (t.size + 1) false) := (newset_of (by
    have h := Blk.newAt (w.alloc (.cells (#[.int .i64 4, .slice uA un uc, .int .i64 um, .int .i64 ux, .bool false, .bool false, .slice vA vn vc]) 25)) ((List.replicate (t.size + 1) false).map Value.bool) 4 (w.heap.size + 1) (by simp)
    rw [HC.out] at h
    exact h) (by simp)).base (by omega)
  have hA2 : SetAt ((w.alloc (.cells #[.int .i64 4, .slice uA un uc, .int .i64 um, .int .i64 ux, .bool false, .bool false, .slice vA vn vc] 25)).alloc (.cells C 4)) (.slice (some ⟨b1, o1, none⟩) (t.size + 1) c1) A := HA.out.1.fr hF2 (fun _ _ _ h => h)
  have hsz : (((w.alloc (.cells #[.int .i64 4, .slice uA un uc, .int .i64 um, .int .i64 ux, .bool false, .bool false, .slice vA vn vc] 25)).alloc (.cells C 4))).heap.size = w.heap.size + 1 + 1 := by simp
  have HI := Lib.hid (And.intro hA2 (And.intro hO (And.intro hF2 hsz)))
  clear hF2 hA2 hsz hO
  go_enter Tryd.func22, Tryd.ntmps22
  go_wp2_with fail
  generalize ((w.alloc (.cells #[.int .i64 4, .slice uA un uc, .int .i64 um, .int .i64 ux, .bool false, .bool false, .slice vA vn vc] 25)).alloc (.cells C 4)) = W2 at *
  have hw2 : w.heap.size + 1 < W2.heap.size := by have := HI.out.2.2.2; omega
  go_loopg [11] (t.size + 1) (fun g i wr => ∃ (k : Nat) (B : List Bool), k ≤ t.size ∧ g = t.size - k + 1 ∧ i = .int .i64 (k : Int) ∧ NewSet wr w.heap.size (w.heap.size + 1) (t.size + 1) B ∧ Hid (B.length = t.size + 1 ∧ ∀ j, On B j ↔ ∃ i, i < k ∧ On A i ∧ j ≤ (bytesOf t).length ∧ i ≤ j ∧ ClassW L (cutB (bytesOf t) i j)) ∧ Fr (fun k => k = w.heap.size + 1) W2 wr)
  case atStart => exact ⟨0, _, by omega, by omega, rfl, HI.out.2.1, Lib.hid ⟨by simp, fun j => ⟨fun h => by simp [On, List.getElem?_replicate] at h, fun ⟨i, h, _⟩ => by omega⟩⟩, Fr.refl _ W2⟩
  case round =>
    obtain ⟨q, B, hq, rfl, rfl, hB, hBp, hF⟩ := hrel
    by_cases hlt : q < t.size
    · have e1 : (q : Int) < (t.size : Int) := by omega
      obtain ⟨x, hx⟩ : ∃ x, A[q]? = some x := ⟨_, List.getElem?_eq_getElem (by rw [HA.out.2.2.2]; omega)⟩
      have hne : b1 ≠ w.heap.size + 1 := by have := HA.out.2.1.lt; omega
      have hxs : (t.extract q t.size).size ≤ 1000000 := by rw [ByteArray.size_extract]; omega
      have hc := rune_calls wr (t.extract q t.size) hxs
      have hBr := hB0.fr hF (by omega)
      have hcA := hF.cell (HI.out.2.2.1.cell (HA.out.2.2.1 q x hx) (fun h => h)) hne
      have HX := Lib.hid (And.intro hx (And.intro hB (And.intro hF (And.intro hBr hcA))))
      clear hx hB hF hBr hcA hxs
      go_wp2_with fail
      refine hc.mono ?_
      rintro e w1 ⟨c, n, rfl, hrn, hf1⟩
      clear hc
      have hbx : bytesOf (t.extract q t.size) = (bytesOf t).drop q := by rw [bytes_ext, List.take_of_length_le (by rw [bytes_len]; exact Nat.le_refl _)]
      rw [hbx] at hrn
      have hst := Lib.hid (fun j => class_step (L := L) (by rw [bytes_len]; omega) hrn j)
      have hnb : n ≤ 4 ∧ q + n ≤ t.size := by
        rcases hrn with ⟨h, -⟩ | ⟨-, h2, h3, h4⟩
        · omega
        · have := (cut_enc h3).2 (by rw [bytes_len]; omega)
          rw [bytes_len] at this
          have := enc_len4 c
          omega
      obtain ⟨hn4, hqn⟩ := hnb
      obtain ⟨hx, hB, hF, hBr, hcA⟩ := HX.out
      have hB1 := hB.fr hf1 (fun h => h)
      have hF1 := hF.trans hf1 (fun _ _ h => h.elim)
      have hBr1 := hBr.fr hf1 (fun h => h)
      have r0 := hf1.cell hcA (fun h => h)
      have HX1 := Lib.hid (And.intro hB1 (And.intro hF1 hBr1))
      have stay : Hid ((¬ (On A q ∧ 0 < n ∧ inB L c = true)) → B.length = t.size + 1 ∧ ∀ j, On B j ↔ ∃ i, i < q + 1 ∧ On A i ∧ j ≤ (bytesOf t).length ∧ i ≤ j ∧ ClassW L (cutB (bytesOf t) i j)) := Lib.hid (fun hno => ⟨hBp.out.1, fun j => (hBp.out.2 j).trans ⟨fun ⟨i, h1, h2⟩ => ⟨i, by omega, h2⟩, fun ⟨i, h1, h2, h3⟩ => by
        by_cases e : i = q
        · rw [e] at h2 h3
          have h4 := (hst.out j).1 h3
          exact absurd ⟨h2, h4.1, h4.2.1⟩ hno
        · exact ⟨i, by omega, h2, h3⟩⟩⟩)
      have hxA := Lib.hid hx
      have hf1H := Lib.hid hf1
      clear hx hB hF hBr hcA hB1 hF1 hBr1 hrn hbx HX hf1
      have next : Hid (∀ w3, Fr (fun _ => False) w1 w3 → NewSet w3 w.heap.size (w.heap.size + 1) (t.size + 1) B ∧ Fr (fun k => k = w.heap.size + 1) W2 w3) := Lib.hid (fun w3 h3 => ⟨HX1.out.1.fr h3 (fun h => h), HX1.out.2.1.trans h3 (fun _ _ h => h.elim)⟩)
      cases x with
      | false =>
        go_wp2_with fail
        go_roundg (t.size - (q + 1) + 1)
        case measure => omega
        case rel => exact ⟨q + 1, B, by omega, rfl, by simp, HX1.out.1, Lib.hid (stay.out (fun h => by have h1 := h.1; have h2 := hxA.out; unfold On at h1; rw [h2] at h1; simp at h1)), HX1.out.2.1⟩
      | true =>
        by_cases n0 : n = 0
        · subst n0
          go_wp2_with fail
          go_roundg (t.size - (q + 1) + 1)
          case measure => omega
          case rel => exact ⟨q + 1, B, by omega, rfl, by simp, HX1.out.1, Lib.hid (stay.out (fun h => by omega)), HX1.out.2.1⟩
        have e3 : (0 : Int) < (n : Int) := by omega
        have y0 := HX1.out.2.2.cell 0 rfl
        have y1 := HX1.out.2.2.cell 1 rfl
        have y2 := HX1.out.2.2.cell 2 rfl
        have y3 := HX1.out.2.2.cell 3 rfl
        have y4 := HX1.out.2.2.cell 4 rfl
        have y5 := HX1.out.2.2.cell 5 rfl
        have y6 := HX1.out.2.2.cell 6 rfl
        have hrg := ranges_spec (hvH.out.fr (HI.out.2.2.1.trans HX1.out.2.1 (fun k hk e => (by omega : False).elim)) (fun k cs t hk ht h => h)) (by simp [opOf])
        rw [← hL.out] at hrg
        go_wp2_with fail
        refine hrg.mono ?_
        rintro e w2 ⟨v', rfl, hru, hf2⟩
        clear hrg y0 y1 y2 y3 y4 y5 y6 r0
        have hin := in_spec (r := c) hru (by omega)
        have hf2H := Lib.hid hf2
        clear hf2 hru
        go_wp2_with fail
        refine hin.mono ?_
        rintro e w3 ⟨rfl, rfl⟩
        clear hin
        by_cases hi : inB L c = true
        · rw [hi]
          have hiH := Lib.hid hi
          obtain ⟨hB3, hF3⟩ := next.out w2 hf2H.out
          obtain ⟨cs, hcs, hcv⟩ := hB3.blk
          obtain ⟨y, hy⟩ : ∃ y, B[q + n]? = some y := ⟨_, List.getElem?_eq_getElem (by rw [hBp.out.1]; omega)⟩
          have z1 := hcs.cell (q + n) (hcv _ y hy)
          have z2 := hcs.frz (q + n)
          have hput := hB3.put (q + n) true
          have hFp : Fr (fun k => k = w.heap.size + 1) W2 (w2.setCell ⟨w.heap.size + 1, q + n, none⟩ (.bool true)) := Fr.setCell (p := ⟨w.heap.size + 1, q + n, none⟩) hF3 (fun _ => rfl) _
          have HP := Lib.hid (And.intro hput hFp)
          clear hcs hcv hy hput hFp hB3 hF3 hi
          go_wp2_with fail
          go_roundg (t.size - (q + 1) + 1)
          case measure => omega
          case rel =>
            refine ⟨q + 1, B.set (q + n) true, by omega, rfl, by simp, HP.out.1, Lib.hid ⟨by rw [List.length_set]; exact hBp.out.1, fun j => ?_⟩, HP.out.2⟩
            rw [on_set (by rw [hBp.out.1]; omega), hBp.out.2 j]
            constructor
            · rintro (⟨i, h1, h2⟩ | rfl)
              · exact ⟨i, by omega, h2⟩
              · exact ⟨q, by omega, hxA.out, (hst.out (q + n)).2 ⟨by omega, hiH.out, rfl⟩⟩
            · rintro ⟨i, h1, h2, h3⟩
              by_cases e : i = q
              · rw [e] at h3
                exact .inr ((hst.out j).1 h3).2.2
              · exact .inl ⟨i, by omega, h2, h3⟩
        · have hi' : inB L c = false := by simpa using hi
          rw [hi']
          have hiH := Lib.hid hi
          clear hi hi'
          go_wp2_with fail
          go_roundg (t.size - (q + 1) + 1)
          case measure => omega
          case rel => exact ⟨q + 1, B, by omega, rfl, by simp, (next.out w2 hf2H.out).1, Lib.hid (stay.out (fun h => hiH.out h.2.2)), (next.out w2 hf2H.out).2⟩
    · obtain rfl : q = t.size := by omega
      have e1 : ¬ ((t.size : Int) < (t.size : Int)) := by omega
      have HX := Lib.hid (And.intro hB hF)
      clear hB hF
      go_wp2_with fail
      go_ret
      refine ⟨w.heap.size + 1, t.size + 1, B, by rw [hBp.out.1]; rfl, HX.out.1, by rw [hBp.out.1, HA.out.2.2.2], fun j => ?_, HI.out.2.2.1.trans HX.out.2 (fun k hk e => by omega)⟩
      rw [hBp.out.2 j]
      constructor
      · rintro ⟨i, h1, h2, h3, h4, h5⟩
        exact ⟨h3, i, h4, h2, (lang_class (by simp [opOf]) _).2 (by rw [← hL.out]; exact h5)⟩
      · rintro ⟨h3, i, h4, h2, h5⟩
        refine ⟨i, ?_, h2, h3, h4, by rw [hL.out]; exact (lang_class (by simp [opOf]) _).1 h5⟩
        have h6 := (lang_class (by simp [opOf]) _).1 h5
        obtain ⟨q, -, r, -, -, -, h7⟩ := h6
        have h8 := congrArg List.length h7
        rw [cut_len h3] at h8
        have h9 := enc_pos (c := r)
        rw [bytes_len] at h3
        omega

set_option maxRecDepth 100000 in
set_option maxHeartbeats 4000000 in
theorem rc_any : RC .any := by
  intro w v fv t A hv hA hl ht
  have hcl : (pairsOf .any).length ≤ 1000 := by simp [pairsOf]
  have hv0 := hv
  obtain ⟨uA, un, uc, um, ux, vA, vn, vc, rfl⟩ := hv.form
  have hvH := Lib.hid hv0
  clear hv hv0
  have hA0 := hA
  obtain ⟨b1, o1, c1, cs1, rfl, hcA, hbA, hcellA⟩ := hA0
  rw [hl] at hA ⊢
  have HA := Lib.hid (And.intro hA (And.intro hbA (And.intro hcellA hl)))
  have hmk : ∀ X : World, (Instr.makeSlice 30 (.int .i64 ((t.size : Int) + 1)) (.int .i64 ((t.size : Int) + 1))).run Tryd.prog X = .ok (.slice (some ⟨X.heap.size, 0, none⟩) (t.size + 1) (t.size + 1)) (X.alloc (.cells ((List.replicate (t.size + 1) false).map Value.bool).toArray 4)) := fun X => run_mk_bool (t.size + 1) (by omega) X
  generalize hC : ((List.replicate (t.size + 1) false).map Value.bool).toArray = C at hmk
  have HC := Lib.hid hC
  clear hC hA hbA hcellA hcA hl
  simp only [opOf] at hvH ⊢
  obtain ⟨L, hL⟩ : ∃ L, Hid (L = pairsOf .any) := ⟨_, Lib.hid rfl⟩
  rw [← hL.out] at hcl
  have hF2 : Fr (fun _ => False) w ((w.alloc (.cells #[.int .i64 6, .slice uA un uc, .int .i64 um, .int .i64 ux, .bool false, .bool false, .slice vA vn vc] 25)).alloc (.cells C 4)) := ((Fr.refl _ w).alloc _).alloc _
  have hB0 : Blk ((w.alloc (.cells #[.int .i64 6, .slice uA un uc, .int .i64 um, .int .i64 ux, .bool false, .bool false, .slice vA vn vc] 25)).alloc (.cells C 4)) w.heap.size [.int .i64 6, .slice uA un uc, .int .i64 um, .int .i64 ux, .bool false, .bool false, .slice vA vn vc] 25 := (Blk.new w [_, _, _, _, _, _, _] 25).alloc _
  have hO : NewSet ((w.alloc (.cells #[.int .i64 6, .slice uA un uc, .int .i64 um, .int .i64 ux, .bool false, .bool false, .slice vA vn vc] 25)).alloc (.cells C 4)) w.heap.size (w.heap.size + 1) (t.size + 1) (List.replicate (t.size + 1) false) := (newset_of (by
    have h := Blk.newAt (w.alloc (.cells (#[.int .i64 6, .slice uA un uc, .int .i64 um, .int .i64 ux, .bool false, .bool false, .slice vA vn vc]) 25)) ((List.replicate (t.size + 1) false).map Value.bool) 4 (w.heap.size + 1) (by simp)
    rw [HC.out] at h
    exact h) (by simp)).base (by omega)
  have hA2 : SetAt ((w.alloc (.cells #[.int .i64 6, .slice uA un uc, .int .i64 um, .int .i64 ux, .bool false, .bool false, .slice vA vn vc] 25)).alloc (.cells C 4)) (.slice (some ⟨b1, o1, none⟩) (t.size + 1) c1) A := HA.out.1.fr hF2 (fun _ _ _ h => h)
  have hsz : (((w.alloc (.cells #[.int .i64 6, .slice uA un uc, .int .i64 um, .int .i64 ux, .bool false, .bool false, .slice vA vn vc] 25)).alloc (.cells C 4))).heap.size = w.heap.size + 1 + 1 := by simp
  have HI := Lib.hid (And.intro hA2 (And.intro hO (And.intro hF2 hsz)))
  clear hF2 hA2 hsz hO
  go_enter Tryd.func22, Tryd.ntmps22
  go_wp2_with fail
  generalize ((w.alloc (.cells #[.int .i64 6, .slice uA un uc, .int .i64 um, .int .i64 ux, .bool false, .bool false, .slice vA vn vc] 25)).alloc (.cells C 4)) = W2 at *
  have hw2 : w.heap.size + 1 < W2.heap.size := by have := HI.out.2.2.2; omega
  go_loopg [11] (t.size + 1) (fun g i wr => ∃ (k : Nat) (B : List Bool), k ≤ t.size ∧ g = t.size - k + 1 ∧ i = .int .i64 (k : Int) ∧ NewSet wr w.heap.size (w.heap.size + 1) (t.size + 1) B ∧ Hid (B.length = t.size + 1 ∧ ∀ j, On B j ↔ ∃ i, i < k ∧ On A i ∧ j ≤ (bytesOf t).length ∧ i ≤ j ∧ ClassW L (cutB (bytesOf t) i j)) ∧ Fr (fun k => k = w.heap.size + 1) W2 wr)
  case atStart => exact ⟨0, _, by omega, by omega, rfl, HI.out.2.1, Lib.hid ⟨by simp, fun j => ⟨fun h => by simp [On, List.getElem?_replicate] at h, fun ⟨i, h, _⟩ => by omega⟩⟩, Fr.refl _ W2⟩
  case round =>
    obtain ⟨q, B, hq, rfl, rfl, hB, hBp, hF⟩ := hrel
    by_cases hlt : q < t.size
    · have e1 : (q : Int) < (t.size : Int) := by omega
      obtain ⟨x, hx⟩ : ∃ x, A[q]? = some x := ⟨_, List.getElem?_eq_getElem (by rw [HA.out.2.2.2]; omega)⟩
      have hne : b1 ≠ w.heap.size + 1 := by have := HA.out.2.1.lt; omega
      have hxs : (t.extract q t.size).size ≤ 1000000 := by rw [ByteArray.size_extract]; omega
      have hc := rune_calls wr (t.extract q t.size) hxs
      have hBr := hB0.fr hF (by omega)
      have hcA := hF.cell (HI.out.2.2.1.cell (HA.out.2.2.1 q x hx) (fun h => h)) hne
      have HX := Lib.hid (And.intro hx (And.intro hB (And.intro hF (And.intro hBr hcA))))
      clear hx hB hF hBr hcA hxs
      go_wp2_with fail
      refine hc.mono ?_
      rintro e w1 ⟨c, n, rfl, hrn, hf1⟩
      clear hc
      have hbx : bytesOf (t.extract q t.size) = (bytesOf t).drop q := by rw [bytes_ext, List.take_of_length_le (by rw [bytes_len]; exact Nat.le_refl _)]
      rw [hbx] at hrn
      have hst := Lib.hid (fun j => class_step (L := L) (by rw [bytes_len]; omega) hrn j)
      have hnb : n ≤ 4 ∧ q + n ≤ t.size := by
        rcases hrn with ⟨h, -⟩ | ⟨-, h2, h3, h4⟩
        · omega
        · have := (cut_enc h3).2 (by rw [bytes_len]; omega)
          rw [bytes_len] at this
          have := enc_len4 c
          omega
      obtain ⟨hn4, hqn⟩ := hnb
      obtain ⟨hx, hB, hF, hBr, hcA⟩ := HX.out
      have hB1 := hB.fr hf1 (fun h => h)
      have hF1 := hF.trans hf1 (fun _ _ h => h.elim)
      have hBr1 := hBr.fr hf1 (fun h => h)
      have r0 := hf1.cell hcA (fun h => h)
      have HX1 := Lib.hid (And.intro hB1 (And.intro hF1 hBr1))
      have stay : Hid ((¬ (On A q ∧ 0 < n ∧ inB L c = true)) → B.length = t.size + 1 ∧ ∀ j, On B j ↔ ∃ i, i < q + 1 ∧ On A i ∧ j ≤ (bytesOf t).length ∧ i ≤ j ∧ ClassW L (cutB (bytesOf t) i j)) := Lib.hid (fun hno => ⟨hBp.out.1, fun j => (hBp.out.2 j).trans ⟨fun ⟨i, h1, h2⟩ => ⟨i, by omega, h2⟩, fun ⟨i, h1, h2, h3⟩ => by
        by_cases e : i = q
        · rw [e] at h2 h3
          have h4 := (hst.out j).1 h3
          exact absurd ⟨h2, h4.1, h4.2.1⟩ hno
        · exact ⟨i, by omega, h2, h3⟩⟩⟩)
      have hxA := Lib.hid hx
      have hf1H := Lib.hid hf1
      clear hx hB hF hBr hcA hB1 hF1 hBr1 hrn hbx HX hf1
      have next : Hid (∀ w3, Fr (fun _ => False) w1 w3 → NewSet w3 w.heap.size (w.heap.size + 1) (t.size + 1) B ∧ Fr (fun k => k = w.heap.size + 1) W2 w3) := Lib.hid (fun w3 h3 => ⟨HX1.out.1.fr h3 (fun h => h), HX1.out.2.1.trans h3 (fun _ _ h => h.elim)⟩)
      cases x with
      | false =>
        go_wp2_with fail
        go_roundg (t.size - (q + 1) + 1)
        case measure => omega
        case rel => exact ⟨q + 1, B, by omega, rfl, by simp, HX1.out.1, Lib.hid (stay.out (fun h => by have h1 := h.1; have h2 := hxA.out; unfold On at h1; rw [h2] at h1; simp at h1)), HX1.out.2.1⟩
      | true =>
        by_cases n0 : n = 0
        · subst n0
          go_wp2_with fail
          go_roundg (t.size - (q + 1) + 1)
          case measure => omega
          case rel => exact ⟨q + 1, B, by omega, rfl, by simp, HX1.out.1, Lib.hid (stay.out (fun h => by omega)), HX1.out.2.1⟩
        have e3 : (0 : Int) < (n : Int) := by omega
        have y0 := HX1.out.2.2.cell 0 rfl
        have y1 := HX1.out.2.2.cell 1 rfl
        have y2 := HX1.out.2.2.cell 2 rfl
        have y3 := HX1.out.2.2.cell 3 rfl
        have y4 := HX1.out.2.2.cell 4 rfl
        have y5 := HX1.out.2.2.cell 5 rfl
        have y6 := HX1.out.2.2.cell 6 rfl
        have hrg := ranges_spec (hvH.out.fr (HI.out.2.2.1.trans HX1.out.2.1 (fun k hk e => (by omega : False).elim)) (fun k cs t hk ht h => h)) (by simp [opOf])
        rw [← hL.out] at hrg
        go_wp2_with fail
        refine hrg.mono ?_
        rintro e w2 ⟨v', rfl, hru, hf2⟩
        clear hrg y0 y1 y2 y3 y4 y5 y6 r0
        have hin := in_spec (r := c) hru (by omega)
        have hf2H := Lib.hid hf2
        clear hf2 hru
        go_wp2_with fail
        refine hin.mono ?_
        rintro e w3 ⟨rfl, rfl⟩
        clear hin
        by_cases hi : inB L c = true
        · rw [hi]
          have hiH := Lib.hid hi
          obtain ⟨hB3, hF3⟩ := next.out w2 hf2H.out
          obtain ⟨cs, hcs, hcv⟩ := hB3.blk
          obtain ⟨y, hy⟩ : ∃ y, B[q + n]? = some y := ⟨_, List.getElem?_eq_getElem (by rw [hBp.out.1]; omega)⟩
          have z1 := hcs.cell (q + n) (hcv _ y hy)
          have z2 := hcs.frz (q + n)
          have hput := hB3.put (q + n) true
          have hFp : Fr (fun k => k = w.heap.size + 1) W2 (w2.setCell ⟨w.heap.size + 1, q + n, none⟩ (.bool true)) := Fr.setCell (p := ⟨w.heap.size + 1, q + n, none⟩) hF3 (fun _ => rfl) _
          have HP := Lib.hid (And.intro hput hFp)
          clear hcs hcv hy hput hFp hB3 hF3 hi
          go_wp2_with fail
          go_roundg (t.size - (q + 1) + 1)
          case measure => omega
          case rel =>
            refine ⟨q + 1, B.set (q + n) true, by omega, rfl, by simp, HP.out.1, Lib.hid ⟨by rw [List.length_set]; exact hBp.out.1, fun j => ?_⟩, HP.out.2⟩
            rw [on_set (by rw [hBp.out.1]; omega), hBp.out.2 j]
            constructor
            · rintro (⟨i, h1, h2⟩ | rfl)
              · exact ⟨i, by omega, h2⟩
              · exact ⟨q, by omega, hxA.out, (hst.out (q + n)).2 ⟨by omega, hiH.out, rfl⟩⟩
            · rintro ⟨i, h1, h2, h3⟩
              by_cases e : i = q
              · rw [e] at h3
                exact .inr ((hst.out j).1 h3).2.2
              · exact .inl ⟨i, by omega, h2, h3⟩
        · have hi' : inB L c = false := by simpa using hi
          rw [hi']
          have hiH := Lib.hid hi
          clear hi hi'
          go_wp2_with fail
          go_roundg (t.size - (q + 1) + 1)
          case measure => omega
          case rel => exact ⟨q + 1, B, by omega, rfl, by simp, (next.out w2 hf2H.out).1, Lib.hid (stay.out (fun h => hiH.out h.2.2)), (next.out w2 hf2H.out).2⟩
    · obtain rfl : q = t.size := by omega
      have e1 : ¬ ((t.size : Int) < (t.size : Int)) := by omega
      have HX := Lib.hid (And.intro hB hF)
      clear hB hF
      go_wp2_with fail
      go_ret
      refine ⟨w.heap.size + 1, t.size + 1, B, by rw [hBp.out.1]; rfl, HX.out.1, by rw [hBp.out.1, HA.out.2.2.2], fun j => ?_, HI.out.2.2.1.trans HX.out.2 (fun k hk e => by omega)⟩
      rw [hBp.out.2 j]
      constructor
      · rintro ⟨i, h1, h2, h3, h4, h5⟩
        exact ⟨h3, i, h4, h2, (lang_class (by simp [opOf]) _).2 (by rw [← hL.out]; exact h5)⟩
      · rintro ⟨h3, i, h4, h2, h5⟩
        refine ⟨i, ?_, h2, h3, h4, by rw [hL.out]; exact (lang_class (by simp [opOf]) _).1 h5⟩
        have h6 := (lang_class (by simp [opOf]) _).1 h5
        obtain ⟨q, -, r, -, -, -, h7⟩ := h6
        have h8 := congrArg List.length h7
        rw [cut_len h3] at h8
        have h9 := enc_pos (c := r)
        rw [bytes_len] at h3
        omega

set_option maxRecDepth 100000 in
set_option maxHeartbeats 4000000 in
theorem rc_anyNl : RC .anyNl := by
  intro w v fv t A hv hA hl ht
  have hcl : (pairsOf .anyNl).length ≤ 1000 := by simp [pairsOf]
  have hv0 := hv
  obtain ⟨uA, un, uc, um, ux, vA, vn, vc, rfl⟩ := hv.form
  have hvH := Lib.hid hv0
  clear hv hv0
  have hA0 := hA
  obtain ⟨b1, o1, c1, cs1, rfl, hcA, hbA, hcellA⟩ := hA0
  rw [hl] at hA ⊢
  have HA := Lib.hid (And.intro hA (And.intro hbA (And.intro hcellA hl)))
  have hmk : ∀ X : World, (Instr.makeSlice 30 (.int .i64 ((t.size : Int) + 1)) (.int .i64 ((t.size : Int) + 1))).run Tryd.prog X = .ok (.slice (some ⟨X.heap.size, 0, none⟩) (t.size + 1) (t.size + 1)) (X.alloc (.cells ((List.replicate (t.size + 1) false).map Value.bool).toArray 4)) := fun X => run_mk_bool (t.size + 1) (by omega) X
  generalize hC : ((List.replicate (t.size + 1) false).map Value.bool).toArray = C at hmk
  have HC := Lib.hid hC
  clear hC hA hbA hcellA hcA hl
  simp only [opOf] at hvH ⊢
  obtain ⟨L, hL⟩ : ∃ L, Hid (L = pairsOf .anyNl) := ⟨_, Lib.hid rfl⟩
  rw [← hL.out] at hcl
  have hF2 : Fr (fun _ => False) w ((w.alloc (.cells #[.int .i64 5, .slice uA un uc, .int .i64 um, .int .i64 ux, .bool false, .bool false, .slice vA vn vc] 25)).alloc (.cells C 4)) := ((Fr.refl _ w).alloc _).alloc _
  have hB0 : Blk ((w.alloc (.cells #[.int .i64 5, .slice uA un uc, .int .i64 um, .int .i64 ux, .bool false, .bool false, .slice vA vn vc] 25)).alloc (.cells C 4)) w.heap.size [.int .i64 5, .slice uA un uc, .int .i64 um, .int .i64 ux, .bool false, .bool false, .slice vA vn vc] 25 := (Blk.new w [_, _, _, _, _, _, _] 25).alloc _
  have hO : NewSet ((w.alloc (.cells #[.int .i64 5, .slice uA un uc, .int .i64 um, .int .i64 ux, .bool false, .bool false, .slice vA vn vc] 25)).alloc (.cells C 4)) w.heap.size (w.heap.size + 1) (t.size + 1) (List.replicate (t.size + 1) false) := (newset_of (by
    have h := Blk.newAt (w.alloc (.cells (#[.int .i64 5, .slice uA un uc, .int .i64 um, .int .i64 ux, .bool false, .bool false, .slice vA vn vc]) 25)) ((List.replicate (t.size + 1) false).map Value.bool) 4 (w.heap.size + 1) (by simp)
    rw [HC.out] at h
    exact h) (by simp)).base (by omega)
  have hA2 : SetAt ((w.alloc (.cells #[.int .i64 5, .slice uA un uc, .int .i64 um, .int .i64 ux, .bool false, .bool false, .slice vA vn vc] 25)).alloc (.cells C 4)) (.slice (some ⟨b1, o1, none⟩) (t.size + 1) c1) A := HA.out.1.fr hF2 (fun _ _ _ h => h)
  have hsz : (((w.alloc (.cells #[.int .i64 5, .slice uA un uc, .int .i64 um, .int .i64 ux, .bool false, .bool false, .slice vA vn vc] 25)).alloc (.cells C 4))).heap.size = w.heap.size + 1 + 1 := by simp
  have HI := Lib.hid (And.intro hA2 (And.intro hO (And.intro hF2 hsz)))
  clear hF2 hA2 hsz hO
  go_enter Tryd.func22, Tryd.ntmps22
  go_wp2_with fail
  generalize ((w.alloc (.cells #[.int .i64 5, .slice uA un uc, .int .i64 um, .int .i64 ux, .bool false, .bool false, .slice vA vn vc] 25)).alloc (.cells C 4)) = W2 at *
  have hw2 : w.heap.size + 1 < W2.heap.size := by have := HI.out.2.2.2; omega
  go_loopg [11] (t.size + 1) (fun g i wr => ∃ (k : Nat) (B : List Bool), k ≤ t.size ∧ g = t.size - k + 1 ∧ i = .int .i64 (k : Int) ∧ NewSet wr w.heap.size (w.heap.size + 1) (t.size + 1) B ∧ Hid (B.length = t.size + 1 ∧ ∀ j, On B j ↔ ∃ i, i < k ∧ On A i ∧ j ≤ (bytesOf t).length ∧ i ≤ j ∧ ClassW L (cutB (bytesOf t) i j)) ∧ Fr (fun k => k = w.heap.size + 1) W2 wr)
  case atStart => exact ⟨0, _, by omega, by omega, rfl, HI.out.2.1, Lib.hid ⟨by simp, fun j => ⟨fun h => by simp [On, List.getElem?_replicate] at h, fun ⟨i, h, _⟩ => by omega⟩⟩, Fr.refl _ W2⟩
  case round =>
    obtain ⟨q, B, hq, rfl, rfl, hB, hBp, hF⟩ := hrel
    by_cases hlt : q < t.size
    · have e1 : (q : Int) < (t.size : Int) := by omega
      obtain ⟨x, hx⟩ : ∃ x, A[q]? = some x := ⟨_, List.getElem?_eq_getElem (by rw [HA.out.2.2.2]; omega)⟩
      have hne : b1 ≠ w.heap.size + 1 := by have := HA.out.2.1.lt; omega
      have hxs : (t.extract q t.size).size ≤ 1000000 := by rw [ByteArray.size_extract]; omega
      have hc := rune_calls wr (t.extract q t.size) hxs
      have hBr := hB0.fr hF (by omega)
      have hcA := hF.cell (HI.out.2.2.1.cell (HA.out.2.2.1 q x hx) (fun h => h)) hne
      have HX := Lib.hid (And.intro hx (And.intro hB (And.intro hF (And.intro hBr hcA))))
      clear hx hB hF hBr hcA hxs
      go_wp2_with fail
      refine hc.mono ?_
      rintro e w1 ⟨c, n, rfl, hrn, hf1⟩
      clear hc
      have hbx : bytesOf (t.extract q t.size) = (bytesOf t).drop q := by rw [bytes_ext, List.take_of_length_le (by rw [bytes_len]; exact Nat.le_refl _)]
      rw [hbx] at hrn
      have hst := Lib.hid (fun j => class_step (L := L) (by rw [bytes_len]; omega) hrn j)
      have hnb : n ≤ 4 ∧ q + n ≤ t.size := by
        rcases hrn with ⟨h, -⟩ | ⟨-, h2, h3, h4⟩
        · omega
        · have := (cut_enc h3).2 (by rw [bytes_len]; omega)
          rw [bytes_len] at this
          have := enc_len4 c
          omega
      obtain ⟨hn4, hqn⟩ := hnb
      obtain ⟨hx, hB, hF, hBr, hcA⟩ := HX.out
      have hB1 := hB.fr hf1 (fun h => h)
      have hF1 := hF.trans hf1 (fun _ _ h => h.elim)
      have hBr1 := hBr.fr hf1 (fun h => h)
      have r0 := hf1.cell hcA (fun h => h)
      have HX1 := Lib.hid (And.intro hB1 (And.intro hF1 hBr1))
      have stay : Hid ((¬ (On A q ∧ 0 < n ∧ inB L c = true)) → B.length = t.size + 1 ∧ ∀ j, On B j ↔ ∃ i, i < q + 1 ∧ On A i ∧ j ≤ (bytesOf t).length ∧ i ≤ j ∧ ClassW L (cutB (bytesOf t) i j)) := Lib.hid (fun hno => ⟨hBp.out.1, fun j => (hBp.out.2 j).trans ⟨fun ⟨i, h1, h2⟩ => ⟨i, by omega, h2⟩, fun ⟨i, h1, h2, h3⟩ => by
        by_cases e : i = q
        · rw [e] at h2 h3
          have h4 := (hst.out j).1 h3
          exact absurd ⟨h2, h4.1, h4.2.1⟩ hno
        · exact ⟨i, by omega, h2, h3⟩⟩⟩)
      have hxA := Lib.hid hx
      have hf1H := Lib.hid hf1
      clear hx hB hF hBr hcA hB1 hF1 hBr1 hrn hbx HX hf1
      have next : Hid (∀ w3, Fr (fun _ => False) w1 w3 → NewSet w3 w.heap.size (w.heap.size + 1) (t.size + 1) B ∧ Fr (fun k => k = w.heap.size + 1) W2 w3) := Lib.hid (fun w3 h3 => ⟨HX1.out.1.fr h3 (fun h => h), HX1.out.2.1.trans h3 (fun _ _ h => h.elim)⟩)
      cases x with
      | false =>
        go_wp2_with fail
        go_roundg (t.size - (q + 1) + 1)
        case measure => omega
        case rel => exact ⟨q + 1, B, by omega, rfl, by simp, HX1.out.1, Lib.hid (stay.out (fun h => by have h1 := h.1; have h2 := hxA.out; unfold On at h1; rw [h2] at h1; simp at h1)), HX1.out.2.1⟩
      | true =>
        by_cases n0 : n = 0
        · subst n0
          go_wp2_with fail
          go_roundg (t.size - (q + 1) + 1)
          case measure => omega
          case rel => exact ⟨q + 1, B, by omega, rfl, by simp, HX1.out.1, Lib.hid (stay.out (fun h => by omega)), HX1.out.2.1⟩
        have e3 : (0 : Int) < (n : Int) := by omega
        have y0 := HX1.out.2.2.cell 0 rfl
        have y1 := HX1.out.2.2.cell 1 rfl
        have y2 := HX1.out.2.2.cell 2 rfl
        have y3 := HX1.out.2.2.cell 3 rfl
        have y4 := HX1.out.2.2.cell 4 rfl
        have y5 := HX1.out.2.2.cell 5 rfl
        have y6 := HX1.out.2.2.cell 6 rfl
        have hrg := ranges_spec (hvH.out.fr (HI.out.2.2.1.trans HX1.out.2.1 (fun k hk e => (by omega : False).elim)) (fun k cs t hk ht h => h)) (by simp [opOf])
        rw [← hL.out] at hrg
        go_wp2_with fail
        refine hrg.mono ?_
        rintro e w2 ⟨v', rfl, hru, hf2⟩
        clear hrg y0 y1 y2 y3 y4 y5 y6 r0
        have hin := in_spec (r := c) hru (by omega)
        have hf2H := Lib.hid hf2
        clear hf2 hru
        go_wp2_with fail
        refine hin.mono ?_
        rintro e w3 ⟨rfl, rfl⟩
        clear hin
        by_cases hi : inB L c = true
        · rw [hi]
          have hiH := Lib.hid hi
          obtain ⟨hB3, hF3⟩ := next.out w2 hf2H.out
          obtain ⟨cs, hcs, hcv⟩ := hB3.blk
          obtain ⟨y, hy⟩ : ∃ y, B[q + n]? = some y := ⟨_, List.getElem?_eq_getElem (by rw [hBp.out.1]; omega)⟩
          have z1 := hcs.cell (q + n) (hcv _ y hy)
          have z2 := hcs.frz (q + n)
          have hput := hB3.put (q + n) true
          have hFp : Fr (fun k => k = w.heap.size + 1) W2 (w2.setCell ⟨w.heap.size + 1, q + n, none⟩ (.bool true)) := Fr.setCell (p := ⟨w.heap.size + 1, q + n, none⟩) hF3 (fun _ => rfl) _
          have HP := Lib.hid (And.intro hput hFp)
          clear hcs hcv hy hput hFp hB3 hF3 hi
          go_wp2_with fail
          go_roundg (t.size - (q + 1) + 1)
          case measure => omega
          case rel =>
            refine ⟨q + 1, B.set (q + n) true, by omega, rfl, by simp, HP.out.1, Lib.hid ⟨by rw [List.length_set]; exact hBp.out.1, fun j => ?_⟩, HP.out.2⟩
            rw [on_set (by rw [hBp.out.1]; omega), hBp.out.2 j]
            constructor
            · rintro (⟨i, h1, h2⟩ | rfl)
              · exact ⟨i, by omega, h2⟩
              · exact ⟨q, by omega, hxA.out, (hst.out (q + n)).2 ⟨by omega, hiH.out, rfl⟩⟩
            · rintro ⟨i, h1, h2, h3⟩
              by_cases e : i = q
              · rw [e] at h3
                exact .inr ((hst.out j).1 h3).2.2
              · exact .inl ⟨i, by omega, h2, h3⟩
        · have hi' : inB L c = false := by simpa using hi
          rw [hi']
          have hiH := Lib.hid hi
          clear hi hi'
          go_wp2_with fail
          go_roundg (t.size - (q + 1) + 1)
          case measure => omega
          case rel => exact ⟨q + 1, B, by omega, rfl, by simp, (next.out w2 hf2H.out).1, Lib.hid (stay.out (fun h => hiH.out h.2.2)), (next.out w2 hf2H.out).2⟩
    · obtain rfl : q = t.size := by omega
      have e1 : ¬ ((t.size : Int) < (t.size : Int)) := by omega
      have HX := Lib.hid (And.intro hB hF)
      clear hB hF
      go_wp2_with fail
      go_ret
      refine ⟨w.heap.size + 1, t.size + 1, B, by rw [hBp.out.1]; rfl, HX.out.1, by rw [hBp.out.1, HA.out.2.2.2], fun j => ?_, HI.out.2.2.1.trans HX.out.2 (fun k hk e => by omega)⟩
      rw [hBp.out.2 j]
      constructor
      · rintro ⟨i, h1, h2, h3, h4, h5⟩
        exact ⟨h3, i, h4, h2, (lang_class (by simp [opOf]) _).2 (by rw [← hL.out]; exact h5)⟩
      · rintro ⟨h3, i, h4, h2, h5⟩
        refine ⟨i, ?_, h2, h3, h4, by rw [hL.out]; exact (lang_class (by simp [opOf]) _).1 h5⟩
        have h6 := (lang_class (by simp [opOf]) _).1 h5
        obtain ⟨q, -, r, -, -, -, h7⟩ := h6
        have h8 := congrArg List.length h7
        rw [cut_len h3] at h8
        have h9 := enc_pos (c := r)
        rw [bytes_len] at h3
        omega
end Go.Proofs.YtjeklnbfpehbeaaDoor
