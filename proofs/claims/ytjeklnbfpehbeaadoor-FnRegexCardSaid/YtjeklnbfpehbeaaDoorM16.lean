/- 'places' of the law's own side, walked. Condition: the expression is right, and of fewer than 10^12 places. 'places' of the law's own side at classes and at nodes with parts, walked. Condition: the expression is right, and of fewer than 10^12 places. 'places' of the law's own side at any expression, walked. Condition: the expression is right, and of fewer than 10^12 places. 'places', 'Modest' and 'Small' of the law's own side at any expression. Condition: the expression is right, and of fewer than 10^12 places. 'at' of the law's own side, walked: it answers some number below n. Condition: n is from 1 to 100. 'regexRefused', 'fewBytes' and 'wideTree' of the law's own side, walked. Condition: none but right arguments. Which numbers' bytes begin with a text, in plain lists. No condition. The walk of 'runes' of the law's own side: which numbers' bytes could begin with a text. Condition: the text is not empty. -/
import Derived.Test.YtjeklnbfpehbeaaDoorM15
import Derived.Test.YtjeklnbfpehbeaaDoorM03
import Derived.Test.YtjeklnbfpehbeaaDoorM02
import Derived.Test.YtjeklnbfpehbeaaDoorM07
set_option linter.unusedVariables false
set_option linter.unusedSimpArgs false
/- 'places' of the law's own side, walked. Condition: the expression is right, and of fewer than 10^12 places. -/
namespace Go.Proofs.YtjeklnbfpehbeaaDoor
open Go.RowKit

def PC (r : RE) : Prop := ∀ (w : World) (v : Value), ReAt w r v → Calls Tryd.prog 16 #[v] w fun e w' => e = .returned (.int .i64 (plc r : Int)) ∧ Fr (fun _ => False) w w'

def litPl (rs : List Nat) : Nat := (rs.map fun r => (enc r).length).sum
theorem litPl_snoc (rs : List Nat) (r : Nat) : litPl (rs ++ [r]) = litPl rs + (enc r).length := by simp [litPl]
theorem litPl_le (rs : List Nat) : litPl rs ≤ 4 * rs.length := by
  induction rs with
  | nil => simp [litPl]
  | cons r rs ih =>
    have := enc_len_le r
    simp only [litPl, List.map_cons, List.sum_cons, List.length_cons] at *
    omega
theorem classPl_snoc (l : List (Nat × Nat)) (q : Nat × Nat) : classPl (l ++ [q]) = classPl l + pairPl q := by simp [classPl]
theorem classPl_le (l : List (Nat × Nat)) : classPl l ≤ 31 * l.length := by
  induction l with
  | nil => simp [classPl]
  | cons q l ih =>
    have : pairPl q ≤ 31 := by unfold pairPl; split <;> omega
    simp only [classPl, List.map_cons, List.sum_cons, List.length_cons] at *
    omega

set_option maxRecDepth 100000 in
set_option maxHeartbeats 2000000 in
theorem pl_emp : PC .emp := by
  intro w v h
  obtain ⟨uA, un, uc, um, ux, vA, vn, vc, rfl⟩ := h.form
  clear h
  simp only [opOf]
  go_enter Tryd.func16, Tryd.ntmps16
  go_wp2_with fail
  go_ret
  exact ⟨by simp [plc], (Fr.refl _ w).alloc _⟩

set_option maxRecDepth 100000 in
set_option maxHeartbeats 4000000 in
theorem pl_lit (rs : List Nat) (hwf : WfR (.lit rs)) : PC (.lit rs) := by
  intro w v h
  simp only [WfR] at hwf
  obtain @⟨_, A, c, rv, mn, mx, xs, hru, hr0, hm, hx, hs⟩ := h
  obtain ⟨rA, rc, hrv, -⟩ := id hru
  obtain ⟨N, hN⟩ : ∃ N, Hid (N = rs.length) := ⟨_, Lib.hid rfl⟩
  simp only [runesOf] at hru hrv
  rw [← hN.out] at hrv
  subst hrv
  have hNl : N ≤ 1000 := by have := hN.out; have := hwf.1; omega
  have HH := Lib.hid (And.intro hru hwf.2)
  clear hru hr0 hm hx hs hwf
  simp only [opOf, subsOf, List.length_nil]
  go_enter Tryd.func16, Tryd.ntmps16
  go_wp2_with fail
  have hF1 : Fr (fun _ => False) w (w.alloc (.cells #[.int .i64 3, .slice rA N rc, .int .i64 mn, .int .i64 mx, .bool false, .bool false, .slice A 0 c] 25)) := (Fr.refl _ w).alloc _
  have hB : Blk (w.alloc (.cells #[.int .i64 3, .slice rA N rc, .int .i64 mn, .int .i64 mx, .bool false, .bool false, .slice A 0 c] 25)) w.heap.size [.int .i64 3, .slice rA N rc, .int .i64 mn, .int .i64 mx, .bool false, .bool false, .slice A 0 c] 25 := Blk.new w [_, _, _, _, _, _, _] 25
  go_loopg [3, 4] (N + 1) (fun g n i wr => ∃ k z : Nat, k ≤ N ∧ g = N - k + 1 ∧ i = .int .i64 (k : Int) ∧ n = .int .i64 (z : Int) ∧ Hid (z = litPl (rs.take k)) ∧ Blk wr w.heap.size [.int .i64 3, .slice rA N rc, .int .i64 mn, .int .i64 mx, .bool false, .bool false, .slice A 0 c] 25 ∧ Fr (fun _ => False) w wr)
  case atStart => exact ⟨0, 0, by omega, by omega, rfl, rfl, Lib.hid (by simp [litPl]), hB, hF1⟩
  case round =>
    clear hB hF1
    obtain ⟨k, z, hk, rfl, rfl, rfl, hz, hB, hF⟩ := hrel
    have y1 := hB.cell 1 rfl
    by_cases hlt : k < N
    · obtain ⟨hru, hok⟩ := HH.out
      have hN' := hN.out
      have e1 : (k : Int) < (N : Int) := by omega
      obtain ⟨r, hrk⟩ : ∃ r, rs[k]? = some r := ⟨_, List.getElem?_eq_getElem (by omega)⟩
      obtain ⟨b, o, c', e2, r0⟩ := (hru.fr hF (fun _ _ _ _ _ h => h)).get hrk
      simp at e2
      obtain ⟨rfl, -, rfl⟩ := e2
      have hc := enc_spec wr (hok r (List.mem_of_getElem? hrk))
      have hzl : z ≤ 4000 := by
        rw [hz.out]
        have h1 := litPl_le (rs.take k)
        have h2 : (rs.take k).length ≤ k := by rw [List.length_take]; omega
        omega
      have hsz := strB_size (enc r)
      have hel := enc_len_le r
      obtain ⟨t, ht⟩ : ∃ t, t = strB (enc r) := ⟨_, rfl⟩
      rw [← ht] at hc hsz
      obtain ⟨m, hm⟩ : ∃ m, Hid (m = (enc r).length) := ⟨_, Lib.hid rfl⟩
      rw [← hm.out] at hsz hel
      have HX := Lib.hid (And.intro hrk (And.intro hB hF))
      clear hru hok hN' hrk hB hF ht
      go_wp2_with fail
      refine hc.mono ?_
      rintro e w1 ⟨rfl, hf⟩
      clear hc r0
      go_wp2_with fail
      go_roundg (N - (k + 1) + 1)
      case measure => omega
      case rel =>
        obtain ⟨hrk, hB, hF⟩ := HX.out
        refine ⟨k + 1, z + m, by omega, rfl, by simp, by simp, Lib.hid ?_, hB.fr hf (fun h => h), hF.trans hf (fun _ _ h => h)⟩
        rw [take_snoc_getElem? hrk, litPl_snoc, hz.out, hm.out]
    · obtain rfl : k = N := by omega
      have e1 : ¬ ((k : Int) < (k : Int)) := by omega
      have HF := Lib.hid hF
      clear hF hB
      go_wp2_with fail
      go_ret
      refine ⟨?_, HF.out⟩
      have := hz.out
      rw [List.take_of_length_le (by rw [← hN.out]; exact Nat.le_refl _)] at this
      rw [this]
      simp [plc, litPl]
end Go.Proofs.YtjeklnbfpehbeaaDoor

/- 'places' of the law's own side at classes and at nodes with parts, walked. Condition: the expression is right, and of fewer than 10^12 places. -/
namespace Go.Proofs.YtjeklnbfpehbeaaDoor
open Go.RowKit

set_option maxRecDepth 100000 in
set_option maxHeartbeats 4000000 in
theorem pl_class (r : RE) (hop : opOf r = 4 ∨ opOf r = 5 ∨ opOf r = 6) (hl : (pairsOf r).length ≤ 1000) (hp : plc r = classPl (pairsOf r)) : PC r := by
  intro w v h
  obtain ⟨uA, un, uc, um, ux, vA, vn, vc, rfl⟩ := h.form
  obtain ⟨o, ho⟩ : ∃ o, Hid (o = opOf r) := ⟨_, Lib.hid rfl⟩
  have hF1 : Fr (fun _ => False) w (w.alloc (.cells #[.int .i64 (opOf r : Int), .slice uA un uc, .int .i64 um, .int .i64 ux, .bool false, .bool false, .slice vA vn vc] 25)) := (Fr.refl _ w).alloc _
  have hr := ranges_spec (h.fr hF1 (fun _ _ _ _ _ h => h)) hop
  have hB : Blk (w.alloc (.cells #[.int .i64 (opOf r : Int), .slice uA un uc, .int .i64 um, .int .i64 ux, .bool false, .bool false, .slice vA vn vc] 25)) w.heap.size [.int .i64 (opOf r : Int), .slice uA un uc, .int .i64 um, .int .i64 ux, .bool false, .bool false, .slice vA vn vc] 25 := Blk.new w [_, _, _, _, _, _, _] 25
  rw [← ho.out] at hop hF1 hr hB ⊢
  rw [hp]
  obtain ⟨l, hlq⟩ : ∃ l, l = pairsOf r := ⟨_, rfl⟩
  rw [← hlq] at hl hr ⊢
  clear h hp hlq ho
  have HB := Lib.hid (And.intro hB hF1)
  clear hB hF1
  have key : ∀ oo : Nat, oo = o → (oo = 4 ∨ oo = 5 ∨ oo = 6) → Calls Tryd.prog 16 #[.agg #[.int .i64 (oo : Int), .slice uA un uc, .int .i64 um, .int .i64 ux, .bool false, .bool false, .slice vA vn vc]] w fun e w' => e = .returned (.int .i64 (classPl l : Int)) ∧ Fr (fun _ => False) w w' := by
    intro oo hoo hcase
    subst hoo
    have fin : ∀ (w1 : World) (v' : Value), RunesAt w1 v' (flat l) → True := fun _ _ _ => trivial
    rcases hcase with rfl | rfl | rfl
    · clear hop
      go_enter Tryd.func16, Tryd.ntmps16
      go_wp2_with fail
      refine hr.mono ?_
      rintro e w1 ⟨v', rfl, hru, hf⟩
      have hF := HB.out.2.trans hf (fun _ _ h => h)
      obtain ⟨A, c, hv, -⟩ := id hru
      obtain ⟨N, hN⟩ : ∃ N, Hid (N = (flat l).length) := ⟨_, Lib.hid rfl⟩
      have hN2 : N = 2 * l.length := by rw [hN.out, flat_len]
      rw [← hN.out] at hv
      subst hv
      obtain ⟨M, hM⟩ : ∃ M, M = l.length := ⟨_, rfl⟩
      rw [← hM] at hN2 hl
      have HC := Lib.hid (And.intro hru (And.intro hM (And.intro hN2 hF)))
      have hNl : N ≤ 2000 := by omega
      clear hru hM hN2 hF hf hr
      go_wp2_with fail
      go_loopg [3, 6] (M + 1) (fun g n i wr => ∃ k t z : Nat, k ≤ M ∧ g = M - k + 1 ∧ i = .int .i64 (t : Int) ∧ n = .int .i64 (z : Int) ∧ Hid (t = 2 * k) ∧ Hid (z = classPl (l.take k)) ∧ wr = w1)
      case atStart => exact ⟨0, 0, 0, by omega, by omega, rfl, rfl, Lib.hid rfl, Lib.hid (by simp [classPl]), rfl⟩
      case round =>
        obtain ⟨k, t, z, hk, rfl, rfl, rfl, ht, hz, rfl⟩ := hrel
        have hzl : z ≤ 31000 := by
          rw [hz.out]
          have h1 := classPl_le (l.take k)
          have h2 : (l.take k).length ≤ k := by rw [List.length_take]; omega
          omega
        by_cases hlt : k < M
        · obtain ⟨h, hM, hN2, hF⟩ := HC.out
          have ht' := ht.out
          have e1 : (t : Int) + 1 < (N : Int) := by omega
          have e2 : (t : Int) < (N : Int) := by omega
          have et : t ≤ 3000 := by omega
          obtain ⟨q, hq⟩ : ∃ q, l[k]? = some q := ⟨_, List.getElem?_eq_getElem (by omega)⟩
          obtain ⟨f0, f1⟩ := flat_get hq
          rw [← ht'] at f0 f1
          obtain ⟨b', o', c'', e4, r1⟩ := h.get f1
          simp at e4
          obtain ⟨rfl, -, rfl⟩ := e4
          have HX := Lib.hid hq
          clear h hM hN2 ht' hq f0 f1 hF
          have hnext : ∀ y, pairPl q = y → Hid (z + y = classPl (l.take (k + 1))) := fun y hy => Lib.hid (by rw [take_snoc_getElem? HX.out, classPl_snoc, hz.out, hy])
          have HN := Lib.hid hnext
          clear hnext
          by_cases h1 : 128 ≤ q.2
          · have e5 : (128 : Int) ≤ (q.2 : Int) := by omega
            go_wp2_with fail
            go_roundg (M - (k + 1) + 1)
            case measure => omega
            case rel => exact ⟨k + 1, t + 2, z + 31, by omega, rfl, by simp, by simp; omega, Lib.hid (by have := ht.out; omega), HN.out 31 (by unfold pairPl; rw [if_pos h1]), rfl⟩
          · have e5 : ¬ ((128 : Int) ≤ (q.2 : Int)) := by omega
            go_wp2_with fail
            go_roundg (M - (k + 1) + 1)
            case measure => omega
            case rel => exact ⟨k + 1, t + 2, z + 1, by omega, rfl, by simp, by simp, Lib.hid (by have := ht.out; omega), HN.out 1 (by unfold pairPl; rw [if_neg h1]), rfl⟩
        · have e1 : ¬ ((t : Int) + 1 < (N : Int)) := by have := ht.out; have := HC.out.2.2.1; omega
          have et : t ≤ 3000 := by have := ht.out; omega
          go_wp2_with fail
          go_ret
          have := hz.out
          rw [List.take_of_length_le (by rw [← HC.out.2.1]; omega)] at this
          rw [this]
          exact ⟨rfl, HC.out.2.2.2⟩
    · clear hop
      go_enter Tryd.func16, Tryd.ntmps16
      go_wp2_with fail
      refine hr.mono ?_
      rintro e w1 ⟨v', rfl, hru, hf⟩
      have hF := HB.out.2.trans hf (fun _ _ h => h)
      obtain ⟨A, c, hv, -⟩ := id hru
      obtain ⟨N, hN⟩ : ∃ N, Hid (N = (flat l).length) := ⟨_, Lib.hid rfl⟩
      have hN2 : N = 2 * l.length := by rw [hN.out, flat_len]
      rw [← hN.out] at hv
      subst hv
      obtain ⟨M, hM⟩ : ∃ M, M = l.length := ⟨_, rfl⟩
      rw [← hM] at hN2 hl
      have HC := Lib.hid (And.intro hru (And.intro hM (And.intro hN2 hF)))
      have hNl : N ≤ 2000 := by omega
      clear hru hM hN2 hF hf hr
      go_wp2_with fail
      go_loopg [3, 6] (M + 1) (fun g n i wr => ∃ k t z : Nat, k ≤ M ∧ g = M - k + 1 ∧ i = .int .i64 (t : Int) ∧ n = .int .i64 (z : Int) ∧ Hid (t = 2 * k) ∧ Hid (z = classPl (l.take k)) ∧ wr = w1)
      case atStart => exact ⟨0, 0, 0, by omega, by omega, rfl, rfl, Lib.hid rfl, Lib.hid (by simp [classPl]), rfl⟩
      case round =>
        obtain ⟨k, t, z, hk, rfl, rfl, rfl, ht, hz, rfl⟩ := hrel
        have hzl : z ≤ 31000 := by
          rw [hz.out]
          have h1 := classPl_le (l.take k)
          have h2 : (l.take k).length ≤ k := by rw [List.length_take]; omega
          omega
        by_cases hlt : k < M
        · obtain ⟨h, hM, hN2, hF⟩ := HC.out
          have ht' := ht.out
          have e1 : (t : Int) + 1 < (N : Int) := by omega
          have e2 : (t : Int) < (N : Int) := by omega
          have et : t ≤ 3000 := by omega
          obtain ⟨q, hq⟩ : ∃ q, l[k]? = some q := ⟨_, List.getElem?_eq_getElem (by omega)⟩
          obtain ⟨f0, f1⟩ := flat_get hq
          rw [← ht'] at f0 f1
          obtain ⟨b', o', c'', e4, r1⟩ := h.get f1
          simp at e4
          obtain ⟨rfl, -, rfl⟩ := e4
          have HX := Lib.hid hq
          clear h hM hN2 ht' hq f0 f1 hF
          have hnext : ∀ y, pairPl q = y → Hid (z + y = classPl (l.take (k + 1))) := fun y hy => Lib.hid (by rw [take_snoc_getElem? HX.out, classPl_snoc, hz.out, hy])
          have HN := Lib.hid hnext
          clear hnext
          by_cases h1 : 128 ≤ q.2
          · have e5 : (128 : Int) ≤ (q.2 : Int) := by omega
            go_wp2_with fail
            go_roundg (M - (k + 1) + 1)
            case measure => omega
            case rel => exact ⟨k + 1, t + 2, z + 31, by omega, rfl, by simp, by simp; omega, Lib.hid (by have := ht.out; omega), HN.out 31 (by unfold pairPl; rw [if_pos h1]), rfl⟩
          · have e5 : ¬ ((128 : Int) ≤ (q.2 : Int)) := by omega
            go_wp2_with fail
            go_roundg (M - (k + 1) + 1)
            case measure => omega
            case rel => exact ⟨k + 1, t + 2, z + 1, by omega, rfl, by simp, by simp, Lib.hid (by have := ht.out; omega), HN.out 1 (by unfold pairPl; rw [if_neg h1]), rfl⟩
        · have e1 : ¬ ((t : Int) + 1 < (N : Int)) := by have := ht.out; have := HC.out.2.2.1; omega
          have et : t ≤ 3000 := by have := ht.out; omega
          go_wp2_with fail
          go_ret
          have := hz.out
          rw [List.take_of_length_le (by rw [← HC.out.2.1]; omega)] at this
          rw [this]
          exact ⟨rfl, HC.out.2.2.2⟩
    · clear hop
      go_enter Tryd.func16, Tryd.ntmps16
      go_wp2_with fail
      refine hr.mono ?_
      rintro e w1 ⟨v', rfl, hru, hf⟩
      have hF := HB.out.2.trans hf (fun _ _ h => h)
      obtain ⟨A, c, hv, -⟩ := id hru
      obtain ⟨N, hN⟩ : ∃ N, Hid (N = (flat l).length) := ⟨_, Lib.hid rfl⟩
      have hN2 : N = 2 * l.length := by rw [hN.out, flat_len]
      rw [← hN.out] at hv
      subst hv
      obtain ⟨M, hM⟩ : ∃ M, M = l.length := ⟨_, rfl⟩
      rw [← hM] at hN2 hl
      have HC := Lib.hid (And.intro hru (And.intro hM (And.intro hN2 hF)))
      have hNl : N ≤ 2000 := by omega
      clear hru hM hN2 hF hf hr
      go_wp2_with fail
      go_loopg [3, 6] (M + 1) (fun g n i wr => ∃ k t z : Nat, k ≤ M ∧ g = M - k + 1 ∧ i = .int .i64 (t : Int) ∧ n = .int .i64 (z : Int) ∧ Hid (t = 2 * k) ∧ Hid (z = classPl (l.take k)) ∧ wr = w1)
      case atStart => exact ⟨0, 0, 0, by omega, by omega, rfl, rfl, Lib.hid rfl, Lib.hid (by simp [classPl]), rfl⟩
      case round =>
        obtain ⟨k, t, z, hk, rfl, rfl, rfl, ht, hz, rfl⟩ := hrel
        have hzl : z ≤ 31000 := by
          rw [hz.out]
          have h1 := classPl_le (l.take k)
          have h2 : (l.take k).length ≤ k := by rw [List.length_take]; omega
          omega
        by_cases hlt : k < M
        · obtain ⟨h, hM, hN2, hF⟩ := HC.out
          have ht' := ht.out
          have e1 : (t : Int) + 1 < (N : Int) := by omega
          have e2 : (t : Int) < (N : Int) := by omega
          have et : t ≤ 3000 := by omega
          obtain ⟨q, hq⟩ : ∃ q, l[k]? = some q := ⟨_, List.getElem?_eq_getElem (by omega)⟩
          obtain ⟨f0, f1⟩ := flat_get hq
          rw [← ht'] at f0 f1
          obtain ⟨b', o', c'', e4, r1⟩ := h.get f1
          simp at e4
          obtain ⟨rfl, -, rfl⟩ := e4
          have HX := Lib.hid hq
          clear h hM hN2 ht' hq f0 f1 hF
          have hnext : ∀ y, pairPl q = y → Hid (z + y = classPl (l.take (k + 1))) := fun y hy => Lib.hid (by rw [take_snoc_getElem? HX.out, classPl_snoc, hz.out, hy])
          have HN := Lib.hid hnext
          clear hnext
          by_cases h1 : 128 ≤ q.2
          · have e5 : (128 : Int) ≤ (q.2 : Int) := by omega
            go_wp2_with fail
            go_roundg (M - (k + 1) + 1)
            case measure => omega
            case rel => exact ⟨k + 1, t + 2, z + 31, by omega, rfl, by simp, by simp; omega, Lib.hid (by have := ht.out; omega), HN.out 31 (by unfold pairPl; rw [if_pos h1]), rfl⟩
          · have e5 : ¬ ((128 : Int) ≤ (q.2 : Int)) := by omega
            go_wp2_with fail
            go_roundg (M - (k + 1) + 1)
            case measure => omega
            case rel => exact ⟨k + 1, t + 2, z + 1, by omega, rfl, by simp, by simp, Lib.hid (by have := ht.out; omega), HN.out 1 (by unfold pairPl; rw [if_neg h1]), rfl⟩
        · have e1 : ¬ ((t : Int) + 1 < (N : Int)) := by have := ht.out; have := HC.out.2.2.1; omega
          have et : t ≤ 3000 := by have := ht.out; omega
          go_wp2_with fail
          go_ret
          have := hz.out
          rw [List.take_of_length_le (by rw [← HC.out.2.1]; omega)] at this
          rw [this]
          exact ⟨rfl, HC.out.2.2.2⟩
  exact key o rfl hop
end Go.Proofs.YtjeklnbfpehbeaaDoor

/- 'places' of the law's own side at any expression, walked. Condition: the expression is right, and of fewer than 10^12 places. -/
namespace Go.Proofs.YtjeklnbfpehbeaaDoor
open Go.RowKit

theorem sum_take_le (l : List Nat) (k : Nat) : (l.take k).sum ≤ l.sum := by
  have h : l.sum = (l.take k).sum + (l.drop k).sum := by rw [← List.sum_append, List.take_append_drop]
  omega

set_option maxRecDepth 100000 in
set_option maxHeartbeats 4000000 in
/-- What the parts' places sum to, and what the node makes of it. -/
theorem pl_node (r : RE) (hop : 13 ≤ opOf r) (hsl : (subsOf r).length ≤ 1000) (ih : ∀ r', r' ∈ subsOf r → PC r') (S P : Nat) (hS : S = ((subsOf r).map plc).sum) (hSl : S ≤ 1000000000000) (hPl : P ≤ 1000000000000)
    (h15 : opOf r = 15 → P = S * 2) (h17 : opOf r = 17 → ∀ a b : Int, boundsOf r a b → (P : Int) = (S : Int) * (max a b + 1) ∧ -1 ≤ a ∧ a ≤ 1000 ∧ -1 ≤ b ∧ b ≤ 1000) (hno : opOf r ≠ 15 → opOf r ≠ 17 → P = S) (hP : plc r = P) : PC r := by
  intro w v hv
  obtain @⟨_, A, c, rv, mn, mx, xs, hru, hr0, hm, hx, hs⟩ := hv
  obtain ⟨o, ho⟩ : ∃ o, Hid (o = opOf r) := ⟨_, Lib.hid rfl⟩
  rw [hP]
  rw [← ho.out] at hop h15 h17 hno ⊢
  obtain ⟨N, hN⟩ : ∃ N, Hid (N = (subsOf r).length) := ⟨_, Lib.hid rfl⟩
  rw [← hN.out] at hsl ⊢
  obtain ⟨rA, rc, hrv, -⟩ := id hru
  obtain ⟨M, hM⟩ : ∃ M, Hid (M = (runesOf r).length) := ⟨_, Lib.hid rfl⟩
  rw [← hM.out] at hrv
  subst hrv
  have HH := Lib.hid (And.intro hm (And.intro hx (And.intro hs (And.intro hS (And.intro h15 (And.intro h17 hno))))))
  have e2 : ((o : Int) == 2) = false := by rw [beq_eq_false_iff_ne]; omega
  have e3 : ((o : Int) == 3) = false := by rw [beq_eq_false_iff_ne]; omega
  have e4 : ((o : Int) == 4) = false := by rw [beq_eq_false_iff_ne]; omega
  have e5 : ((o : Int) == 5) = false := by rw [beq_eq_false_iff_ne]; omega
  have e6 : ((o : Int) == 6) = false := by rw [beq_eq_false_iff_ne]; omega
  have n2 : ¬ ((o : Int) = 2) := by omega
  have n3 : ¬ ((o : Int) = 3) := by omega
  have n4 : ¬ ((o : Int) = 4) := by omega
  have n5 : ¬ ((o : Int) = 5) := by omega
  have n6 : ¬ ((o : Int) = 6) := by omega
  clear hru hr0 hm hx hs hS h15 h17 hno hP
  go_enter Tryd.func16, Tryd.ntmps16
  go_wp2_with fail
  have hF1 : Fr (fun _ => False) w (w.alloc (.cells #[.int .i64 (o : Int), .slice rA M rc, .int .i64 mn, .int .i64 mx, .bool false, .bool false, .slice A N c] 25)) := (Fr.refl _ w).alloc _
  have hB : Blk (w.alloc (.cells #[.int .i64 (o : Int), .slice rA M rc, .int .i64 mn, .int .i64 mx, .bool false, .bool false, .slice A N c] 25)) w.heap.size [.int .i64 (o : Int), .slice rA M rc, .int .i64 mn, .int .i64 mx, .bool false, .bool false, .slice A N c] 25 := Blk.new w [_, _, _, _, _, _, _] 25
  go_loopg [3, 7] (N + 1) (fun g n i wr => ∃ k z : Nat, k ≤ N ∧ g = N - k + 1 ∧ i = .int .i64 (k : Int) ∧ n = .int .i64 (z : Int) ∧ Hid (z = (((subsOf r).map plc).take k).sum) ∧ Blk wr w.heap.size [.int .i64 (o : Int), .slice rA M rc, .int .i64 mn, .int .i64 mx, .bool false, .bool false, .slice A N c] 25 ∧ Fr (fun _ => False) w wr)
  case atStart => exact ⟨0, 0, by omega, by omega, rfl, rfl, Lib.hid (by simp), hB, hF1⟩
  case round =>
    clear hB hF1
    obtain ⟨k, z, hk, rfl, rfl, rfl, hz, hB, hF⟩ := hrel
    have y0 := hB.cell 0 rfl
    have y2 := hB.cell 2 rfl
    have y3 := hB.cell 3 rfl
    have y6 := hB.cell 6 rfl
    have hzS : z ≤ S := by rw [hz.out, HH.out.2.2.2.1]; exact sum_take_le _ _
    by_cases hlt : k < N
    · have e1 : (k : Int) < (N : Int) := by omega
      have hkl : k < (subsOf r).length := by rw [← hN.out]; exact hlt
      obtain ⟨r', hr'⟩ : ∃ r', (subsOf r)[k]? = some r' := ⟨_, List.getElem?_eq_getElem hkl⟩
      obtain ⟨b, ob, cs, rfl, hbk, h7, hcells⟩ := HH.out.2.1 k hkl
      have hre := HH.out.2.2.1 k r' hr'
      obtain ⟨x0, x1, x2, x3, x4, x5, x6, hxs⟩ : ∃ x0 x1 x2 x3 x4 x5 x6, xs k = [x0, x1, x2, x3, x4, x5, x6] := by
        match hq : xs k, h7 with
        | [x0, x1, x2, x3, x4, x5, x6], _ => exact ⟨x0, x1, x2, x3, x4, x5, x6, rfl⟩
      rw [hxs] at hcells hre
      rw [Nat.mul_comm 7 k] at hcells
      have z0 := hF.cell (hcells 0 x0 rfl) (fun h => h)
      have z1 := hF.cell (hcells 1 x1 rfl) (fun h => h)
      have z2 := hF.cell (hcells 2 x2 rfl) (fun h => h)
      have z3 := hF.cell (hcells 3 x3 rfl) (fun h => h)
      have z4 := hF.cell (hcells 4 x4 rfl) (fun h => h)
      have z5 := hF.cell (hcells 5 x5 rfl) (fun h => h)
      have z6 := hF.cell (hcells 6 x6 rfl) (fun h => h)
      simp only [Nat.add_zero] at z0
      have hc := ih r' (List.mem_of_getElem? hr') wr _ (hre.fr hF (fun _ _ _ _ _ h => h))
      have hnext : (((subsOf r).map plc).take (k + 1)).sum = z + plc r' := by
        rw [take_snoc_getElem? (by rw [List.getElem?_map, hr']; rfl), List.sum_append, hz.out]
        simp
      have hzn : z + plc r' ≤ S := by rw [← hnext, HH.out.2.2.2.1]; exact sum_take_le _ _
      obtain ⟨m, hm⟩ : ∃ m, Hid (m = plc r') := ⟨_, Lib.hid rfl⟩
      rw [← hm.out] at hc hzn hnext
      have HX := Lib.hid (And.intro hnext (And.intro hB hF))
      clear hnext hB hF hr' hre hcells hbk h7 hxs y2 y3 y0
      go_wp2_with fail
      refine hc.mono ?_
      rintro e w1 ⟨rfl, hf⟩
      clear hc z0 z1 z2 z3 z4 z5 z6 y6
      go_wp2_with fail
      go_roundg (N - (k + 1) + 1)
      case measure => omega
      case rel =>
        obtain ⟨hnext, hB, hF⟩ := HX.out
        exact ⟨k + 1, z + m, by omega, rfl, by simp, by simp, Lib.hid hnext.symm, hB.fr hf (fun h => h), hF.trans hf (fun _ _ h => h)⟩
    · obtain rfl : k = N := by omega
      have e1 : ¬ ((k : Int) < (k : Int)) := by omega
      have hzS2 : z = S := by
        rw [hz.out, HH.out.2.2.2.1, List.take_of_length_le (by rw [List.length_map, ← hN.out]; exact Nat.le_refl _)]
      subst hzS2
      obtain ⟨hm, -, -, -, h15, h17, hno⟩ := HH.out
      have HF := Lib.hid hF
      by_cases c17 : o = 17
      · have h := h17 c17 mn mx hm
        obtain ⟨hp, a1, a2, b1, b2⟩ := h
        subst c17
        have HP := Lib.hid hp
        clear hF hB h15 h17 hno hm hp e2 e3 e4 e5 e6 n2 n3 n4 n5 n6
        have hA : Hid (mx ≤ mn → (z : Int) * (mn + 1) = (P : Int)) := Lib.hid (fun h => by
          have e := HP.out
          rw [show max mn mx = mn by omega] at e
          exact e.symm)
        have hB2 : Hid (mn ≤ mx → (z : Int) * (mx + 1) = (P : Int)) := Lib.hid (fun h => by
          have e := HP.out
          rw [show max mn mx = mx by omega] at e
          exact e.symm)
        go_wp2_with fail
        all_goals go_ret
        all_goals exact ⟨by first | exact (show Ending.returned (Value.int .i64 (wrap64 ((z : Int) * (mn + 1)))) = _ by rw [hA.out (by omega), IntWalk.wrap64_in _ (by omega)]) | exact (show Ending.returned (Value.int .i64 (wrap64 ((z : Int) * (mx + 1)))) = _ by rw [hB2.out (by omega), IntWalk.wrap64_in _ (by omega)]), HF.out⟩
      · by_cases c15 : o = 15
        · have hp := Lib.hid (h15 c15)
          subst c15
          clear hF hB h15 h17 hno hm e2 e3 e4 e5 e6 n2 n3 n4 n5 n6
          go_wp2_with fail
          go_ret
          rw [hp.out]
          exact ⟨by simp, HF.out⟩
        · have hp := Lib.hid (hno c15 c17)
          have f17 : ((o : Int) == 17) = false := by rw [beq_eq_false_iff_ne]; omega
          have f15 : ((o : Int) == 15) = false := by rw [beq_eq_false_iff_ne]; omega
          have g17 : ¬ ((o : Int) = 17) := by omega
          have g15 : ¬ ((o : Int) = 15) := by omega
          clear hF hB h15 h17 hno hm e2 e3 e4 e5 e6 n2 n3 n4 n5 n6
          go_wp2_with fail
          go_ret
          rw [hp.out]
          exact ⟨rfl, HF.out⟩
end Go.Proofs.YtjeklnbfpehbeaaDoor

/- 'places', 'Modest' and 'Small' of the law's own side at any expression. Condition: the expression is right, and of fewer than 10^12 places. -/
namespace Go.Proofs.YtjeklnbfpehbeaaDoor
open Go.RowKit

theorem places_calls (r : RE) : WfR r → plc r ≤ 1000000000000 → PC r := by
  have one : ∀ (r q : RE), subsOf q = [r] → PC r → ∀ r', r' ∈ subsOf q → PC r' := fun r q e h r' hr' => by rw [e] at hr'; simp at hr'; subst hr'; exact h
  refine RE.ind (P := fun r => WfR r → plc r ≤ 1000000000000 → PC r) ?_ ?_ ?_ ?_ ?_ ?_ ?_ ?_ ?_ ?_ ?_ ?_ r
  · intro _ _; exact pl_emp
  · intro rs h _; exact pl_lit rs h
  · intro l h _; simp only [WfR] at h; exact pl_class _ (.inl rfl) h.2.1 (by simp [plc, pairsOf])
  · intro _ _; exact pl_class _ (.inr (.inr rfl)) (by simp [pairsOf]) (by simp [plc, pairsOf])
  · intro _ _; exact pl_class _ (.inr (.inl rfl)) (by simp [pairsOf]) (by simp [plc, pairsOf])
  · intro l ih h hp
    simp only [WfR] at h
    simp only [plc, plcs_eq] at hp
    exact pl_node _ (by simp [opOf]) h.1 (fun r hr => ih r hr (WfL_mem h.2 r hr) (Nat.le_trans (le_sum (List.mem_map_of_mem hr)) hp)) ((l.map plc).sum) ((l.map plc).sum) rfl hp hp (fun e => by simp [opOf] at e) (fun e => by simp [opOf] at e) (fun _ _ => rfl) (by simp only [plc, plcs_eq])
  · intro l ih h hp
    simp only [WfR] at h
    simp only [plc, plcs_eq] at hp
    exact pl_node _ (by simp [opOf]) h.2.1 (fun r hr => ih r hr (WfL_mem h.2.2 r hr) (Nat.le_trans (le_sum (List.mem_map_of_mem hr)) hp)) ((l.map plc).sum) ((l.map plc).sum) rfl hp hp (fun e => by simp [opOf] at e) (fun e => by simp [opOf] at e) (fun _ _ => rfl) (by simp only [plc, plcs_eq])
  · intro r ih h hp
    simp only [WfR, plc] at h hp
    exact pl_node _ (by simp [opOf]) (by simp [subsOf]) (one r _ rfl (ih h hp)) (plc r) (plc r) (by simp [subsOf]) hp hp (fun e => by simp [opOf] at e) (fun e => by simp [opOf] at e) (fun _ _ => rfl) (by simp only [plc])
  · intro r ih h hp
    simp only [WfR, plc] at h hp
    exact pl_node _ (by simp [opOf]) (by simp [subsOf]) (one r _ rfl (ih h (by omega))) (plc r) (plc r * 2) (by simp [subsOf]) (by omega) hp (fun _ => rfl) (fun e => by simp [opOf] at e) (fun e => absurd rfl e) (by simp only [plc])
  · intro r ih h hp
    simp only [WfR, plc] at h hp
    exact pl_node _ (by simp [opOf]) (by simp [subsOf]) (one r _ rfl (ih h hp)) (plc r) (plc r) (by simp [subsOf]) hp hp (fun e => by simp [opOf] at e) (fun e => by simp [opOf] at e) (fun _ _ => rfl) (by simp only [plc])
  · intro mn mx r ih h hp
    simp only [WfR] at h
    cases mx with
    | none =>
      simp only [plc] at hp
      have h1 : plc r ≤ 1000000000000 := Nat.le_trans (Nat.le_mul_of_pos_right _ (by omega)) hp
      refine pl_node _ (by simp [opOf]) (by simp [subsOf]) (one r _ rfl (ih h.2.2 h1)) (plc r) (plc r * (mn + 1)) (by simp [subsOf]) h1 hp (fun e => by simp [opOf] at e) (fun _ a b hab => ?_) (fun _ e => absurd rfl e) (by simp only [plc])
      obtain ⟨rfl, rfl⟩ := hab
      have hm := h.1
      refine ⟨?_, by omega, by omega, by simp [maxOf], by simp [maxOf]⟩
      have e1 : max (mn : Int) (maxOf none) = (mn : Int) := by simp only [maxOf]; omega
      rw [e1]
      simp
    | some mx =>
      simp only [plc] at hp
      have h1 : plc r ≤ 1000000000000 := Nat.le_trans (Nat.le_mul_of_pos_right _ (by omega)) hp
      have hm := h.2.1 mx rfl
      refine pl_node _ (by simp [opOf]) (by simp [subsOf]) (one r _ rfl (ih h.2.2 h1)) (plc r) (plc r * (max mn mx + 1)) (by simp [subsOf]) h1 hp (fun e => by simp [opOf] at e) (fun _ a b hab => ?_) (fun _ e => absurd rfl e) (by simp only [plc])
      obtain ⟨rfl, rfl⟩ := hab
      have hmn := h.1
      refine ⟨?_, by omega, by omega, by simp only [maxOf]; omega, by simp only [maxOf]; omega⟩
      have e1 : max (mn : Int) (maxOf (some mx)) = ((max mn mx : Nat) : Int) := by simp only [maxOf]; omega
      rw [e1]
      simp
  · intro r ih h hp
    simp only [WfR, plc] at h hp
    exact pl_node _ (by simp [opOf]) (by simp [subsOf]) (one r _ rfl (ih h hp)) (plc r) (plc r) (by simp [subsOf]) hp hp (fun e => by simp [opOf] at e) (fun e => by simp [opOf] at e) (fun _ _ => rfl) (by simp only [plc])

set_option maxRecDepth 100000 in
set_option maxHeartbeats 1000000 in
theorem small_calls {w : World} {r : RE} {v : Value} (h : ReAt w r v) (hwf : WfR r) (hp : plc r ≤ 1000000000000) : Calls Tryd.prog 21 #[v] w fun e w' => e = .returned (.bool (decide (plc r ≤ 5))) ∧ Fr (fun _ => False) w w' := by
  obtain ⟨uA, un, uc, um, ux, vA, vn, vc, hve⟩ := h.form
  subst hve
  have hF1 : Fr (fun _ => False) w (w.alloc (.cells #[.int .i64 (opOf r : Int), .slice uA un uc, .int .i64 um, .int .i64 ux, .bool false, .bool false, .slice vA vn vc] 25)) := (Fr.refl _ w).alloc _
  have hc := places_calls r hwf hp _ _ (h.fr hF1 (fun _ _ _ _ _ h => h))
  have HF := Lib.hid hF1
  clear h hF1
  go_enter Tryd.func21, Tryd.ntmps21
  go_wp2_with fail
  refine hc.mono ?_
  rintro e w1 ⟨rfl, hf⟩
  go_wp2_with fail
  go_ret
  exact ⟨congrArg (fun b => Ending.returned (Value.bool b)) (show decide ((plc r : Int) ≤ 5) = decide (plc r ≤ 5) from decide_eq_decide.2 (by omega)), HF.out.trans hf (fun _ _ h => h)⟩
set_option maxRecDepth 100000 in
set_option maxHeartbeats 1000000 in
theorem modest_calls {w : World} {r : RE} {v : Value} (h : ReAt w r v) (hwf : WfR r) (hp : plc r ≤ 1000000000000) : Calls Tryd.prog 8 #[v, .int .i64 1] w fun e w' => e = .returned (.bool (decide (plc r ≤ 160))) ∧ Fr (fun _ => False) w w' := by
  obtain ⟨uA, un, uc, um, ux, vA, vn, vc, hve⟩ := h.form
  subst hve
  have hF1 : Fr (fun _ => False) w (w.alloc (.cells #[.int .i64 (opOf r : Int), .slice uA un uc, .int .i64 um, .int .i64 ux, .bool false, .bool false, .slice vA vn vc] 25)) := (Fr.refl _ w).alloc _
  have hc := places_calls r hwf hp _ _ (h.fr hF1 (fun _ _ _ _ _ h => h))
  have HF := Lib.hid hF1
  clear h hF1
  have e2 : IntKind.i64.wrap (plc r : Int) = (plc r : Int) := IntWalk.i64_in _ (by omega)
  go_enter Tryd.func8, Tryd.ntmps8
  go_wp2_with fail
  refine hc.mono ?_
  rintro e w1 ⟨rfl, hf⟩
  go_wp2_with fail
  go_ret
  exact ⟨congrArg (fun b => Ending.returned (Value.bool b)) (show decide ((plc r : Int) ≤ 160) = decide (plc r ≤ 160) from decide_eq_decide.2 (by omega)), HF.out.trans hf (fun _ _ h => h)⟩
end Go.Proofs.YtjeklnbfpehbeaaDoor

/- 'at' of the law's own side, walked: it answers some number below n. Condition: n is from 1 to 100. -/
namespace Go.Proofs.YtjeklnbfpehbeaaDoor
open Go.RowKit

theorem at_calls (w : World) (x : Int) {n : Nat} (h0 : 1 ≤ n) (h1 : n ≤ 100) : Calls Tryd.prog 13 #[.int .i64 x, .int .i64 (n : Int)] w fun e w' => ∃ k : Nat, k < n ∧ e = .returned (.int .i64 (k : Int)) ∧ w = w' := by
  have e1 : IntKind.u64.wrap (n : Int) = (n : Int) := IntWalk.u64_in _ (by omega)
  have e2 : ¬ ((n : Int) = 0) := by omega
  obtain ⟨y, hy⟩ : ∃ y : Nat, IntKind.u64.wrap x = (y : Int) := by
    have : 0 ≤ IntKind.u64.wrap x := by rw [IntKind.wrap_u64]; omega
    exact ⟨(IntKind.u64.wrap x).toNat, by omega⟩
  go_enter Tryd.func13, Tryd.ntmps13
  go_wp2_with fail
  go_ret
  have hyn : (y : Int) % (n : Int) = ((y % n : Nat) : Int) := by simp
  have hlt : y % n < n := Nat.mod_lt _ h0
  exact ⟨y % n, hlt, (show Ending.returned (Value.int .i64 (wrap64 ((y : Int) % (n : Int)))) = _ by rw [hyn, IntWalk.wrap64_in _ (by omega)]), rfl⟩

def few : List Nat := [97, 98, 99, 100, 10, 233, 2047, 2048, 65535, 65536, 1114111, 55295]
theorem few_ok : ∀ r, r ∈ few → okRune r := by
  intro r hr
  simp only [few, List.mem_cons, List.not_mem_nil, or_false] at hr
  unfold okRune
  omega

set_option maxRecDepth 100000 in
set_option maxHeartbeats 4000000 in
/-- 'letter' answers some rune that has bytes. -/
theorem letter_calls (w : World) (x : Int) : Calls Tryd.prog 14 #[.int .i32 x] w fun e w' => ∃ r : Nat, okRune r ∧ e = .returned (.int .i32 (r : Int)) ∧ Fr (fun _ => False) w w' := by
  have hv := fun W => valid_spec W x
  by_cases h1 : 32 ≤ x ∧ x < 127
  · obtain ⟨h1, h2⟩ := h1
    go_enter Tryd.func14, Tryd.ntmps14
    go_wp2_with fail
    go_ret
    exact ⟨x.toNat, ⟨by omega, by omega⟩, by rw [show ((x.toNat : Nat) : Int) = x by omega]; rfl, (Fr.refl _ w).alloc _⟩
  by_cases h2 : 127 < x ∧ (0 ≤ x ∧ x ≤ 1114111 ∧ (x < 55296 ∨ 57343 < x))
  · obtain ⟨h2, h3⟩ := h2
    have e1 : (32 : Int) ≤ x := by omega
    have e2 : ¬ (x < 127) := by omega
    have hv2 : ∀ W, Calls Tryd.prog 24 #[.int .i32 x] W fun e w' => e = .returned (.bool true) ∧ W = w' := fun W => by
      have := hv W
      rw [decide_eq_true h3] at this
      exact this
    clear hv h1
    go_enter Tryd.func14, Tryd.ntmps14
    go_wp2_with fail
    refine (hv2 _).mono ?_
    rintro e w1 ⟨rfl, rfl⟩
    go_wp2_with fail
    go_ret
    exact ⟨x.toNat, ⟨by omega, by omega⟩, by rw [show ((x.toNat : Nat) : Int) = x by omega]; rfl, (Fr.refl _ w).alloc _⟩
  obtain ⟨y, hy⟩ : ∃ y : Nat, IntKind.u32.wrap x = (y : Int) := by
    have : 0 ≤ IntKind.u32.wrap x := by rw [IntKind.wrap_u32]; omega
    exact ⟨(IntKind.u32.wrap x).toNat, by omega⟩
  obtain ⟨k, hk⟩ : ∃ k, Hid (k = y % 12) := ⟨_, Lib.hid rfl⟩
  have hk12 : k < 12 := by have := hk.out; omega
  have hz : (y : Int) % 12 = (k : Int) := by rw [hk.out]; simp
  have ez : (k : Int) < 12 := by omega
  obtain ⟨r, hr⟩ : ∃ r, few[k]? = some r := ⟨_, List.getElem?_eq_getElem (by simpa [few] using hk12)⟩
  have hcell : (w.alloc (.cells #[.int .i32 97, .int .i32 98, .int .i32 99, .int .i32 100, .int .i32 10, .int .i32 233, .int .i32 2047, .int .i32 2048, .int .i32 65535, .int .i32 65536, .int .i32 1114111, .int .i32 55295] 52)).cell? ⟨w.heap.size, k, none⟩ = some (.int .i32 (r : Int)) := by
    refine (Blk.new w (few.map fun (n : Nat) => Value.int .i32 (n : Int)) 52).cell k ?_
    rw [List.getElem?_map, hr]
    rfl
  have hok := few_ok r (List.mem_of_getElem? hr)
  clear hr
  by_cases c1 : 32 ≤ x
  · have c2 : ¬ (x < 127) := by omega
    by_cases c3 : 127 < x
    · have hv2 : ∀ W, Calls Tryd.prog 24 #[.int .i32 x] W fun e w' => e = .returned (.bool false) ∧ W = w' := fun W => by
        have := hv W
        rw [decide_eq_false (fun h => h2 ⟨c3, h⟩)] at this
        exact this
      clear hv h1 h2
      go_enter Tryd.func14, Tryd.ntmps14
      go_wp2_with fail
      refine (hv2 _).mono ?_
      rintro e w1 ⟨rfl, rfl⟩
      go_wp2_with fail
      go_ret
      exact ⟨r, hok, rfl, (Fr.refl _ w).alloc _⟩
    · clear hv h1 h2
      go_enter Tryd.func14, Tryd.ntmps14
      go_wp2_with fail
      go_ret
      exact ⟨r, hok, rfl, (Fr.refl _ w).alloc _⟩
  · have c3 : ¬ (127 < x) := by omega
    clear hv h1 h2
    go_enter Tryd.func14, Tryd.ntmps14
    go_wp2_with fail
    go_ret
    exact ⟨r, hok, rfl, (Fr.refl _ w).alloc _⟩
end Go.Proofs.YtjeklnbfpehbeaaDoor

/- 'regexRefused', 'fewBytes' and 'wideTree' of the law's own side, walked. Condition: none but right arguments. -/
namespace Go.Proofs.YtjeklnbfpehbeaaDoor
open Go.RowKit

set_option maxRecDepth 100000 in
set_option maxHeartbeats 1000000 in
theorem refused_calls {w : World} {r : RE} {v : Value} (h : ReAt w r v) (hwf : WfR r) (hp : plc r ≤ 1000000000000) : Calls Tryd.prog 10 #[v, .int .i64 5] w fun e w' => e = .returned (.bool (!decide (plc r ≤ 5))) ∧ Fr (fun _ => False) w w' := by
  obtain ⟨uA, un, uc, um, ux, vA, vn, vc, hve⟩ := h.form
  subst hve
  have hF1 : Fr (fun _ => False) w (w.alloc (.cells #[.int .i64 (opOf r : Int), .slice uA un uc, .int .i64 um, .int .i64 ux, .bool false, .bool false, .slice vA vn vc] 25)) := (Fr.refl _ w).alloc _
  have hc := small_calls (h.fr hF1 (fun _ _ _ _ _ h => h)) hwf hp
  have HF := Lib.hid hF1
  clear h hF1
  go_enter Tryd.func10, Tryd.ntmps10
  go_wp2_with fail
  refine hc.mono ?_
  rintro e w1 ⟨rfl, hf⟩
  go_wp2_with fail
  go_ret
  exact ⟨rfl, HF.out.trans hf (fun _ _ h => h)⟩

set_option maxRecDepth 100000 in
set_option maxHeartbeats 1000000 in
theorem few_calls (w : World) (t : ByteArray) (ht : t.size ≤ 1000000000) : Calls Tryd.prog 7 #[.string t, .int .i64 40] w fun e w' => ∃ s : ByteArray, s.size ≤ 40 ∧ e = .returned (.string s) ∧ w = w' := by
  by_cases h : 40 < t.size
  · have e1 : (40 : Int) < (t.size : Int) := by omega
    go_enter Tryd.func7, Tryd.ntmps7
    go_wp2_with fail
    go_ret
    exact ⟨t.extract 0 40, by rw [ByteArray.size_extract]; omega, rfl, rfl⟩
  · have e1 : (t.size : Int) ≤ 40 := by omega
    go_enter Tryd.func7, Tryd.ntmps7
    go_wp2_with fail
    go_ret
    exact ⟨t, by omega, rfl, rfl⟩

set_option maxRecDepth 100000 in
set_option maxHeartbeats 1000000 in
theorem wide_calls (w : World) (x mn mx : Int) (la fo : Bool) (A B : Option Addr) (n c m d : Nat) (hn : n ≤ 65536) (hm : m ≤ 65536) : Calls Tryd.prog 5 #[.agg #[.int .i64 x, .slice A n c, .int .i64 mn, .int .i64 mx, .bool la, .bool fo, .slice B m d]] w fun e w' => e = .returned (.bool true) ∧ Fr (fun _ => False) w w' := by
  have e1 : (n : Int) ≤ 65536 := by omega
  have e2 : (m : Int) ≤ 65536 := by omega
  go_enter Tryd.func5, Tryd.ntmps5
  go_wp2_with fail
  go_ret
  exact ⟨rfl, (Fr.refl _ w).alloc _⟩
theorem wide_not (w : World) (x mn mx : Int) (la fo : Bool) (A B : Option Addr) (n c m d : Nat) (h : ¬ (n ≤ 65536 ∧ m ≤ 65536)) : Calls Tryd.prog 5 #[.agg #[.int .i64 x, .slice A n c, .int .i64 mn, .int .i64 mx, .bool la, .bool fo, .slice B m d]] w fun e w' => e = .returned (.bool false) ∧ Fr (fun _ => False) w w' := by
  by_cases hn : n ≤ 65536
  · have e1 : (n : Int) ≤ 65536 := by omega
    have e2 : ¬ ((m : Int) ≤ 65536) := by omega
    go_enter Tryd.func5, Tryd.ntmps5
    go_wp2_with fail
    go_ret
    exact ⟨rfl, (Fr.refl _ w).alloc _⟩
  · have e1 : ¬ ((n : Int) ≤ 65536) := by omega
    go_enter Tryd.func5, Tryd.ntmps5
    go_wp2_with fail
    go_ret
    exact ⟨rfl, (Fr.refl _ w).alloc _⟩
end Go.Proofs.YtjeklnbfpehbeaaDoor

/- Which numbers' bytes begin with a text, in plain lists. No condition. -/
namespace Go.Proofs.YtjeklnbfpehbeaaDoor

/-- How many bytes a rune has that begins with a byte. -/
def longN (b : Nat) : Nat := if b < 128 then 1 else if 194 ≤ b ∧ b < 224 then 2 else if 224 ≤ b ∧ b < 240 then 3 else if 240 ≤ b ∧ b < 245 then 4 else 0
def firstN (n : Nat) : Nat := if n = 1 then 128 else if n = 2 then 32 else if n = 3 then 16 else 8
def leastN (n : Nat) : Nat := if n = 1 then 0 else if n = 2 then 128 else if n = 3 then 2048 else 65536
/-- The least and the greatest number, after so many more bytes. -/
def rlo (s : List Nat) (x : Nat) : Nat → Nat
  | 0 => x
  | j + 1 => 64 * rlo s x j + (if j + 1 < s.length then s.getD (j + 1) 0 % 64 else 0)
def rhi (s : List Nat) (x : Nat) : Nat → Nat
  | 0 => x
  | j + 1 => 64 * rhi s x j + (if j + 1 < s.length then s.getD (j + 1) 0 % 64 else 63)
theorem rlo_bnd (s : List Nat) {x : Nat} (hx : x < 128) : ∀ j, rlo s x j < 128 * 64 ^ j
  | 0 => by simpa [rlo] using hx
  | j + 1 => by
    have := rlo_bnd s hx j
    simp only [rlo, Nat.pow_succ]
    split <;> omega
theorem rhi_bnd (s : List Nat) {x : Nat} (hx : x < 128) : ∀ j, rhi s x j < 128 * 64 ^ j
  | 0 => by simpa [rhi] using hx
  | j + 1 => by
    have := rhi_bnd s hx j
    simp only [rhi, Nat.pow_succ]
    split <;> omega

theorem enc_first {c : Nat} (hc : c ≤ 1114111) : ∃ b l, enc c = b :: l ∧ longN b = l.length + 1 ∧ ∀ x, x ∈ l → 128 ≤ x ∧ x ≤ 191 := by
  unfold enc
  by_cases h1 : c < 128
  · rw [if_pos h1]
    exact ⟨c, [], rfl, by simp [longN, h1], by simp⟩
  rw [if_neg h1]
  by_cases h2 : c < 2048
  · rw [if_pos h2]
    refine ⟨_, _, rfl, ?_, ?_⟩
    · unfold longN; rw [if_neg (by omega), if_pos (by omega)]; rfl
    · intro x hx; simp at hx; omega
  rw [if_neg h2]
  by_cases h3 : c < 65536
  · rw [if_pos h3]
    refine ⟨_, _, rfl, ?_, ?_⟩
    · unfold longN; rw [if_neg (by omega), if_neg (by omega), if_pos (by omega)]; rfl
    · intro x hx; simp at hx; omega
  rw [if_neg h3]
  refine ⟨_, _, rfl, ?_, ?_⟩
  · unfold longN; rw [if_neg (by omega), if_neg (by omega), if_neg (by omega), if_pos (by omega)]; rfl
  · intro x hx; simp at hx; omega
theorem dec_long {s : List Nat} {b c : Nat} (hs : s.head? = some b) (hc : c ≤ 1114111) (hp : s <+: enc c) : longN b = (enc c).length ∧ s.length ≤ longN b := by
  obtain ⟨d, l, h1, h2, h3⟩ := enc_first hc
  rw [h1] at hp ⊢
  cases s with
  | nil => simp at hs
  | cons a s =>
    simp at hs
    subst hs
    rw [List.cons_prefix_cons] at hp
    obtain ⟨rfl, hp⟩ := hp
    have := hp.length_le
    simp only [List.length_cons]
    omega
theorem dec_mid {s : List Nat} {c i x : Nat} (hc : c ≤ 1114111) (hp : s <+: enc c) (hi : s[i]? = some x) (h0 : 0 < i) : 128 ≤ x ∧ x ≤ 191 := by
  obtain ⟨d, l, h1, h2, h3⟩ := enc_first hc
  rw [h1] at hp
  obtain ⟨t, ht⟩ := hp
  have : (d :: l)[i]? = some x := by rw [← ht, List.getElem?_append_left (List.getElem?_eq_some_iff.1 hi).1]; exact hi
  cases i with
  | zero => omega
  | succ i => simp at this; exact h3 x (List.mem_of_getElem? this)

set_option maxRecDepth 1000000 in
set_option maxHeartbeats 4000000 in
/-- The bytes of just the numbers from the least to the greatest begin with the text. -/
theorem dec_iff {s : List Nat} {b n : Nat} (hs : s.head? = some b) (hn : longN b = n) (h0 : n ≠ 0) (hl : s.length ≤ n) (hm : ∀ (i x : Nat), s[i]? = some x → 0 < i → 128 ≤ x ∧ x ≤ 191) (c : Nat) (hc : c ≤ 1114111) :
    s <+: enc c ↔ max (rlo s (b % firstN n) (n - 1)) (leastN n) ≤ c ∧ c ≤ min (rhi s (b % firstN n) (n - 1)) 1114111 := by
  have he : ∀ P : Prop, (c < 128 → enc c = [c] → P) → (128 ≤ c → c < 2048 → enc c = [192 + c / 64, 128 + c % 64] → P) → (2048 ≤ c → c < 65536 → enc c = [224 + c / 4096, 128 + c / 64 % 64, 128 + c % 64] → P) → (65536 ≤ c → enc c = [240 + c / 262144, 128 + c / 4096 % 64, 128 + c / 64 % 64, 128 + c % 64] → P) → P := by
    intro P p1 p2 p3 p4
    by_cases h1 : c < 128
    · exact p1 h1 (by simp [enc, h1])
    by_cases h2 : c < 2048
    · exact p2 (by omega) h2 (by simp [enc, h1, h2])
    by_cases h3 : c < 65536
    · exact p3 (by omega) h3 (by simp [enc, h1, h2, h3])
    exact p4 (by omega) (by simp [enc, h1, h2, h3])
  have hb : (n = 1 ∧ b < 128) ∨ (n = 2 ∧ 194 ≤ b ∧ b < 224) ∨ (n = 3 ∧ 224 ≤ b ∧ b < 240) ∨ (n = 4 ∧ 240 ≤ b ∧ b < 245) := by
    subst hn
    unfold longN at h0 ⊢
    repeat' split
    all_goals first | omega | (rename_i a1 a2 a3 a4; simp [a1, a2, a3, a4] at h0)
  clear hn h0
  match s, hs, hl, hm with
  | [a], hs, hl, hm =>
    simp at hs; subst hs
    rcases hb with ⟨rfl, hb⟩ | ⟨rfl, hb, hb'⟩ | ⟨rfl, hb, hb'⟩ | ⟨rfl, hb, hb'⟩
    · have e1 : rlo [a] (a % firstN 1) (1 - 1) = (a % 128) := rfl
      have e2 : rhi [a] (a % firstN 1) (1 - 1) = (a % 128) := rfl
      have e3 : leastN 1 = 0 := rfl
      rw [e1, e2, e3, Nat.max_le, Nat.le_min]
      clear e1 e2 e3 hm
      refine he _ (fun g1 e => ?_) (fun g1 g2 e => ?_) (fun g1 g2 e => ?_) (fun g1 e => ?_) <;> rw [e] <;> clear he e <;> simp only [List.cons_prefix_cons, List.nil_prefix, List.prefix_nil, and_true, reduceCtorEq, and_false, false_iff, List.cons_ne_self] <;> omega
    · have e1 : rlo [a] (a % firstN 2) (2 - 1) = (64 * (a % 32) + 0) := rfl
      have e2 : rhi [a] (a % firstN 2) (2 - 1) = (64 * (a % 32) + 63) := rfl
      have e3 : leastN 2 = 128 := rfl
      rw [e1, e2, e3, Nat.max_le, Nat.le_min]
      clear e1 e2 e3 hm
      refine he _ (fun g1 e => ?_) (fun g1 g2 e => ?_) (fun g1 g2 e => ?_) (fun g1 e => ?_) <;> rw [e] <;> clear he e <;> simp only [List.cons_prefix_cons, List.nil_prefix, List.prefix_nil, and_true, reduceCtorEq, and_false, false_iff, List.cons_ne_self] <;> omega
    · have e1 : rlo [a] (a % firstN 3) (3 - 1) = (64 * (64 * (a % 16) + 0) + 0) := rfl
      have e2 : rhi [a] (a % firstN 3) (3 - 1) = (64 * (64 * (a % 16) + 63) + 63) := rfl
      have e3 : leastN 3 = 2048 := rfl
      rw [e1, e2, e3, Nat.max_le, Nat.le_min]
      clear e1 e2 e3 hm
      refine he _ (fun g1 e => ?_) (fun g1 g2 e => ?_) (fun g1 g2 e => ?_) (fun g1 e => ?_) <;> rw [e] <;> clear he e <;> simp only [List.cons_prefix_cons, List.nil_prefix, List.prefix_nil, and_true, reduceCtorEq, and_false, false_iff, List.cons_ne_self] <;> omega
    · have e1 : rlo [a] (a % firstN 4) (4 - 1) = (64 * (64 * (64 * (a % 8) + 0) + 0) + 0) := rfl
      have e2 : rhi [a] (a % firstN 4) (4 - 1) = (64 * (64 * (64 * (a % 8) + 63) + 63) + 63) := rfl
      have e3 : leastN 4 = 65536 := rfl
      rw [e1, e2, e3, Nat.max_le, Nat.le_min]
      clear e1 e2 e3 hm
      refine he _ (fun g1 e => ?_) (fun g1 g2 e => ?_) (fun g1 g2 e => ?_) (fun g1 e => ?_) <;> rw [e] <;> clear he e <;> simp only [List.cons_prefix_cons, List.nil_prefix, List.prefix_nil, and_true, reduceCtorEq, and_false, false_iff, List.cons_ne_self] <;> omega
  | [a, x], hs, hl, hm =>
    simp at hs; subst hs
    have k1 := hm 1 x rfl (by omega)
    rcases hb with ⟨rfl, hb⟩ | ⟨rfl, hb, hb'⟩ | ⟨rfl, hb, hb'⟩ | ⟨rfl, hb, hb'⟩
    · simp at hl
    · have e1 : rlo [a, x] (a % firstN 2) (2 - 1) = (64 * (a % 32) + x % 64) := rfl
      have e2 : rhi [a, x] (a % firstN 2) (2 - 1) = (64 * (a % 32) + x % 64) := rfl
      have e3 : leastN 2 = 128 := rfl
      rw [e1, e2, e3, Nat.max_le, Nat.le_min]
      clear e1 e2 e3 hm
      refine he _ (fun g1 e => ?_) (fun g1 g2 e => ?_) (fun g1 g2 e => ?_) (fun g1 e => ?_) <;> rw [e] <;> clear he e <;> simp only [List.cons_prefix_cons, List.nil_prefix, List.prefix_nil, and_true, reduceCtorEq, and_false, false_iff, List.cons_ne_self] <;> omega
    · have e1 : rlo [a, x] (a % firstN 3) (3 - 1) = (64 * (64 * (a % 16) + x % 64) + 0) := rfl
      have e2 : rhi [a, x] (a % firstN 3) (3 - 1) = (64 * (64 * (a % 16) + x % 64) + 63) := rfl
      have e3 : leastN 3 = 2048 := rfl
      rw [e1, e2, e3, Nat.max_le, Nat.le_min]
      clear e1 e2 e3 hm
      refine he _ (fun g1 e => ?_) (fun g1 g2 e => ?_) (fun g1 g2 e => ?_) (fun g1 e => ?_) <;> rw [e] <;> clear he e <;> simp only [List.cons_prefix_cons, List.nil_prefix, List.prefix_nil, and_true, reduceCtorEq, and_false, false_iff, List.cons_ne_self] <;> omega
    · have e1 : rlo [a, x] (a % firstN 4) (4 - 1) = (64 * (64 * (64 * (a % 8) + x % 64) + 0) + 0) := rfl
      have e2 : rhi [a, x] (a % firstN 4) (4 - 1) = (64 * (64 * (64 * (a % 8) + x % 64) + 63) + 63) := rfl
      have e3 : leastN 4 = 65536 := rfl
      rw [e1, e2, e3, Nat.max_le, Nat.le_min]
      clear e1 e2 e3 hm
      refine he _ (fun g1 e => ?_) (fun g1 g2 e => ?_) (fun g1 g2 e => ?_) (fun g1 e => ?_) <;> rw [e] <;> clear he e <;> simp only [List.cons_prefix_cons, List.nil_prefix, List.prefix_nil, and_true, reduceCtorEq, and_false, false_iff, List.cons_ne_self] <;> omega
  | [a, x, y], hs, hl, hm =>
    simp at hs; subst hs
    have k1 := hm 1 x rfl (by omega)
    have k2 := hm 2 y rfl (by omega)
    rcases hb with ⟨rfl, hb⟩ | ⟨rfl, hb, hb'⟩ | ⟨rfl, hb, hb'⟩ | ⟨rfl, hb, hb'⟩
    · simp at hl
    · simp at hl
    · have e1 : rlo [a, x, y] (a % firstN 3) (3 - 1) = (64 * (64 * (a % 16) + x % 64) + y % 64) := rfl
      have e2 : rhi [a, x, y] (a % firstN 3) (3 - 1) = (64 * (64 * (a % 16) + x % 64) + y % 64) := rfl
      have e3 : leastN 3 = 2048 := rfl
      rw [e1, e2, e3, Nat.max_le, Nat.le_min]
      clear e1 e2 e3 hm
      refine he _ (fun g1 e => ?_) (fun g1 g2 e => ?_) (fun g1 g2 e => ?_) (fun g1 e => ?_) <;> rw [e] <;> clear he e <;> simp only [List.cons_prefix_cons, List.nil_prefix, List.prefix_nil, and_true, reduceCtorEq, and_false, false_iff, List.cons_ne_self] <;> omega
    · have e1 : rlo [a, x, y] (a % firstN 4) (4 - 1) = (64 * (64 * (64 * (a % 8) + x % 64) + y % 64) + 0) := rfl
      have e2 : rhi [a, x, y] (a % firstN 4) (4 - 1) = (64 * (64 * (64 * (a % 8) + x % 64) + y % 64) + 63) := rfl
      have e3 : leastN 4 = 65536 := rfl
      rw [e1, e2, e3, Nat.max_le, Nat.le_min]
      clear e1 e2 e3 hm
      refine he _ (fun g1 e => ?_) (fun g1 g2 e => ?_) (fun g1 g2 e => ?_) (fun g1 e => ?_) <;> rw [e] <;> clear he e <;> simp only [List.cons_prefix_cons, List.nil_prefix, List.prefix_nil, and_true, reduceCtorEq, and_false, false_iff, List.cons_ne_self] <;> omega
  | [a, x, y, z], hs, hl, hm =>
    simp at hs; subst hs
    have k1 := hm 1 x rfl (by omega)
    have k2 := hm 2 y rfl (by omega)
    have k3 := hm 3 z rfl (by omega)
    rcases hb with ⟨rfl, hb⟩ | ⟨rfl, hb, hb'⟩ | ⟨rfl, hb, hb'⟩ | ⟨rfl, hb, hb'⟩
    · simp at hl
    · simp at hl
    · simp at hl
    · have e1 : rlo [a, x, y, z] (a % firstN 4) (4 - 1) = (64 * (64 * (64 * (a % 8) + x % 64) + y % 64) + z % 64) := rfl
      have e2 : rhi [a, x, y, z] (a % firstN 4) (4 - 1) = (64 * (64 * (64 * (a % 8) + x % 64) + y % 64) + z % 64) := rfl
      have e3 : leastN 4 = 65536 := rfl
      rw [e1, e2, e3, Nat.max_le, Nat.le_min]
      clear e1 e2 e3 hm
      refine he _ (fun g1 e => ?_) (fun g1 g2 e => ?_) (fun g1 g2 e => ?_) (fun g1 e => ?_) <;> rw [e] <;> clear he e <;> simp only [List.cons_prefix_cons, List.nil_prefix, List.prefix_nil, and_true, reduceCtorEq, and_false, false_iff, List.cons_ne_self] <;> omega
  | a :: x :: y :: z :: u :: l, hs, hl, hm =>
    simp at hl
    omega

theorem enc_inj {a b : Nat} (ha : a ≤ 1114111) (hb : b ≤ 1114111) (h : enc a = enc b) : a = b := by
  unfold enc at h
  repeat' split at h
  all_goals simp at h
  all_goals omega
theorem enc_pos {c : Nat} : 1 ≤ (enc c).length := by
  unfold enc
  repeat' split
  all_goals simp
end Go.Proofs.YtjeklnbfpehbeaaDoor

/- The walk of 'runes' of the law's own side: which numbers' bytes could begin with a text. Condition: the text is not empty. -/
namespace Go.Proofs.YtjeklnbfpehbeaaDoor
open Go.RowKit

set_option maxRecDepth 100000 in
set_option maxHeartbeats 1000000 in
theorem long_calls (w : World) (b : Nat) : Calls Tryd.prog 46 #[.int .u8 (b : Int)] w fun e w' => e = .returned (.int .i64 (longN b : Int)) ∧ w = w' := by
  unfold longN
  by_cases h1 : b < 128
  · rw [if_pos h1]
    have e1 : (b : Int) < 128 := by omega
    go_enter Tryd.func46, Tryd.ntmps46
    go_wp2_with fail
    go_ret
    exact ⟨rfl, rfl⟩
  rw [if_neg h1]
  have e1 : ¬ ((b : Int) < 128) := by omega
  by_cases h2 : 194 ≤ b
  · have e2 : (194 : Int) ≤ (b : Int) := by omega
    by_cases h3 : b < 224
    · rw [if_pos ⟨h2, h3⟩]
      have e3 : (b : Int) < 224 := by omega
      go_enter Tryd.func46, Tryd.ntmps46
      go_wp2_with fail
      go_ret
      exact ⟨rfl, rfl⟩
    · rw [if_neg (by omega)]
      have e3 : ¬ ((b : Int) < 224) := by omega
      have e4 : (224 : Int) ≤ (b : Int) := by omega
      by_cases h4 : b < 240
      · rw [if_pos ⟨by omega, h4⟩]
        have e5 : (b : Int) < 240 := by omega
        go_enter Tryd.func46, Tryd.ntmps46
        go_wp2_with fail
        go_ret
        exact ⟨rfl, rfl⟩
      · rw [if_neg (by omega)]
        have e5 : ¬ ((b : Int) < 240) := by omega
        have e6 : (240 : Int) ≤ (b : Int) := by omega
        by_cases h5 : b < 245
        · rw [if_pos ⟨by omega, h5⟩]
          have e7 : (b : Int) < 245 := by omega
          go_enter Tryd.func46, Tryd.ntmps46
          go_wp2_with fail
          go_ret
          exact ⟨rfl, rfl⟩
        · rw [if_neg (by omega)]
          have e7 : ¬ ((b : Int) < 245) := by omega
          go_enter Tryd.func46, Tryd.ntmps46
          go_wp2_with fail
          go_ret
          exact ⟨rfl, rfl⟩
  · rw [if_neg (by omega), if_neg (by omega), if_neg (by omega)]
    have e2 : ¬ ((194 : Int) ≤ (b : Int)) := by omega
    have e4 : ¬ ((224 : Int) ≤ (b : Int)) := by omega
    have e6 : ¬ ((240 : Int) ≤ (b : Int)) := by omega
    go_enter Tryd.func46, Tryd.ntmps46
    go_wp2_with fail
    go_ret
    exact ⟨rfl, rfl⟩
theorem or_i32 {q x : Nat} (hx : x < 64) (h : 64 * q + x < 2147483648) : bits .or .i32 ((64 * q : Nat) : Int) (x : Int) = ((64 * q + x : Nat) : Int) := by
  have h1 : (BitVec.ofInt 32 ((64 * q : Nat) : Int)).toNat = 64 * q := bv_nat (by omega)
  have h2 : (BitVec.ofInt 32 (x : Int)).toNat = x := bv_nat (by omega)
  show IntKind.i32.wrap (((BitVec.ofInt 32 ((64 * q : Nat) : Int)) ||| (BitVec.ofInt 32 (x : Int))).toNat : Int) = _
  rw [BitVec.toNat_or, h1, h2, show 64 * q = 2 ^ 6 * q from rfl, ← Nat.two_pow_add_eq_or_of_lt (by simpa using hx)]
  exact i32_wrap h
theorem and_u8m {x j : Nat} (hx : x < 256) (hj : j ≤ 8) : bits .and .u8 (x : Int) ((2 ^ j - 1 : Nat) : Int) = ((x % 2 ^ j : Nat) : Int) := by
  have hp : 2 ^ j ≤ 2 ^ 8 := Nat.pow_le_pow_right (by decide) hj
  have h1 : (BitVec.ofInt 8 (x : Int)).toNat = x := bv_nat (by omega)
  have h2 : (BitVec.ofInt 8 ((2 ^ j - 1 : Nat) : Int)).toNat = 2 ^ j - 1 := bv_nat (by omega)
  show IntKind.u8.wrap (((BitVec.ofInt 8 (x : Int)) &&& (BitVec.ofInt 8 ((2 ^ j - 1 : Nat) : Int))).toNat : Int) = _
  rw [BitVec.toNat_and, h1, h2, Nat.and_two_pow_sub_one_eq_mod]
  have : x % 2 ^ j ≤ x := Nat.mod_le _ _
  exact u8_wrap (by omega)

/-- What 'runes' answers. -/
def RnPost (w : World) (s : List Nat) (e : Ending) (w' : World) : Prop :=
  ∃ (a b : Nat) (ok : Bool), e = .returned (.tuple #[.int .i32 (a : Int), .int .i32 (b : Int), .bool ok]) ∧ (ok = true → b ≤ 1114111) ∧ (∀ c, c ≤ 1114111 → (s <+: enc c ↔ ok = true ∧ a ≤ c ∧ c ≤ b)) ∧ Fr (fun _ => False) w w'

set_option maxRecDepth 100000 in
set_option maxHeartbeats 4000000 in
theorem runes_calls (w : World) (t : ByteArray) (h0 : 0 < t.size) (hlen : t.size ≤ 1000000) : Calls Tryd.prog 47 #[.string t] w fun e w' => RnPost w (bytesOf t) e w' := by
  have hsl : (bytesOf t).length = t.size := by simp [bytesOf]
  have hby : ∀ b, b ∈ bytesOf t → b < 256 := by
    intro b hb
    simp only [bytesOf, List.mem_map] at hb
    obtain ⟨x, -, rfl⟩ := hb
    exact x.toNat_lt
  obtain ⟨b, hb⟩ : ∃ b, (bytesOf t)[0]? = some b := ⟨_, List.getElem?_eq_getElem (by omega)⟩
  have hb256 := hby b (List.mem_of_getElem? hb)
  have hidx : ∀ W, (Instr.index 9 (.string t) (.int .i64 0)).run Tryd.prog W = .ok (.int .u8 (b : Int)) W := path_index t 0 b hb
  have hhd : (bytesOf t).head? = some b := by rw [List.head?_eq_getElem?]; exact hb
  obtain ⟨n, hn⟩ : ∃ n, Hid (n = longN b) := ⟨_, Lib.hid rfl⟩
  have hl1 := long_calls w b
  rw [← hn.out] at hl1
  have hn4 : n ≤ 4 := by rw [hn.out]; unfold longN; (repeat' split) <;> omega
  have HH := Lib.hid (And.intro hsl (And.intro hby hhd))
  clear hsl hby hhd hb
  go_enter Tryd.func47, Tryd.ntmps47
  go_wp2_with fail
  refine hl1.mono ?_
  rintro e w1 ⟨rfl, rfl⟩
  by_cases c0 : n = 0
  · subst c0
    go_wp2_with fail
    go_ret3
    exact ⟨0, 0, false, rfl, by simp, fun c hc => ⟨fun hp => by have := dec_long HH.out.2.2 hc hp; have := enc_pos (c := c); have := hn.out; omega, fun h => by simp at h⟩, Fr.refl _ w⟩
  have c0' : ¬ ((n : Int) = 0) := by omega
  by_cases c1 : n < t.size
  · have c1' : (n : Int) < (t.size : Int) := by omega
    go_wp2_with fail
    go_ret3
    exact ⟨0, 0, false, rfl, by simp, fun c hc => ⟨fun hp => by have := dec_long HH.out.2.2 hc hp; have := HH.out.1; have := hn.out; omega, fun h => by simp at h⟩, Fr.refl _ w⟩
  have c1' : ¬ ((n : Int) < (t.size : Int)) := by omega
  go_wp2_with fail
  have hM : ∃ m : Nat, Hid (n ≠ 0 ∧ firstN n = m + 1) ∧ ((w.alloc (.cells #[.int .i32 0, .int .i32 0, .int .i32 128, .int .i32 2048, .int .i32 65536] 148)).alloc (.cells #[.int .u8 0, .int .u8 127, .int .u8 31, .int .u8 15, .int .u8 7] 149)).cell? ⟨w.heap.size + 1, n, none⟩ = some (.int .u8 (m : Int)) ∧ bits .and .u8 (b : Int) (m : Int) = ((b % firstN n : Nat) : Int) := by
    have hB := Blk.new (w.alloc (.cells #[.int .i32 0, .int .i32 0, .int .i32 128, .int .i32 2048, .int .i32 65536] 148)) [.int .u8 0, .int .u8 127, .int .u8 31, .int .u8 15, .int .u8 7] 149
    rw [show (w.alloc (.cells #[.int .i32 0, .int .i32 0, .int .i32 128, .int .i32 2048, .int .i32 65536] 148)).heap.size = w.heap.size + 1 by simp] at hB
    have h4 : n = 1 ∨ n = 2 ∨ n = 3 ∨ n = 4 := by omega
    rcases h4 with rfl | rfl | rfl | rfl
    · exact ⟨127, Lib.hid (by decide), hB.cell 1 rfl, and_u8m (j := 7) hb256 (by decide)⟩
    · exact ⟨31, Lib.hid (by decide), hB.cell 2 rfl, and_u8m (j := 5) hb256 (by decide)⟩
    · exact ⟨15, Lib.hid (by decide), hB.cell 3 rfl, and_u8m (j := 4) hb256 (by decide)⟩
    · exact ⟨7, Lib.hid (by decide), hB.cell 4 rfl, and_u8m (j := 3) hb256 (by decide)⟩
  have hQ : ∃ q : Nat, Hid (leastN n = q) ∧ ((w.alloc (.cells #[.int .i32 0, .int .i32 0, .int .i32 128, .int .i32 2048, .int .i32 65536] 148)).alloc (.cells #[.int .u8 0, .int .u8 127, .int .u8 31, .int .u8 15, .int .u8 7] 149)).cell? ⟨w.heap.size, n, none⟩ = some (.int .i32 (q : Int)) := by
    have hB := (Blk.new w [.int .i32 0, .int .i32 0, .int .i32 128, .int .i32 2048, .int .i32 65536] 148).alloc (.cells #[.int .u8 0, .int .u8 127, .int .u8 31, .int .u8 15, .int .u8 7] 149)
    have h4 : n = 1 ∨ n = 2 ∨ n = 3 ∨ n = 4 := by omega
    rcases h4 with rfl | rfl | rfl | rfl
    · exact ⟨0, Lib.hid rfl, hB.cell 1 rfl⟩
    · exact ⟨128, Lib.hid rfl, hB.cell 2 rfl⟩
    · exact ⟨2048, Lib.hid rfl, hB.cell 3 rfl⟩
    · exact ⟨65536, Lib.hid rfl, hB.cell 4 rfl⟩
  obtain ⟨m, hm, hmc, hand⟩ := hM
  obtain ⟨q, hq, hqc⟩ := hQ
  have hF1 : Hid (Fr (fun _ => False) w ((w.alloc (.cells #[.int .i32 0, .int .i32 0, .int .i32 128, .int .i32 2048, .int .i32 65536] 148)).alloc (.cells #[.int .u8 0, .int .u8 127, .int .u8 31, .int .u8 15, .int .u8 7] 149)).drew) := Lib.hid (((Fr.refl _ w).alloc _).alloc _).drew
  have hmc' : ((w.alloc (.cells #[.int .i32 0, .int .i32 0, .int .i32 128, .int .i32 2048, .int .i32 65536] 148)).alloc (.cells #[.int .u8 0, .int .u8 127, .int .u8 31, .int .u8 15, .int .u8 7] 149)).drew.cell? ⟨w.heap.size + 1, n, none⟩ = some (.int .u8 (m : Int)) := hmc
  have hqc' : ((w.alloc (.cells #[.int .i32 0, .int .i32 0, .int .i32 128, .int .i32 2048, .int .i32 65536] 148)).alloc (.cells #[.int .u8 0, .int .u8 127, .int .u8 31, .int .u8 15, .int .u8 7] 149)).drew.cell? ⟨w.heap.size, n, none⟩ = some (.int .i32 (q : Int)) := hqc
  have n5 : (n : Int) < 5 := by omega
  have hx0 : b % firstN n < 128 := by
    have : firstN n ≤ 128 := by unfold firstN; (repeat' split) <;> omega
    have := Nat.mod_lt b (show 0 < firstN n by unfold firstN; (repeat' split) <;> omega)
    omega
  obtain ⟨x, hx⟩ : ∃ x, Hid (x = b % firstN n) := ⟨_, Lib.hid rfl⟩
  rw [← hx.out] at hand hx0
  refine wp_region_seqV (fun w' => w'.cell? ⟨w.heap.size + 1, n, none⟩ = some (.int .u8 (m : Int))) (fun i => true) (fun i => ![4].contains i) (fun i => false) [0, 1, 2, 3, 4, 5, 6, 7] (by kernel_rfl) (by kernel_rfl) (fun c a d v w h => by cases d <;> exact h) hmc' ?_
  iterate 4 (apply seqV_pure (ho := rfl) (hr := rfl) (hg := rfl); (intro w'; go_simp; rfl))
  (apply seqV_read (ho := rfl) (hr := rfl) (hp := rfl) (hg := rfl); (intro w' q1; go_simp; rfl))
  iterate 3 (apply seqV_pure (ho := rfl) (hr := rfl) (hg := rfl); (intro w'; go_simp; rfl))
  unfold seqV
  clear hmc hqc hmc' hl1
  generalize ((w.alloc (.cells #[.int .i32 0, .int .i32 0, .int .i32 128, .int .i32 2048, .int .i32 65536] 148)).alloc (.cells #[.int .u8 0, .int .u8 127, .int .u8 31, .int .u8 15, .int .u8 7] 149)).drew = W1 at *
  go_wp2_with fail
  go_loopg [8, 9, 10] n (fun g lo hi i wr => ∃ j L H : Nat, j + 1 ≤ n ∧ g = n - j ∧ i = .int .i64 ((j + 1 : Nat) : Int) ∧ lo = .int .i32 (L : Int) ∧ hi = .int .i32 (H : Int) ∧ Hid (L = rlo (bytesOf t) x j ∧ H = rhi (bytesOf t) x j ∧ ∀ (i y : Nat), (bytesOf t)[i]? = some y → 0 < i → i ≤ j → 128 ≤ y ∧ y ≤ 191) ∧ wr = W1)
  case atStart => exact ⟨0, x, x, by omega, rfl, rfl, rfl, rfl, Lib.hid ⟨rfl, rfl, fun i y _ h1 h2 => by omega⟩, rfl⟩
  case round =>
    obtain ⟨j, L, H, hj, rfl, rfl, rfl, rfl, hd, rfl⟩ := hrel
    have hLb : L < 128 * 64 ^ j := by rw [hd.out.1]; exact rlo_bnd _ hx0 j
    have hHb : H < 128 * 64 ^ j := by rw [hd.out.2.1]; exact rhi_bnd _ hx0 j
    have hj3 : 128 * 64 ^ j ≤ 33554432 := by
      have : (64 : Nat) ^ j ≤ 64 ^ 3 := Nat.pow_le_pow_right (by decide) (by omega)
      omega
    by_cases hlt : j + 1 < n
    · have hj2 : 128 * 64 ^ j ≤ 524288 := by
        have : (64 : Nat) ^ j ≤ 64 ^ 2 := Nat.pow_le_pow_right (by decide) (by omega)
        omega
      have e1 : ((j + 1 : Nat) : Int) < (n : Int) := by omega
      have eL : (L : Int) * 64 = ((64 * L : Nat) : Int) := by omega
      have eH : (H : Int) * 64 = ((64 * H : Nat) : Int) := by omega
      have L64 : L < 524288 := by omega
      have H64 : H < 524288 := by omega
      clear hLb hHb hj3 hj2
      by_cases hs : j + 1 < t.size
      · have e2 : ((j + 1 : Nat) : Int) < (t.size : Int) := by omega
        obtain ⟨y, hy⟩ : ∃ y, (bytesOf t)[j + 1]? = some y := ⟨_, List.getElem?_eq_getElem (by rw [HH.out.1]; exact hs)⟩
        have hy256 := HH.out.2.1 y (List.mem_of_getElem? hy)
        have hyt : (t[j + 1]'hs).toNat = y := by
          have h := hy
          simp only [bytesOf, List.getElem?_map] at h
          rw [List.getElem?_eq_getElem (by simpa using hs)] at h
          simp at h
          rw [← h]
          rfl
        have HY := Lib.hid hy
        clear hy
        have ey : IntKind.u8.wrap (y : Int) = (y : Int) := u8_wrap hy256
        by_cases c2 : y < 128
        · have e3 : (y : Int) < 128 := by omega
          go_wp2_with fail
          go_ret3
          exact ⟨0, 0, false, rfl, by simp, fun c hc => ⟨fun hp => by have := dec_mid hc hp HY.out (by omega); omega, fun h => by simp at h⟩, hF1.out⟩
        have e3 : ¬ ((y : Int) < 128) := by omega
        by_cases c3 : 191 < y
        · have e4 : (191 : Int) < (y : Int) := by omega
          go_wp2_with fail
          go_ret3
          exact ⟨0, 0, false, rfl, by simp, fun c hc => ⟨fun hp => by have := dec_mid hc hp HY.out (by omega); omega, fun h => by simp at h⟩, hF1.out⟩
        have e4 : ¬ ((191 : Int) < (y : Int)) := by omega
        obtain ⟨z, hz⟩ : ∃ z, Hid (z = y % 64) := ⟨_, Lib.hid rfl⟩
        have ez : (y : Int) % 64 = (z : Int) := by rw [hz.out]; simp
        have hz64 : z < 64 := by have := hz.out; omega
        go_wp2_with fail
        go_roundg (n - (j + 1))
        case measure => omega
        case rel =>
          refine ⟨j + 1, 64 * L + z, 64 * H + z, by omega, rfl, by simp, by simp, by simp, Lib.hid ⟨?_, ?_, fun i y' hi h1 h2 => ?_⟩, rfl⟩
          · have h := hd.out.1
            simp only [rlo]
            rw [if_pos (by rw [HH.out.1]; omega), ← h, List.getD_eq_getElem?_getD, HY.out, hz.out]
            rfl
          · have h := hd.out.2.1
            simp only [rhi]
            rw [if_pos (by rw [HH.out.1]; omega), ← h, List.getD_eq_getElem?_getD, HY.out, hz.out]
            rfl
          · by_cases e : i = j + 1
            · subst e
              rw [HY.out] at hi
              injection hi with hi
              omega
            · exact hd.out.2.2 i y' hi h1 (by omega)
      · have e2 : ¬ (((j + 1 : Nat) : Int) < (t.size : Int)) := by omega
        go_wp2_with fail
        go_roundg (n - (j + 1))
        case measure => omega
        case rel =>
          refine ⟨j + 1, 64 * L, 64 * H + 63, by omega, rfl, by simp, by simp, by simp, Lib.hid ⟨?_, ?_, fun i y' hi h1 h2 => ?_⟩, rfl⟩
          · have h := hd.out.1
            simp only [rlo]
            rw [if_neg (by rw [HH.out.1]; omega), ← h]
            rfl
          · have h := hd.out.2.1
            simp only [rhi]
            rw [if_neg (by rw [HH.out.1]; omega), ← h]
          · have := (List.getElem?_eq_some_iff.1 hi).1
            exact hd.out.2.2 i y' hi h1 (by rw [HH.out.1] at this; omega)
    · have e1 : ¬ (((j + 1 : Nat) : Int) < (n : Int)) := by omega
      have fin : Hid (∀ (a b : Nat) (ok : Bool), (ok = true ↔ a ≤ b) → a = max L q → b = min H 1114111 → RnPost w (bytesOf t) (.returned (.tuple #[.int .i32 (a : Int), .int .i32 (b : Int), .bool ok])) wr) := Lib.hid (fun a b ok hok ha hb => by
        refine ⟨a, b, ok, rfl, fun _ => by omega, fun c hc => ?_, hF1.out⟩
        have key := dec_iff HH.out.2.2 hn.out.symm c0 (by rw [HH.out.1]; omega) (fun i y hi h1 => hd.out.2.2 i y hi h1 (by have := (List.getElem?_eq_some_iff.1 hi).1; rw [HH.out.1] at this; omega)) c hc
        rw [show n - 1 = j by omega, ← hx.out, ← hd.out.1, ← hd.out.2.1, hq.out, ← ha, ← hb] at key
        rw [key, hok]
        omega)
      clear hLb hHb hj3
      go_wp2_with fail
      all_goals go_ret3
      · exact fin.out q 1114111 _ (by simp; omega) (by omega) (by omega)
      · exact fin.out q H _ (by simp) (by omega) (by omega)
      · exact fin.out L 1114111 _ (by simp; omega) (by omega) (by omega)
      · exact fin.out L H _ (by simp) (by omega) (by omega)
end Go.Proofs.YtjeklnbfpehbeaaDoor
