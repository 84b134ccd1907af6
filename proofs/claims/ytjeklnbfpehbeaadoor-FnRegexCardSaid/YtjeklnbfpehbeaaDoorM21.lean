/- The walk of 'Reached' of the law's own side at chains, choices and captures. Condition: the expression is right, the text at most 40 bytes. The walk of 'Times', 'repeated' and 'Reached' of the law's own side at repetitions, and 'Reached' at any expression. Condition: the expression is right, the text at most 40 bytes. 'Reached' of the law's own side at any expression. Condition: the expression is right, the text at most 40 bytes. -/
import Derived.Test.YtjeklnbfpehbeaaDoorM19
set_option linter.unusedVariables false
/- The walk of 'Reached' of the law's own side at chains, choices and captures. Condition: the expression is right, the text at most 40 bytes. -/
namespace Go.Proofs.YtjeklnbfpehbeaaDoor
open Go.RowKit

theorem on_zip {A B : List Bool} (h : A.length = B.length) (j : Nat) : On (zipOr A B) j ↔ On A j ∨ On B j := by
  unfold On
  by_cases hj : j < A.length
  · obtain ⟨a, ha⟩ : ∃ a, A[j]? = some a := ⟨_, List.getElem?_eq_getElem hj⟩
    obtain ⟨b, hb⟩ : ∃ b, B[j]? = some b := ⟨_, List.getElem?_eq_getElem (by omega)⟩
    rw [zipOr_get ha hb, ha, hb]
    simp
  · rw [List.getElem?_eq_none (by rw [zipOr_len h]; omega), List.getElem?_eq_none (by omega), List.getElem?_eq_none (by omega)]
    simp
/-- What a node's parts are in memory. -/
structure KidsR (w : World) (r : RE) (vA : Option Addr) (xs : Nat → List Value) : Prop where
  cells : ∀ i, i < (subsOf r).length → ∃ b o cs, vA = some ⟨b, o, none⟩ ∧ Blk w b cs 25 ∧ (xs i).length = 7 ∧ ∀ j x, (xs i)[j]? = some x → w.cell? ⟨b, o + 7 * i + j, none⟩ = some x
  at' : ∀ i r', (subsOf r)[i]? = some r' → ReAt w r' (.agg (xs i).toArray)
theorem KidsR.get {w w' : World} {r r' : RE} {vA : Option Addr} {xs : Nat → List Value} (h : KidsR w r vA xs) {F : Nat → Prop} (hF : Fr F w w') (hF0 : ∀ k, k < w.heap.size → ¬ F k) {k : Nat} (hk : (subsOf r)[k]? = some r') :
    ∃ b o x0 x1 x2 x3 x4 x5 x6, vA = some ⟨b, o, none⟩ ∧ ReAt w' r' (.agg #[x0, x1, x2, x3, x4, x5, x6]) ∧ w'.cell? ⟨b, o + k * 7, none⟩ = some x0 ∧ w'.cell? ⟨b, o + k * 7 + 1, none⟩ = some x1 ∧ w'.cell? ⟨b, o + k * 7 + 2, none⟩ = some x2 ∧ w'.cell? ⟨b, o + k * 7 + 3, none⟩ = some x3 ∧ w'.cell? ⟨b, o + k * 7 + 4, none⟩ = some x4 ∧ w'.cell? ⟨b, o + k * 7 + 5, none⟩ = some x5 ∧ w'.cell? ⟨b, o + k * 7 + 6, none⟩ = some x6 := by
  obtain ⟨b, o, cs, h1, h2, h3, h4⟩ := h.cells k (List.getElem?_eq_some_iff.1 hk).1
  have h5 := h.at' k r' hk
  obtain ⟨x0, x1, x2, x3, x4, x5, x6, hxs⟩ : ∃ x0 x1 x2 x3 x4 x5 x6, xs k = [x0, x1, x2, x3, x4, x5, x6] := by
    match hq : xs k, h3 with
    | [x0, x1, x2, x3, x4, x5, x6], _ => exact ⟨x0, x1, x2, x3, x4, x5, x6, rfl⟩
  rw [hxs] at h4 h5
  rw [Nat.mul_comm 7 k] at h4
  have hb : b < w.heap.size := h2.lt
  have t : ∀ j x, [x0, x1, x2, x3, x4, x5, x6][j]? = some x → w'.cell? ⟨b, o + k * 7 + j, none⟩ = some x := fun j x hj => hF.cell (h4 j x hj) (hF0 b hb)
  exact ⟨b, o, x0, x1, x2, x3, x4, x5, x6, h1, h5.fr hF (fun k cs t hk ht => hF0 k hk.lt), t 0 _ rfl, t 1 _ rfl, t 2 _ rfl, t 3 _ rfl, t 4 _ rfl, t 5 _ rfl, t 6 _ rfl⟩

set_option maxRecDepth 100000 in
set_option maxHeartbeats 4000000 in
theorem rc_cat (l : List RE) (hln : l.length ≤ 1000) (ih : ∀ r, r ∈ l → RC r) : RC (.cat l) := by
  intro w v fv t A hv hA hl ht
  obtain @⟨_, vA, vc, rv, um, ux, xs, hru, hr0, hm, hx, hs⟩ := hv
  obtain ⟨uA, uc, hrv, -⟩ := id hru
  obtain ⟨un, hun⟩ : ∃ z, Hid (z = (runesOf (.cat l)).length) := ⟨_, Lib.hid rfl⟩
  rw [← hun.out] at hrv
  subst hrv
  have HKd : Hid (KidsR w (.cat l) vA xs) := Lib.hid ⟨hx, hs⟩
  clear hru hr0 hm hx hs
  have hA0 := hA
  obtain ⟨b1, o1, c1, cs1, rfl, hcA, hbA, hcellA⟩ := hA0
  rw [hl] at hA ⊢
  have HA := Lib.hid (And.intro hA (And.intro hbA (And.intro hcellA hl)))
  have hmk : ∀ X : World, (Instr.makeSlice 30 (.int .i64 ((t.size : Int) + 1)) (.int .i64 ((t.size : Int) + 1))).run Tryd.prog X = .ok (.slice (some ⟨X.heap.size, 0, none⟩) (t.size + 1) (t.size + 1)) (X.alloc (.cells ((List.replicate (t.size + 1) false).map Value.bool).toArray 4)) := fun X => run_mk_bool (t.size + 1) (by omega) X
  generalize hC : ((List.replicate (t.size + 1) false).map Value.bool).toArray = C at hmk
  have HC := Lib.hid hC
  clear hC hA hbA hcellA hcA hl
  simp only [opOf]
  obtain ⟨vn, hvn⟩ : ∃ z, Hid (z = (subsOf (.cat l)).length) := ⟨_, Lib.hid rfl⟩
  rw [← hvn.out]
  have hvl : vn ≤ 1000 := by rw [hvn.out]; exact hln
  have hF2 : Fr (fun _ => False) w ((w.alloc (.cells #[.int .i64 18, .slice uA un uc, .int .i64 um, .int .i64 ux, .bool false, .bool false, .slice vA vn vc] 25)).alloc (.cells C 4)) := ((Fr.refl _ w).alloc _).alloc _
  have hB0 : Blk ((w.alloc (.cells #[.int .i64 18, .slice uA un uc, .int .i64 um, .int .i64 ux, .bool false, .bool false, .slice vA vn vc] 25)).alloc (.cells C 4)) w.heap.size [.int .i64 18, .slice uA un uc, .int .i64 um, .int .i64 ux, .bool false, .bool false, .slice vA vn vc] 25 := (Blk.new w [_, _, _, _, _, _, _] 25).alloc _
  have hO : NewSet ((w.alloc (.cells #[.int .i64 18, .slice uA un uc, .int .i64 um, .int .i64 ux, .bool false, .bool false, .slice vA vn vc] 25)).alloc (.cells C 4)) w.heap.size (w.heap.size + 1) (t.size + 1) (List.replicate (t.size + 1) false) := (newset_of (by
    have h := Blk.newAt (w.alloc (.cells (#[.int .i64 18, .slice uA un uc, .int .i64 um, .int .i64 ux, .bool false, .bool false, .slice vA vn vc]) 25)) ((List.replicate (t.size + 1) false).map Value.bool) 4 (w.heap.size + 1) (by simp)
    rw [HC.out] at h
    exact h) (by simp)).base (by omega)
  have hA2 : SetAt ((w.alloc (.cells #[.int .i64 18, .slice uA un uc, .int .i64 um, .int .i64 ux, .bool false, .bool false, .slice vA vn vc] 25)).alloc (.cells C 4)) (.slice (some ⟨b1, o1, none⟩) (t.size + 1) c1) A := HA.out.1.fr hF2 (fun _ _ _ h => h)
  have hsz : (((w.alloc (.cells #[.int .i64 18, .slice uA un uc, .int .i64 um, .int .i64 ux, .bool false, .bool false, .slice vA vn vc] 25)).alloc (.cells C 4))).heap.size = w.heap.size + 1 + 1 := by simp
  have HI := Lib.hid (And.intro hA2 (And.intro hO (And.intro hF2 (And.intro hB0 hsz))))
  clear hF2 hA2 hsz hO hB0
  go_enter Tryd.func22, Tryd.ntmps22
  go_wp2_with (at_builtin; ((refine app_setb _ (w.heap.size + 1 + 1) HI.out.2.2.2.2 rfl _ _ rfl rfl (.slice (some ⟨b1, o1, none⟩) (t.size + 1) c1) A rfl HI.out.1 (by rw [HA.out.2.2.2]; omega) (by rw [HA.out.2.2.2]; omega) ?_); intro g c w1 hs1 hF1; rw [HA.out.2.2.2]))
  generalize ((w.alloc (.cells #[.int .i64 18, .slice uA un uc, .int .i64 um, .int .i64 ux, .bool false, .bool false, .slice vA vn vc] 25)).alloc (.cells C 4)) = W2 at *
  have hw2 : w.heap.size ≤ W2.heap.size := HI.out.2.2.1.size
  go_loopg [7, 14] (vn + 1) (fun gg s i wr => ∃ (k g c : Nat) (B : List Bool), k ≤ vn ∧ gg = vn - k + 1 ∧ i = .int .i64 (k : Int) ∧ s = .slice (some ⟨g, 0, none⟩) (t.size + 1) c ∧ NewSet wr w.heap.size g c B ∧ Hid (B.length = t.size + 1 ∧ ∀ j, On B j ↔ Ends (CatW ((l.take k).map Lang)) (bytesOf t) (On A) j) ∧ Fr (fun _ => False) W2 wr)
  case atStart => exact ⟨0, g, c, A, by omega, by omega, rfl, rfl, hs1.base hw2, Lib.hid ⟨HA.out.2.2.2, fun j => by
    simp only [List.take_zero, List.map_nil, CatW]
    rw [ends_one]
    exact ⟨fun h => ⟨by rw [bytes_len]; exact on_le (n := t.size) HA.out.2.2.2 h, h⟩, fun h => h.2⟩⟩, hF1⟩
  case round =>
    clear hs1 hF1
    obtain ⟨k, g, c, B, hk, rfl, rfl, rfl, hB, hBp, hF⟩ := hrel
    have y6 := (HI.out.2.2.2.1.fr hF (fun h => h)).cell 6 rfl
    by_cases hlt : k < vn
    · have e1 : (k : Int) < (vn : Int) := by omega
      obtain ⟨r', hr'⟩ : ∃ r', l[k]? = some r' := ⟨_, List.getElem?_eq_getElem (by have := hvn.out; simp only [subsOf] at this; omega)⟩
      obtain ⟨b, ob, x0, x1, x2, x3, x4, x5, x6, rfl, hre, z0, z1, z2, z3, z4, z5, z6⟩ := HKd.out.get (HI.out.2.2.1.trans hF (fun _ _ h => h)) (fun _ _ h => h) (show (subsOf (.cat l))[k]? = some r' from hr')
      have hBs : SetAt wr (.slice (some ⟨g, 0, none⟩) (t.size + 1) c) B := by have := hB.set; rw [hBp.out.1] at this; exact this
      have hc := ih r' (List.mem_of_getElem? hr') wr _ _ t B hre hBs hBp.out.1 ht
      have HX := Lib.hid (And.intro hr' (And.intro hB hF))
      clear hr' hB hF hre hBs
      go_wp2_with fail
      refine hc.mono ?_
      rintro e w3 ⟨g', c', B', rfl, hB', hl', hE', hf'⟩
      clear hc z0 z1 z2 z3 z4 z5 z6 y6
      rw [hl', hBp.out.1]
      have HY := Lib.hid (And.intro hB' (And.intro hE' (And.intro hf' hl')))
      clear hB' hE' hf' hl'
      go_wp2_with fail
      go_roundg (vn - (k + 1) + 1)
      case measure => omega
      case rel =>
        obtain ⟨hB', hE', hf', hl'⟩ := HY.out
        refine ⟨k + 1, g', c', B', by omega, rfl, by simp, rfl, hB'.base (Nat.le_trans hw2 HX.out.2.2.size), Lib.hid ⟨by rw [hl', hBp.out.1], fun j => ?_⟩, HX.out.2.2.trans hf' (fun _ _ h => h)⟩
        rw [hE' j]
        have h1 : Ends (Lang r') (bytesOf t) (On B) j ↔ Ends (Lang r') (bytesOf t) (Ends (CatW ((l.take k).map Lang)) (bytesOf t) (On A)) j := ends_mono (fun _ _ => Iff.rfl) (fun i _ => hBp.out.2 i) j
        rw [h1, ← ends_seq]
        refine ends_mono (fun w _ => ?_) (fun _ _ => Iff.rfl) j
        rw [take_snoc_getElem? HX.out.1, cat_snoc]
    · obtain rfl : k = vn := by omega
      have e1 : ¬ ((k : Int) < (k : Int)) := by omega
      have HX := Lib.hid (And.intro hB hF)
      clear hB hF
      go_wp2_with fail
      go_ret
      refine ⟨g, c, B, by rw [hBp.out.1]; rfl, HX.out.1, by rw [hBp.out.1, HA.out.2.2.2], fun j => ?_, HI.out.2.2.1.trans HX.out.2 (fun _ _ h => h)⟩
      have h1 := hBp.out.2 j
      have hvn' := hvn.out
      simp only [subsOf] at hvn'
      rw [List.take_of_length_le (by omega)] at h1
      rw [h1]
      simp only [Lang, langs_eq]

set_option maxRecDepth 100000 in
set_option maxHeartbeats 4000000 in
theorem rc_alt (l : List RE) (hln : l.length ≤ 1000) (ih : ∀ r, r ∈ l → RC r) : RC (.alt l) := by
  intro w v fv t A hv hA hl ht
  obtain @⟨_, vA, vc, rv, um, ux, xs, hru, hr0, hm, hx, hs⟩ := hv
  obtain ⟨uA, uc, hrv, -⟩ := id hru
  obtain ⟨un, hun⟩ : ∃ z, Hid (z = (runesOf (.alt l)).length) := ⟨_, Lib.hid rfl⟩
  rw [← hun.out] at hrv
  subst hrv
  have HKd : Hid (KidsR w (.alt l) vA xs) := Lib.hid ⟨hx, hs⟩
  clear hru hr0 hm hx hs
  have hA0 := hA
  obtain ⟨b1, o1, c1, cs1, rfl, hcA, hbA, hcellA⟩ := hA0
  rw [hl] at hA ⊢
  have HA := Lib.hid (And.intro hA (And.intro hbA (And.intro hcellA hl)))
  have hmk : ∀ X : World, (Instr.makeSlice 30 (.int .i64 ((t.size : Int) + 1)) (.int .i64 ((t.size : Int) + 1))).run Tryd.prog X = .ok (.slice (some ⟨X.heap.size, 0, none⟩) (t.size + 1) (t.size + 1)) (X.alloc (.cells ((List.replicate (t.size + 1) false).map Value.bool).toArray 4)) := fun X => run_mk_bool (t.size + 1) (by omega) X
  generalize hC : ((List.replicate (t.size + 1) false).map Value.bool).toArray = C at hmk
  have HC := Lib.hid hC
  clear hC hA hbA hcellA hcA hl
  simp only [opOf]
  obtain ⟨vn, hvn⟩ : ∃ z, Hid (z = (subsOf (.alt l)).length) := ⟨_, Lib.hid rfl⟩
  rw [← hvn.out]
  have hvl : vn ≤ 1000 := by rw [hvn.out]; exact hln
  have hF2 : Fr (fun _ => False) w ((w.alloc (.cells #[.int .i64 19, .slice uA un uc, .int .i64 um, .int .i64 ux, .bool false, .bool false, .slice vA vn vc] 25)).alloc (.cells C 4)) := ((Fr.refl _ w).alloc _).alloc _
  have hB0 : Blk ((w.alloc (.cells #[.int .i64 19, .slice uA un uc, .int .i64 um, .int .i64 ux, .bool false, .bool false, .slice vA vn vc] 25)).alloc (.cells C 4)) w.heap.size [.int .i64 19, .slice uA un uc, .int .i64 um, .int .i64 ux, .bool false, .bool false, .slice vA vn vc] 25 := (Blk.new w [_, _, _, _, _, _, _] 25).alloc _
  have hO : NewSet ((w.alloc (.cells #[.int .i64 19, .slice uA un uc, .int .i64 um, .int .i64 ux, .bool false, .bool false, .slice vA vn vc] 25)).alloc (.cells C 4)) w.heap.size (w.heap.size + 1) (t.size + 1) (List.replicate (t.size + 1) false) := (newset_of (by
    have h := Blk.newAt (w.alloc (.cells (#[.int .i64 19, .slice uA un uc, .int .i64 um, .int .i64 ux, .bool false, .bool false, .slice vA vn vc]) 25)) ((List.replicate (t.size + 1) false).map Value.bool) 4 (w.heap.size + 1) (by simp)
    rw [HC.out] at h
    exact h) (by simp)).base (by omega)
  have hA2 : SetAt ((w.alloc (.cells #[.int .i64 19, .slice uA un uc, .int .i64 um, .int .i64 ux, .bool false, .bool false, .slice vA vn vc] 25)).alloc (.cells C 4)) (.slice (some ⟨b1, o1, none⟩) (t.size + 1) c1) A := HA.out.1.fr hF2 (fun _ _ _ h => h)
  have hsz : (((w.alloc (.cells #[.int .i64 19, .slice uA un uc, .int .i64 um, .int .i64 ux, .bool false, .bool false, .slice vA vn vc] 25)).alloc (.cells C 4))).heap.size = w.heap.size + 1 + 1 := by simp
  have HI := Lib.hid (And.intro hA2 (And.intro hO (And.intro hF2 (And.intro hB0 hsz))))
  clear hF2 hA2 hsz hO hB0
  go_enter Tryd.func22, Tryd.ntmps22
  go_wp2_with fail
  generalize ((w.alloc (.cells #[.int .i64 19, .slice uA un uc, .int .i64 um, .int .i64 ux, .bool false, .bool false, .slice vA vn vc] 25)).alloc (.cells C 4)) = W2 at *
  have hw2 : w.heap.size ≤ W2.heap.size := HI.out.2.2.1.size
  go_loopg [7, 15] (vn + 1) (fun gg s i wr => ∃ (k g c : Nat) (B : List Bool), k ≤ vn ∧ gg = vn - k + 1 ∧ i = .int .i64 (k : Int) ∧ s = .slice (some ⟨g, 0, none⟩) (t.size + 1) c ∧ NewSet wr w.heap.size g c B ∧ Hid (B.length = t.size + 1 ∧ ∀ j, On B j ↔ ∃ (i : Nat) (r : RE), i < k ∧ l[i]? = some r ∧ Ends (Lang r) (bytesOf t) (On A) j) ∧ Fr (fun _ => False) W2 wr)
  case atStart => exact ⟨0, w.heap.size + 1, t.size + 1, _, by omega, by omega, rfl, rfl, HI.out.2.1, Lib.hid ⟨by simp, fun j => ⟨fun h => by simp [On, List.getElem?_replicate] at h, fun ⟨i, r, h, _⟩ => by omega⟩⟩, Fr.refl _ W2⟩
  case round =>
    obtain ⟨k, g, c, B, hk, rfl, rfl, rfl, hB, hBp, hF⟩ := hrel
    have y6 := (HI.out.2.2.2.1.fr hF (fun h => h)).cell 6 rfl
    by_cases hlt : k < vn
    · have e1 : (k : Int) < (vn : Int) := by omega
      obtain ⟨r', hr'⟩ : ∃ r', l[k]? = some r' := ⟨_, List.getElem?_eq_getElem (by have := hvn.out; simp only [subsOf] at this; omega)⟩
      obtain ⟨b, ob, x0, x1, x2, x3, x4, x5, x6, rfl, hre, z0, z1, z2, z3, z4, z5, z6⟩ := HKd.out.get (HI.out.2.2.1.trans hF (fun _ _ h => h)) (fun _ _ h => h) (show (subsOf (.alt l))[k]? = some r' from hr')
      have hBs : SetAt wr (.slice (some ⟨g, 0, none⟩) (t.size + 1) c) B := by have := hB.set; rw [hBp.out.1] at this; exact this
      have hc := ih r' (List.mem_of_getElem? hr') wr _ _ t A hre (HI.out.1.fr hF (fun _ _ _ h => h)) HA.out.2.2.2 ht
      have HX := Lib.hid (And.intro hr' (And.intro hB (And.intro hF hBs)))
      clear hr' hB hF hre hBs
      go_wp2_with fail
      refine hc.mono ?_
      rintro e w3 ⟨g', c', B', rfl, hB', hl', hE', hf'⟩
      clear hc z0 z1 z2 z3 z4 z5 z6 y6
      rw [hl', HA.out.2.2.2]
      have hBs' : SetAt w3 (.slice (some ⟨g', 0, none⟩) (t.size + 1) c') B' := by have := hB'.set; rw [hl', HA.out.2.2.2] at this; exact this
      have hei := either_spec (HX.out.2.2.2.fr hf' (fun _ _ _ h => h)) hBs' (by rw [hBp.out.1, hl', HA.out.2.2.2]) (by rw [hBp.out.1]; omega) (by rw [hBp.out.1]; omega)
      have HY := Lib.hid (And.intro hE' (And.intro hf' hl'))
      clear hB' hE' hf' hl' hBs'
      go_wp2_with fail
      refine hei.mono ?_
      rintro e w4 ⟨g4, c4, rfl, hB4, hf4⟩
      clear hei
      rw [hBp.out.1]
      have HZ := Lib.hid (And.intro hB4 hf4)
      clear hB4 hf4
      go_wp2_with fail
      go_roundg (vn - (k + 1) + 1)
      case measure => omega
      case rel =>
        obtain ⟨hE', hf', hl'⟩ := HY.out
        obtain ⟨hB4, hf4⟩ := HZ.out
        have hll : B.length = B'.length := by rw [hBp.out.1, hl', HA.out.2.2.2]
        refine ⟨k + 1, g4, c4, zipOr B B', by omega, rfl, by simp, rfl, hB4.base (Nat.le_trans hw2 (Nat.le_trans HX.out.2.2.1.size hf'.size)), Lib.hid ⟨by rw [zipOr_len hll, hBp.out.1], fun j => ?_⟩, (HX.out.2.2.1.trans hf' (fun _ _ h => h)).trans hf4 (fun _ _ h => h)⟩
        rw [on_zip hll, hBp.out.2 j, hE' j]
        constructor
        · rintro (⟨i, r, h1, h2, h3⟩ | h)
          · exact ⟨i, r, by omega, h2, h3⟩
          · exact ⟨k, r', by omega, HX.out.1, h⟩
        · rintro ⟨i, r, h1, h2, h3⟩
          by_cases e : i = k
          · subst e
            rw [HX.out.1] at h2
            injection h2 with h2
            subst h2
            exact .inr h3
          · exact .inl ⟨i, r, by omega, h2, h3⟩
    · obtain rfl : k = vn := by omega
      have e1 : ¬ ((k : Int) < (k : Int)) := by omega
      have HX := Lib.hid (And.intro hB hF)
      clear hB hF
      go_wp2_with fail
      go_ret
      refine ⟨g, c, B, by rw [hBp.out.1]; rfl, HX.out.1, by rw [hBp.out.1, HA.out.2.2.2], fun j => ?_, HI.out.2.2.1.trans HX.out.2 (fun _ _ h => h)⟩
      rw [hBp.out.2 j]
      have hvn' := hvn.out
      simp only [subsOf] at hvn'
      simp only [Lang, langs_eq]
      constructor
      · rintro ⟨i, r, h1, h2, hj, q, h3, h4, h5⟩
        exact ⟨hj, q, h3, h4, Lang r, List.mem_map_of_mem (List.mem_of_getElem? h2), h5⟩
      · rintro ⟨hj, q, h3, h4, L, hL, h5⟩
        obtain ⟨r, hr, rfl⟩ := List.mem_map.1 hL
        obtain ⟨i, hi, he⟩ := List.getElem_of_mem hr
        exact ⟨i, r, by omega, by rw [List.getElem?_eq_getElem hi, he], hj, q, h3, h4, h5⟩

set_option maxRecDepth 100000 in
set_option maxHeartbeats 4000000 in
theorem rc_cap (r : RE) (ih : RC r) : RC (.cap r) := by
  intro w v fv t A hv hA hl ht
  obtain @⟨_, vA, vc, rv, um, ux, xs, hru, hr0, hm, hx, hs⟩ := hv
  obtain ⟨uA, uc, hrv, -⟩ := id hru
  obtain ⟨un, hun⟩ : ∃ z, Hid (z = (runesOf (.cap r)).length) := ⟨_, Lib.hid rfl⟩
  rw [← hun.out] at hrv
  subst hrv
  have HKd : Hid (KidsR w (.cap r) vA xs) := Lib.hid ⟨hx, hs⟩
  clear hru hr0 hm hx hs
  have hA0 := hA
  obtain ⟨b1, o1, c1, cs1, rfl, hcA, hbA, hcellA⟩ := hA0
  rw [hl] at hA ⊢
  have HA := Lib.hid (And.intro hA (And.intro hbA (And.intro hcellA hl)))
  have hmk : ∀ X : World, (Instr.makeSlice 30 (.int .i64 ((t.size : Int) + 1)) (.int .i64 ((t.size : Int) + 1))).run Tryd.prog X = .ok (.slice (some ⟨X.heap.size, 0, none⟩) (t.size + 1) (t.size + 1)) (X.alloc (.cells ((List.replicate (t.size + 1) false).map Value.bool).toArray 4)) := fun X => run_mk_bool (t.size + 1) (by omega) X
  generalize hC : ((List.replicate (t.size + 1) false).map Value.bool).toArray = C at hmk
  have HC := Lib.hid hC
  clear hC hA hbA hcellA hcA hl
  simp only [opOf]
  obtain ⟨vn, hvn⟩ : ∃ z, Hid (z = (subsOf (.cap r)).length) := ⟨_, Lib.hid rfl⟩
  rw [← hvn.out]
  have hvl : vn = 1 := hvn.out
  subst hvl
  have hF2 : Fr (fun _ => False) w ((w.alloc (.cells #[.int .i64 13, .slice uA un uc, .int .i64 um, .int .i64 ux, .bool false, .bool false, .slice vA 1 vc] 25)).alloc (.cells C 4)) := ((Fr.refl _ w).alloc _).alloc _
  have hB0 : Blk ((w.alloc (.cells #[.int .i64 13, .slice uA un uc, .int .i64 um, .int .i64 ux, .bool false, .bool false, .slice vA 1 vc] 25)).alloc (.cells C 4)) w.heap.size [.int .i64 13, .slice uA un uc, .int .i64 um, .int .i64 ux, .bool false, .bool false, .slice vA 1 vc] 25 := (Blk.new w [_, _, _, _, _, _, _] 25).alloc _
  have hO : NewSet ((w.alloc (.cells #[.int .i64 13, .slice uA un uc, .int .i64 um, .int .i64 ux, .bool false, .bool false, .slice vA 1 vc] 25)).alloc (.cells C 4)) w.heap.size (w.heap.size + 1) (t.size + 1) (List.replicate (t.size + 1) false) := (newset_of (by
    have h := Blk.newAt (w.alloc (.cells (#[.int .i64 13, .slice uA un uc, .int .i64 um, .int .i64 ux, .bool false, .bool false, .slice vA 1 vc]) 25)) ((List.replicate (t.size + 1) false).map Value.bool) 4 (w.heap.size + 1) (by simp)
    rw [HC.out] at h
    exact h) (by simp)).base (by omega)
  have hA2 : SetAt ((w.alloc (.cells #[.int .i64 13, .slice uA un uc, .int .i64 um, .int .i64 ux, .bool false, .bool false, .slice vA 1 vc] 25)).alloc (.cells C 4)) (.slice (some ⟨b1, o1, none⟩) (t.size + 1) c1) A := HA.out.1.fr hF2 (fun _ _ _ h => h)
  have hsz : (((w.alloc (.cells #[.int .i64 13, .slice uA un uc, .int .i64 um, .int .i64 ux, .bool false, .bool false, .slice vA 1 vc] 25)).alloc (.cells C 4))).heap.size = w.heap.size + 1 + 1 := by simp
  have HI := Lib.hid (And.intro hA2 (And.intro hF2 (And.intro hB0 hsz)))
  have y6 := hB0.cell 6 rfl
  obtain ⟨b, ob, x0, x1, x2, x3, x4, x5, x6, rfl, hre, z0, z1, z2, z3, z4, z5, z6⟩ := HKd.out.get hF2 (fun _ _ h => h) (k := 0) (show (subsOf (.cap r))[0]? = some r from rfl)
  simp only [Nat.zero_mul, Nat.add_zero] at z0 z1 z2 z3 z4 z5 z6
  have hc := ih _ _ _ t A hre hA2 HA.out.2.2.2 ht
  clear hF2 hA2 hsz hO hB0 hre
  go_enter Tryd.func22, Tryd.ntmps22
  go_wp2_with fail
  refine hc.mono ?_
  rintro e w3 ⟨g', c', B', rfl, hB', hl', hE', hf'⟩
  clear hc z0 z1 z2 z3 z4 z5 z6 y6
  have HY := Lib.hid (And.intro hB' (And.intro hE' (And.intro hf' hl')))
  clear hB' hE' hf' hl'
  go_wp2_with fail
  go_ret
  obtain ⟨hB', hE', hf', hl'⟩ := HY.out
  exact ⟨g', c', B', rfl, hB'.base HI.out.2.1.size, hl', fun j => by rw [hE' j]; simp only [Lang], HI.out.2.1.trans hf' (fun _ _ h => h)⟩
end Go.Proofs.YtjeklnbfpehbeaaDoor

/- The walk of 'Times', 'repeated' and 'Reached' of the law's own side at repetitions, and 'Reached' at any expression. Condition: the expression is right, the text at most 40 bytes. -/
namespace Go.Proofs.YtjeklnbfpehbeaaDoor
open Go.RowKit

set_option maxRecDepth 100000 in
set_option maxHeartbeats 2000000 in
theorem times_calls (w : World) {q r : RE} {v : Value} {lo : Nat} {hi : Option Nat} (h : ReAt w q v) (ht : timesOf q = some (r, lo, hi)) : Calls Tryd.prog 34 #[v] w fun e w' => e = .returned (.tuple #[.int .i64 (lo : Int), .int .i64 (maxOf hi)]) ∧ Fr (fun _ => False) w w' := by
  cases q with
  | star r' => simp only [timesOf, Option.some.injEq, Prod.mk.injEq] at ht; obtain ⟨rfl, rfl, rfl⟩ := ht; exact times_star w h (n := 14) 0 (-1) rfl (.inl ⟨rfl, rfl, rfl⟩)
  | plus r' => simp only [timesOf, Option.some.injEq, Prod.mk.injEq] at ht; obtain ⟨rfl, rfl, rfl⟩ := ht; exact times_star w h (n := 15) 1 (-1) rfl (.inr (.inl ⟨rfl, rfl, rfl⟩))
  | quest r' => simp only [timesOf, Option.some.injEq, Prod.mk.injEq] at ht; obtain ⟨rfl, rfl, rfl⟩ := ht; exact times_star w h (n := 16) 0 1 rfl (.inr (.inr ⟨rfl, rfl, rfl⟩))
  | rep mn mx r' =>
    simp only [timesOf, Option.some.injEq, Prod.mk.injEq] at ht
    obtain ⟨rfl, rfl, rfl⟩ := ht
    obtain @⟨_, vA, vc, rv, um, ux, xs, hru, hr0, hm, hx, hs⟩ := h
    obtain ⟨uA, uc, hrv, -⟩ := id hru
    obtain ⟨rfl, rfl⟩ := hm
    subst hrv
    clear hru hr0 hx hs
    generalize maxOf mx = ux
    simp only [opOf]
    have hB := (Blk.new w [.int .i64 17, .slice uA (runesOf (.rep mn mx r')).length uc, .int .i64 (mn : Int), .int .i64 ux, .bool false, .bool false, .slice vA (subsOf (.rep mn mx r')).length vc] 25).drew
    have y2 := hB.cell 2 rfl
    have y3 := hB.cell 3 rfl
    have hF : Fr (fun _ => False) w (w.alloc (.cells #[.int .i64 17, .slice uA (runesOf (.rep mn mx r')).length uc, .int .i64 (mn : Int), .int .i64 ux, .bool false, .bool false, .slice vA (subsOf (.rep mn mx r')).length vc] 25)).drew := ((Fr.refl _ w).alloc _).drew
    have HF := Lib.hid hF
    clear hB hF
    go_enter Tryd.func34, Tryd.ntmps34
    go_wp2_with fail
    refine wp_region_seqV (fun w' => w'.cell? ⟨w.heap.size, 2, none⟩ = some (.int .i64 (mn : Int)) ∧ w'.cell? ⟨w.heap.size, 3, none⟩ = some (.int .i64 ux)) (fun i => true) (fun i => ![1, 3].contains i) (fun i => false) [0, 1, 2, 3, 4, 5] (by kernel_rfl) (by kernel_rfl) (fun c a d v w h => by cases d <;> exact h) ⟨y2, y3⟩ ?_
    iterate 1 (apply seqV_pure (ho := rfl) (hr := rfl) (hg := rfl); (intro w'; go_simp; rfl))
    (apply seqV_read (ho := rfl) (hr := rfl) (hp := rfl) (hg := rfl); (rintro w' ⟨q1, q2⟩; go_simp; rfl))
    iterate 1 (apply seqV_pure (ho := rfl) (hr := rfl) (hg := rfl); (intro w'; go_simp; rfl))
    (apply seqV_read (ho := rfl) (hr := rfl) (hp := rfl) (hg := rfl); (rintro w' ⟨q1, q2⟩; go_simp; rfl))
    iterate 2 (apply seqV_pure (ho := rfl) (hr := rfl) (hg := rfl); (intro w'; go_simp; rfl))
    unfold seqV
    go_wp2_with fail
    go_ret2
    exact ⟨rfl, HF.out⟩
  | emp => simp [timesOf] at ht
  | lit rs => simp [timesOf] at ht
  | cls l => simp [timesOf] at ht
  | any => simp [timesOf] at ht
  | anyNl => simp [timesOf] at ht
  | cat l => simp [timesOf] at ht
  | alt l => simp [timesOf] at ht
  | cap r => simp [timesOf] at ht

/-- What 'repeated' answers. -/
def RpdPost (w : World) (L : Words) (bs : List Nat) (A : List Bool) (e : Ending) (w' : World) : Prop :=
  ∃ g c B, e = .returned (.slice (some ⟨g, 0, none⟩) B.length c) ∧ NewSet w' w.heap.size g c B ∧ B.length = A.length ∧ (∀ j, On B j ↔ Ends L bs (On A) j) ∧ Fr (fun _ => False) w w'

set_option maxRecDepth 100000 in
set_option maxHeartbeats 4000000 in
theorem rpd_none {r : RE} (hr : RC r) {w : World} {v fv : Value} {t : ByteArray} {A : List Bool} (hv : ReAt w r v) (hA : SetAt w fv A) (hl : A.length = t.size + 1) (ht : t.size ≤ 40) {lo : Nat} (hlo : lo ≤ 1000) :
    Calls Tryd.prog 35 #[v, .string t, fv, .int .i64 (lo : Int), .int .i64 (-1)] w (RpdPost w (RepW (Lang r) lo none) (bytesOf t) A) := by
  obtain ⟨uA, un, uc, um, ux, vA, vn, vc, hve⟩ := hv.form
  subst hve
  have hA0 := hA
  obtain ⟨b1, o1, c1, cs1, rfl, -⟩ := hA0
  rw [hl] at hA ⊢
  have hFa : Fr (fun _ => False) w (w.alloc (.cells #[.int .i64 (opOf r : Int), .slice uA un uc, .int .i64 um, .int .i64 ux, .bool false, .bool false, .slice vA vn vc] 25)) := (Fr.refl _ w).alloc _
  have hB0 : Blk (w.alloc (.cells #[.int .i64 (opOf r : Int), .slice uA un uc, .int .i64 um, .int .i64 ux, .bool false, .bool false, .slice vA vn vc] 25)) w.heap.size [.int .i64 (opOf r : Int), .slice uA un uc, .int .i64 um, .int .i64 ux, .bool false, .bool false, .slice vA vn vc] 25 := Blk.new w [_, _, _, _, _, _, _] 25
  have hva := hv.fr hFa (fun _ _ _ _ _ h => h)
  have hAa := hA.fr hFa (fun _ _ _ h => h)
  have hsz : ((w.alloc (.cells #[.int .i64 (opOf r : Int), .slice uA un uc, .int .i64 um, .int .i64 ux, .bool false, .bool false, .slice vA vn vc] 25))).heap.size = w.heap.size + 1 := by simp
  have HI := Lib.hid (And.intro hAa (And.intro hva (And.intro hFa (And.intro hsz hl))))
  clear hv hA hva hAa hFa hsz hl
  go_enter Tryd.func35, Tryd.ntmps35
  go_wp2_with (at_builtin; ((refine app_setb _ (w.heap.size + 1) HI.out.2.2.2.1 rfl _ _ rfl rfl (.slice (some ⟨b1, o1, none⟩) (t.size + 1) c1) A rfl HI.out.1 (by rw [HI.out.2.2.2.2]; omega) (by rw [HI.out.2.2.2.2]; omega) ?_); intro g c w1 hs1 hF1; rw [HI.out.2.2.2.2]))
  generalize (w.alloc (.cells #[.int .i64 (opOf r : Int), .slice uA un uc, .int .i64 um, .int .i64 ux, .bool false, .bool false, .slice vA vn vc] 25)) = W2 at *
  have hw2 : w.heap.size ≤ W2.heap.size := HI.out.2.2.1.size
  go_loopg [11, 12] (lo + 1) (fun gg s i wr => ∃ (k g c : Nat) (B : List Bool), k ≤ lo ∧ gg = lo - k + 1 ∧ i = .int .i64 (k : Int) ∧ s = .slice (some ⟨g, 0, none⟩) (t.size + 1) c ∧ NewSet wr w.heap.size g c B ∧ Hid (B.length = t.size + 1 ∧ ∀ j, On B j ↔ Ends (Pow_ (Lang r) k) (bytesOf t) (On A) j) ∧ Fr (fun _ => False) W2 wr)
  case atStart => exact ⟨0, g, c, A, by omega, by omega, rfl, rfl, hs1.base hw2, Lib.hid ⟨HI.out.2.2.2.2, fun j => by
    rw [show Pow_ (Lang r) 0 = One_ from rfl, ends_one]
    exact ⟨fun h => ⟨by rw [bytes_len]; exact on_le (n := t.size) HI.out.2.2.2.2 h, h⟩, fun h => h.2⟩⟩, hF1⟩
  case round =>
    clear hs1 hF1
    obtain ⟨k, g, c, B, hk, rfl, rfl, rfl, hB, hBp, hF⟩ := hrel
    by_cases hlt : k < lo
    · have e1 : (k : Int) < (lo : Int) := by omega
      have hBr := hB0.fr hF (fun h => h)
      have y0 := hBr.cell 0 rfl
      have y1 := hBr.cell 1 rfl
      have y2 := hBr.cell 2 rfl
      have y3 := hBr.cell 3 rfl
      have y4 := hBr.cell 4 rfl
      have y5 := hBr.cell 5 rfl
      have y6 := hBr.cell 6 rfl
      have hBs : SetAt wr (.slice (some ⟨g, 0, none⟩) (t.size + 1) c) B := by have := hB.set; rw [hBp.out.1] at this; exact this
      have hc := hr wr _ _ t B (HI.out.2.1.fr hF (fun _ _ _ _ _ h => h)) hBs hBp.out.1 ht
      have HX := Lib.hid (And.intro hB hF)
      clear hB hF hBs hBr
      go_wp2_with fail
      refine hc.mono ?_
      rintro e w3 ⟨g', c', B', rfl, hB', hl', hE', hf'⟩
      clear hc y0 y1 y2 y3 y4 y5 y6
      rw [hl', hBp.out.1]
      have HY := Lib.hid (And.intro hB' (And.intro hE' (And.intro hf' hl')))
      clear hB' hE' hf' hl'
      go_wp2_with fail
      go_roundg (lo - (k + 1) + 1)
      case measure => omega
      case rel =>
        obtain ⟨hB', hE', hf', hl'⟩ := HY.out
        refine ⟨k + 1, g', c', B', by omega, rfl, by simp, rfl, hB'.base (Nat.le_trans hw2 HX.out.2.size), Lib.hid ⟨by rw [hl', hBp.out.1], fun j => ?_⟩, HX.out.2.trans hf' (fun _ _ h => h)⟩
        rw [hE' j]
        have h1 : Ends (Lang r) (bytesOf t) (On B) j ↔ Ends (Lang r) (bytesOf t) (Ends (Pow_ (Lang r) k) (bytesOf t) (On A)) j := ends_mono (fun _ _ => Iff.rfl) (fun i _ => hBp.out.2 i) j
        rw [h1, ← ends_seq]
        exact ends_mono (fun w _ => (pow_snoc k w).symm) (fun _ _ => Iff.rfl) j
    · obtain rfl : k = lo := by omega
      have e1 : ¬ ((k : Int) < (k : Int)) := by omega
      have hBs : SetAt wr (.slice (some ⟨g, 0, none⟩) (t.size + 1) c) B := by have := hB.set; rw [hBp.out.1] at this; exact this
      have HX := Lib.hid (And.intro hB (And.intro hF hBs))
      clear hB hF hBs
      go_wp2_with (at_builtin; ((refine app_setb _ wr.heap.size rfl rfl _ _ rfl rfl (.slice (some ⟨g, 0, none⟩) (t.size + 1) c) B rfl HX.out.2.2 (by rw [hBp.out.1]; omega) (by rw [hBp.out.1]; omega) ?_); intro g2 c2 w2 hs2 hF2; rw [hBp.out.1]))
      have hFw : Fr (fun _ => False) W2 w2 := HX.out.2.1.trans hF2 (fun _ _ h => h)
      have hcur := HX.out.1.fr hF2 (fun h => h)
      have hout := hs2.base (Nat.le_trans hw2 HX.out.2.1.size)
      have HW := Lib.hid (And.intro hcur (And.intro hout hFw))
      clear hs2 hF2 hFw hcur hout HX
      go_loopg [11, 13, 14] ((t.size + 1) + 1) (fun gg s o i wr => ∃ (m I g c g2 c2 : Nat) (B B2 : List Bool), m ≤ (t.size + 1) ∧ gg = (t.size + 1) - m + 1 ∧ i = .int .i64 (I : Int) ∧ s = .slice (some ⟨g, 0, none⟩) (t.size + 1) c ∧ o = .slice (some ⟨g2, 0, none⟩) (t.size + 1) c2 ∧ Hid (I = k + m) ∧ NewSet wr w.heap.size g c B ∧ NewSet wr w.heap.size g2 c2 B2 ∧ Hid (B.length = t.size + 1 ∧ B2.length = t.size + 1 ∧ (∀ j, On B j ↔ Ends (Pow_ (Lang r) (k + m)) (bytesOf t) (On A) j) ∧ (∀ j, On B2 j ↔ Ends (UpW (Lang r) k m) (bytesOf t) (On A) j)) ∧ Fr (fun _ => False) W2 wr)
      case atStart => exact ⟨0, k, g, c, g2, c2, B, B, by omega, rfl, rfl, rfl, rfl, Lib.hid rfl, HW.out.1, HW.out.2.1, Lib.hid ⟨hBp.out.1, hBp.out.1, hBp.out.2, fun j => (hBp.out.2 j).trans (ends_mono (fun w _ => (up_zero w).symm) (fun _ _ => Iff.rfl) j)⟩, HW.out.2.2⟩
      case round =>
        clear HW hBp B
        obtain ⟨m, I, g, c, g2, c2, B, B2, hm, rfl, rfl, rfl, rfl, hI, hB, hB2, hBp, hF⟩ := hrel
        have hI2 : I ≤ 3000 := by have := hI.out; omega
        by_cases hlt : m < (t.size + 1)
        · have e2 : (I : Int) < (k : Int) + (t.size : Int) + 1 := by have := hI.out; omega
          have hBr := hB0.fr hF (fun h => h)
          have y0 := hBr.cell 0 rfl
          have y1 := hBr.cell 1 rfl
          have y2 := hBr.cell 2 rfl
          have y3 := hBr.cell 3 rfl
          have y4 := hBr.cell 4 rfl
          have y5 := hBr.cell 5 rfl
          have y6 := hBr.cell 6 rfl
          have hBs : SetAt wr (.slice (some ⟨g, 0, none⟩) (t.size + 1) c) B := by have := hB.set; rw [hBp.out.1] at this; exact this
          have hBs2 : SetAt wr (.slice (some ⟨g2, 0, none⟩) (t.size + 1) c2) B2 := by have := hB2.set; rw [hBp.out.2.1] at this; exact this
          have hc := hr wr _ _ t B (HI.out.2.1.fr hF (fun _ _ _ _ _ h => h)) hBs hBp.out.1 ht
          have HX := Lib.hid (And.intro hBs2 hF)
          clear hB hB2 hF hBs hBs2 hBr
          go_wp2_with fail
          refine hc.mono ?_
          rintro e w3 ⟨g', c', B', rfl, hB', hl', hE', hf'⟩
          clear hc y0 y1 y2 y3 y4 y5 y6
          rw [hl', hBp.out.1]
          have hBs' : SetAt w3 (.slice (some ⟨g', 0, none⟩) (t.size + 1) c') B' := by have := hB'.set; rw [hl', hBp.out.1] at this; exact this
          have hei := either_spec (HX.out.1.fr hf' (fun _ _ _ h => h)) hBs' (by rw [hBp.out.2.1, hl', hBp.out.1]) (by rw [hBp.out.2.1]; omega) (by rw [hBp.out.2.1]; omega)
          have HY := Lib.hid (And.intro hE' (And.intro hf' (And.intro hl' hB')))
          clear hB' hE' hf' hl' hBs'
          go_wp2_with fail
          refine hei.mono ?_
          rintro e w4 ⟨g4, c4, rfl, hB4, hf4⟩
          clear hei
          rw [hBp.out.2.1]
          have HZ := Lib.hid (And.intro hB4 hf4)
          clear hB4 hf4
          go_wp2_with fail
          go_roundg ((t.size + 1) - (m + 1) + 1)
          case measure => omega
          case rel =>
            obtain ⟨hE', hf', hl', hB'⟩ := HY.out
            obtain ⟨hB4, hf4⟩ := HZ.out
            have hll : B2.length = B'.length := by rw [hBp.out.2.1, hl', hBp.out.1]
            have hpow : ∀ j, On B' j ↔ Ends (Pow_ (Lang r) (k + (m + 1))) (bytesOf t) (On A) j := fun j => by
              rw [hE' j]
              have h1 : Ends (Lang r) (bytesOf t) (On B) j ↔ Ends (Lang r) (bytesOf t) (Ends (Pow_ (Lang r) (k + m)) (bytesOf t) (On A)) j := ends_mono (fun _ _ => Iff.rfl) (fun i _ => hBp.out.2.2.1 i) j
              rw [h1, ← ends_seq]
              exact ends_mono (fun w _ => (pow_snoc (k + m) w).symm) (fun _ _ => Iff.rfl) j
            refine ⟨m + 1, I + 1, g', c', g4, c4, B', zipOr B2 B', by omega, rfl, by simp, rfl, rfl, Lib.hid (by have := hI.out; omega), (hB'.fr hf4 (fun h => h)).base (Nat.le_trans hw2 HX.out.2.size), hB4.base (Nat.le_trans hw2 (Nat.le_trans HX.out.2.size hf'.size)), Lib.hid ⟨by rw [hl', hBp.out.1], by rw [zipOr_len hll, hBp.out.2.1], hpow, fun j => ?_⟩, (HX.out.2.trans hf' (fun _ _ h => h)).trans hf4 (fun _ _ h => h)⟩
            rw [on_zip hll, hBp.out.2.2.2 j, hpow j, ← ends_or]
            exact ends_mono (fun w _ => (up_succ w).symm) (fun _ _ => Iff.rfl) j
        · have hme : m = t.size + 1 := by omega
          subst hme
          have e2 : ¬ ((I : Int) < (k : Int) + (t.size : Int) + 1) := by have := hI.out; omega
          have e3 : ¬ ((I : Int) < -1) := by omega
          have HX := Lib.hid (And.intro hB2 hF)
          clear hB hB2 hF
          go_wp2_with fail
          go_ret
          refine ⟨g2, c2, B2, by rw [hBp.out.2.1]; rfl, HX.out.1, by rw [hBp.out.2.1, HI.out.2.2.2.2], fun j => ?_, HI.out.2.2.1.trans HX.out.2 (fun _ _ h => h)⟩
          rw [hBp.out.2.2.2 j]
          exact ends_mono (fun w hw => up_many w (by rw [bytes_len] at hw; exact hw)) (fun _ _ => Iff.rfl) j

set_option maxRecDepth 100000 in
set_option maxHeartbeats 4000000 in
theorem rpd_some {r : RE} (hr : RC r) {w : World} {v fv : Value} {t : ByteArray} {A : List Bool} (hv : ReAt w r v) (hA : SetAt w fv A) (hl : A.length = t.size + 1) (ht : t.size ≤ 40) {lo : Nat} (hlo : lo ≤ 1000) {h : Nat} (hlh : lo ≤ h) (hh : h ≤ 1000) :
    Calls Tryd.prog 35 #[v, .string t, fv, .int .i64 (lo : Int), .int .i64 (h : Int)] w (RpdPost w (RepW (Lang r) lo (some h)) (bytesOf t) A) := by
  obtain ⟨uA, un, uc, um, ux, vA, vn, vc, hve⟩ := hv.form
  subst hve
  have hA0 := hA
  obtain ⟨b1, o1, c1, cs1, rfl, -⟩ := hA0
  rw [hl] at hA ⊢
  have hFa : Fr (fun _ => False) w (w.alloc (.cells #[.int .i64 (opOf r : Int), .slice uA un uc, .int .i64 um, .int .i64 ux, .bool false, .bool false, .slice vA vn vc] 25)) := (Fr.refl _ w).alloc _
  have hB0 : Blk (w.alloc (.cells #[.int .i64 (opOf r : Int), .slice uA un uc, .int .i64 um, .int .i64 ux, .bool false, .bool false, .slice vA vn vc] 25)) w.heap.size [.int .i64 (opOf r : Int), .slice uA un uc, .int .i64 um, .int .i64 ux, .bool false, .bool false, .slice vA vn vc] 25 := Blk.new w [_, _, _, _, _, _, _] 25
  have hva := hv.fr hFa (fun _ _ _ _ _ h => h)
  have hAa := hA.fr hFa (fun _ _ _ h => h)
  have hsz : ((w.alloc (.cells #[.int .i64 (opOf r : Int), .slice uA un uc, .int .i64 um, .int .i64 ux, .bool false, .bool false, .slice vA vn vc] 25))).heap.size = w.heap.size + 1 := by simp
  have HI := Lib.hid (And.intro hAa (And.intro hva (And.intro hFa (And.intro hsz hl))))
  clear hv hA hva hAa hFa hsz hl
  go_enter Tryd.func35, Tryd.ntmps35
  go_wp2_with (at_builtin; ((refine app_setb _ (w.heap.size + 1) HI.out.2.2.2.1 rfl _ _ rfl rfl (.slice (some ⟨b1, o1, none⟩) (t.size + 1) c1) A rfl HI.out.1 (by rw [HI.out.2.2.2.2]; omega) (by rw [HI.out.2.2.2.2]; omega) ?_); intro g c w1 hs1 hF1; rw [HI.out.2.2.2.2]))
  generalize (w.alloc (.cells #[.int .i64 (opOf r : Int), .slice uA un uc, .int .i64 um, .int .i64 ux, .bool false, .bool false, .slice vA vn vc] 25)) = W2 at *
  have hw2 : w.heap.size ≤ W2.heap.size := HI.out.2.2.1.size
  go_loopg [11, 12] (lo + 1) (fun gg s i wr => ∃ (k g c : Nat) (B : List Bool), k ≤ lo ∧ gg = lo - k + 1 ∧ i = .int .i64 (k : Int) ∧ s = .slice (some ⟨g, 0, none⟩) (t.size + 1) c ∧ NewSet wr w.heap.size g c B ∧ Hid (B.length = t.size + 1 ∧ ∀ j, On B j ↔ Ends (Pow_ (Lang r) k) (bytesOf t) (On A) j) ∧ Fr (fun _ => False) W2 wr)
  case atStart => exact ⟨0, g, c, A, by omega, by omega, rfl, rfl, hs1.base hw2, Lib.hid ⟨HI.out.2.2.2.2, fun j => by
    rw [show Pow_ (Lang r) 0 = One_ from rfl, ends_one]
    exact ⟨fun h => ⟨by rw [bytes_len]; exact on_le (n := t.size) HI.out.2.2.2.2 h, h⟩, fun h => h.2⟩⟩, hF1⟩
  case round =>
    clear hs1 hF1
    obtain ⟨k, g, c, B, hk, rfl, rfl, rfl, hB, hBp, hF⟩ := hrel
    by_cases hlt : k < lo
    · have e1 : (k : Int) < (lo : Int) := by omega
      have hBr := hB0.fr hF (fun h => h)
      have y0 := hBr.cell 0 rfl
      have y1 := hBr.cell 1 rfl
      have y2 := hBr.cell 2 rfl
      have y3 := hBr.cell 3 rfl
      have y4 := hBr.cell 4 rfl
      have y5 := hBr.cell 5 rfl
      have y6 := hBr.cell 6 rfl
      have hBs : SetAt wr (.slice (some ⟨g, 0, none⟩) (t.size + 1) c) B := by have := hB.set; rw [hBp.out.1] at this; exact this
      have hc := hr wr _ _ t B (HI.out.2.1.fr hF (fun _ _ _ _ _ h => h)) hBs hBp.out.1 ht
      have HX := Lib.hid (And.intro hB hF)
      clear hB hF hBs hBr
      go_wp2_with fail
      refine hc.mono ?_
      rintro e w3 ⟨g', c', B', rfl, hB', hl', hE', hf'⟩
      clear hc y0 y1 y2 y3 y4 y5 y6
      rw [hl', hBp.out.1]
      have HY := Lib.hid (And.intro hB' (And.intro hE' (And.intro hf' hl')))
      clear hB' hE' hf' hl'
      go_wp2_with fail
      go_roundg (lo - (k + 1) + 1)
      case measure => omega
      case rel =>
        obtain ⟨hB', hE', hf', hl'⟩ := HY.out
        refine ⟨k + 1, g', c', B', by omega, rfl, by simp, rfl, hB'.base (Nat.le_trans hw2 HX.out.2.size), Lib.hid ⟨by rw [hl', hBp.out.1], fun j => ?_⟩, HX.out.2.trans hf' (fun _ _ h => h)⟩
        rw [hE' j]
        have h1 : Ends (Lang r) (bytesOf t) (On B) j ↔ Ends (Lang r) (bytesOf t) (Ends (Pow_ (Lang r) k) (bytesOf t) (On A)) j := ends_mono (fun _ _ => Iff.rfl) (fun i _ => hBp.out.2 i) j
        rw [h1, ← ends_seq]
        exact ends_mono (fun w _ => (pow_snoc k w).symm) (fun _ _ => Iff.rfl) j
    · obtain rfl : k = lo := by omega
      have e1 : ¬ ((k : Int) < (k : Int)) := by omega
      have hBs : SetAt wr (.slice (some ⟨g, 0, none⟩) (t.size + 1) c) B := by have := hB.set; rw [hBp.out.1] at this; exact this
      have HX := Lib.hid (And.intro hB (And.intro hF hBs))
      clear hB hF hBs
      go_wp2_with (at_builtin; ((refine app_setb _ wr.heap.size rfl rfl _ _ rfl rfl (.slice (some ⟨g, 0, none⟩) (t.size + 1) c) B rfl HX.out.2.2 (by rw [hBp.out.1]; omega) (by rw [hBp.out.1]; omega) ?_); intro g2 c2 w2 hs2 hF2; rw [hBp.out.1]))
      have hFw : Fr (fun _ => False) W2 w2 := HX.out.2.1.trans hF2 (fun _ _ h => h)
      have hcur := HX.out.1.fr hF2 (fun h => h)
      have hout := hs2.base (Nat.le_trans hw2 HX.out.2.1.size)
      have HW := Lib.hid (And.intro hcur (And.intro hout hFw))
      clear hs2 hF2 hFw hcur hout HX
      go_loopg [11, 13, 14] ((h - k) + 1) (fun gg s o i wr => ∃ (m I g c g2 c2 : Nat) (B B2 : List Bool), m ≤ (h - k) ∧ gg = (h - k) - m + 1 ∧ i = .int .i64 (I : Int) ∧ s = .slice (some ⟨g, 0, none⟩) (t.size + 1) c ∧ o = .slice (some ⟨g2, 0, none⟩) (t.size + 1) c2 ∧ Hid (I = k + m) ∧ NewSet wr w.heap.size g c B ∧ NewSet wr w.heap.size g2 c2 B2 ∧ Hid (B.length = t.size + 1 ∧ B2.length = t.size + 1 ∧ (∀ j, On B j ↔ Ends (Pow_ (Lang r) (k + m)) (bytesOf t) (On A) j) ∧ (∀ j, On B2 j ↔ Ends (UpW (Lang r) k m) (bytesOf t) (On A) j)) ∧ Fr (fun _ => False) W2 wr)
      case atStart => exact ⟨0, k, g, c, g2, c2, B, B, by omega, rfl, rfl, rfl, rfl, Lib.hid rfl, HW.out.1, HW.out.2.1, Lib.hid ⟨hBp.out.1, hBp.out.1, hBp.out.2, fun j => (hBp.out.2 j).trans (ends_mono (fun w _ => (up_zero w).symm) (fun _ _ => Iff.rfl) j)⟩, HW.out.2.2⟩
      case round =>
        clear HW hBp B
        obtain ⟨m, I, g, c, g2, c2, B, B2, hm, rfl, rfl, rfl, rfl, hI, hB, hB2, hBp, hF⟩ := hrel
        have hI2 : I ≤ 3000 := by have := hI.out; omega
        by_cases hlt : m < (h - k)
        · have e2 : (I : Int) < (h : Int) := by have := hI.out; omega
          have e3 : ¬ ((h : Int) < 0) := by omega
          have hBr := hB0.fr hF (fun h => h)
          have y0 := hBr.cell 0 rfl
          have y1 := hBr.cell 1 rfl
          have y2 := hBr.cell 2 rfl
          have y3 := hBr.cell 3 rfl
          have y4 := hBr.cell 4 rfl
          have y5 := hBr.cell 5 rfl
          have y6 := hBr.cell 6 rfl
          have hBs : SetAt wr (.slice (some ⟨g, 0, none⟩) (t.size + 1) c) B := by have := hB.set; rw [hBp.out.1] at this; exact this
          have hBs2 : SetAt wr (.slice (some ⟨g2, 0, none⟩) (t.size + 1) c2) B2 := by have := hB2.set; rw [hBp.out.2.1] at this; exact this
          have hc := hr wr _ _ t B (HI.out.2.1.fr hF (fun _ _ _ _ _ h => h)) hBs hBp.out.1 ht
          have HX := Lib.hid (And.intro hBs2 hF)
          clear hB hB2 hF hBs hBs2 hBr
          go_wp2_with fail
          refine hc.mono ?_
          rintro e w3 ⟨g', c', B', rfl, hB', hl', hE', hf'⟩
          clear hc y0 y1 y2 y3 y4 y5 y6
          rw [hl', hBp.out.1]
          have hBs' : SetAt w3 (.slice (some ⟨g', 0, none⟩) (t.size + 1) c') B' := by have := hB'.set; rw [hl', hBp.out.1] at this; exact this
          have hei := either_spec (HX.out.1.fr hf' (fun _ _ _ h => h)) hBs' (by rw [hBp.out.2.1, hl', hBp.out.1]) (by rw [hBp.out.2.1]; omega) (by rw [hBp.out.2.1]; omega)
          have HY := Lib.hid (And.intro hE' (And.intro hf' (And.intro hl' hB')))
          clear hB' hE' hf' hl' hBs'
          go_wp2_with fail
          refine hei.mono ?_
          rintro e w4 ⟨g4, c4, rfl, hB4, hf4⟩
          clear hei
          rw [hBp.out.2.1]
          have HZ := Lib.hid (And.intro hB4 hf4)
          clear hB4 hf4
          go_wp2_with fail
          go_roundg ((h - k) - (m + 1) + 1)
          case measure => omega
          case rel =>
            obtain ⟨hE', hf', hl', hB'⟩ := HY.out
            obtain ⟨hB4, hf4⟩ := HZ.out
            have hll : B2.length = B'.length := by rw [hBp.out.2.1, hl', hBp.out.1]
            have hpow : ∀ j, On B' j ↔ Ends (Pow_ (Lang r) (k + (m + 1))) (bytesOf t) (On A) j := fun j => by
              rw [hE' j]
              have h1 : Ends (Lang r) (bytesOf t) (On B) j ↔ Ends (Lang r) (bytesOf t) (Ends (Pow_ (Lang r) (k + m)) (bytesOf t) (On A)) j := ends_mono (fun _ _ => Iff.rfl) (fun i _ => hBp.out.2.2.1 i) j
              rw [h1, ← ends_seq]
              exact ends_mono (fun w _ => (pow_snoc (k + m) w).symm) (fun _ _ => Iff.rfl) j
            refine ⟨m + 1, I + 1, g', c', g4, c4, B', zipOr B2 B', by omega, rfl, by simp, rfl, rfl, Lib.hid (by have := hI.out; omega), (hB'.fr hf4 (fun h => h)).base (Nat.le_trans hw2 HX.out.2.size), hB4.base (Nat.le_trans hw2 (Nat.le_trans HX.out.2.size hf'.size)), Lib.hid ⟨by rw [hl', hBp.out.1], by rw [zipOr_len hll, hBp.out.2.1], hpow, fun j => ?_⟩, (HX.out.2.trans hf' (fun _ _ h => h)).trans hf4 (fun _ _ h => h)⟩
            rw [on_zip hll, hBp.out.2.2.2 j, hpow j, ← ends_or]
            exact ends_mono (fun w _ => (up_succ w).symm) (fun _ _ => Iff.rfl) j
        · have hme : m = h - k := by omega
          subst hme
          have e2 : ¬ ((I : Int) < (h : Int)) := by have := hI.out; omega
          have e3 : ¬ ((h : Int) < 0) := by omega
          have HX := Lib.hid (And.intro hB2 hF)
          clear hB hB2 hF
          go_wp2_with fail
          go_ret
          refine ⟨g2, c2, B2, by rw [hBp.out.2.1]; rfl, HX.out.1, by rw [hBp.out.2.1, HI.out.2.2.2.2], fun j => ?_, HI.out.2.2.1.trans HX.out.2 (fun _ _ h => h)⟩
          rw [hBp.out.2.2.2 j]
          exact ends_mono (fun w _ => up_some hlh w) (fun _ _ => Iff.rfl) j
end Go.Proofs.YtjeklnbfpehbeaaDoor

/- 'Reached' of the law's own side at any expression. Condition: the expression is right, the text at most 40 bytes. -/
namespace Go.Proofs.YtjeklnbfpehbeaaDoor
open Go.RowKit

theorem times_subs {q r : RE} {lo : Nat} {hi : Option Nat} (ht : timesOf q = some (r, lo, hi)) : subsOf q = [r] ∧ 14 ≤ opOf q ∧ opOf q ≤ 17 := by
  cases q <;> simp [timesOf] at ht <;> simp [subsOf, opOf, ht]

set_option maxRecDepth 100000 in
set_option maxHeartbeats 4000000 in
theorem rc_times {q r : RE} {lo : Nat} {hi : Option Nat} (hwf : WfR q) (hti : timesOf q = some (r, lo, hi)) (ih : RC r) : RC q := by
  intro w v fv t A hv hA hl ht
  obtain ⟨hlang, hwr, hhi, hlo⟩ := lang_times hwf hti
  obtain ⟨hsub, ho1, ho2⟩ := times_subs hti
  have hvv := hv
  obtain @⟨_, vA, vc, rv, um, ux, xs, hru, hr0, hm, hx, hs⟩ := hv
  obtain ⟨uA, uc, hrv, -⟩ := id hru
  obtain ⟨un, hun⟩ : ∃ z, Hid (z = (runesOf q).length) := ⟨_, Lib.hid rfl⟩
  rw [← hun.out] at hrv
  subst hrv
  have HKd : Hid (KidsR w q vA xs) := Lib.hid ⟨hx, hs⟩
  clear hru hr0 hm hx hs
  obtain ⟨o, ho⟩ : ∃ o, Hid (o = opOf q) := ⟨_, Lib.hid rfl⟩
  rw [← ho.out] at ho1 ho2 hvv ⊢
  have hsl : (subsOf q).length = 1 := by rw [hsub]; rfl
  rw [hsl] at hvv ⊢
  have hA0 := hA
  obtain ⟨b1, o1, c1, cs1, rfl, hcA, hbA, hcellA⟩ := hA0
  rw [hl] at hA ⊢
  have HA := Lib.hid (And.intro hA (And.intro hbA (And.intro hcellA hl)))
  have hmk : ∀ X : World, (Instr.makeSlice 30 (.int .i64 ((t.size : Int) + 1)) (.int .i64 ((t.size : Int) + 1))).run Tryd.prog X = .ok (.slice (some ⟨X.heap.size, 0, none⟩) (t.size + 1) (t.size + 1)) (X.alloc (.cells ((List.replicate (t.size + 1) false).map Value.bool).toArray 4)) := fun X => run_mk_bool (t.size + 1) (by omega) X
  generalize hC : ((List.replicate (t.size + 1) false).map Value.bool).toArray = C at hmk
  have HC := Lib.hid hC
  clear hC hA hbA hcellA hcA hl
  have hF2 : Fr (fun _ => False) w ((w.alloc (.cells #[.int .i64 (o : Int), .slice uA un uc, .int .i64 um, .int .i64 ux, .bool false, .bool false, .slice vA 1 vc] 25)).alloc (.cells C 4)) := ((Fr.refl _ w).alloc _).alloc _
  have hB0 : Blk ((w.alloc (.cells #[.int .i64 (o : Int), .slice uA un uc, .int .i64 um, .int .i64 ux, .bool false, .bool false, .slice vA 1 vc] 25)).alloc (.cells C 4)) w.heap.size [.int .i64 (o : Int), .slice uA un uc, .int .i64 um, .int .i64 ux, .bool false, .bool false, .slice vA 1 vc] 25 := (Blk.new w [_, _, _, _, _, _, _] 25).alloc _
  have hO : NewSet ((w.alloc (.cells #[.int .i64 (o : Int), .slice uA un uc, .int .i64 um, .int .i64 ux, .bool false, .bool false, .slice vA 1 vc] 25)).alloc (.cells C 4)) w.heap.size (w.heap.size + 1) (t.size + 1) (List.replicate (t.size + 1) false) := (newset_of (by
    have h := Blk.newAt (w.alloc (.cells (#[.int .i64 (o : Int), .slice uA un uc, .int .i64 um, .int .i64 ux, .bool false, .bool false, .slice vA 1 vc]) 25)) ((List.replicate (t.size + 1) false).map Value.bool) 4 (w.heap.size + 1) (by simp)
    rw [HC.out] at h
    exact h) (by simp)).base (by omega)
  have hA2 : SetAt ((w.alloc (.cells #[.int .i64 (o : Int), .slice uA un uc, .int .i64 um, .int .i64 ux, .bool false, .bool false, .slice vA 1 vc] 25)).alloc (.cells C 4)) (.slice (some ⟨b1, o1, none⟩) (t.size + 1) c1) A := HA.out.1.fr hF2 (fun _ _ _ h => h)
  have hsz : (((w.alloc (.cells #[.int .i64 (o : Int), .slice uA un uc, .int .i64 um, .int .i64 ux, .bool false, .bool false, .slice vA 1 vc] 25)).alloc (.cells C 4))).heap.size = w.heap.size + 1 + 1 := by simp
  have y0 := hB0.cell 0 rfl
  have y1 := hB0.cell 1 rfl
  have y2 := hB0.cell 2 rfl
  have y3 := hB0.cell 3 rfl
  have y4 := hB0.cell 4 rfl
  have y5 := hB0.cell 5 rfl
  have y6 := hB0.cell 6 rfl
  have htc := times_calls ((w.alloc (.cells #[.int .i64 (o : Int), .slice uA un uc, .int .i64 um, .int .i64 ux, .bool false, .bool false, .slice vA 1 vc] 25)).alloc (.cells C 4)) (hvv.fr hF2 (fun _ _ _ _ _ h => h)) hti
  obtain ⟨b, ob, x0, x1, x2, x3, x4, x5, x6, hvA, -⟩ := HKd.out.get hF2 (fun _ _ h => h) (k := 0) (show (subsOf q)[0]? = some r by rw [hsub]; rfl)
  subst hvA
  have HI := Lib.hid (And.intro hA2 (And.intro hF2 (And.intro hB0 (And.intro hsub (And.intro hlang (And.intro hhi hlo))))))
  clear hF2 hA2 hsz hO hB0 hvv hsub hlang hhi hlo hsl
  have n2 : ¬ ((o : Int) = 2) := by omega
  have e2 : ((o : Int) == 2) = false := by rw [beq_eq_false_iff_ne]; omega
  have n3 : ¬ ((o : Int) = 3) := by omega
  have e3 : ((o : Int) == 3) = false := by rw [beq_eq_false_iff_ne]; omega
  have n4 : ¬ ((o : Int) = 4) := by omega
  have e4 : ((o : Int) == 4) = false := by rw [beq_eq_false_iff_ne]; omega
  have n6 : ¬ ((o : Int) = 6) := by omega
  have e6 : ((o : Int) == 6) = false := by rw [beq_eq_false_iff_ne]; omega
  have n5 : ¬ ((o : Int) = 5) := by omega
  have e5 : ((o : Int) == 5) = false := by rw [beq_eq_false_iff_ne]; omega
  have n18 : ¬ ((o : Int) = 18) := by omega
  have e18 : ((o : Int) == 18) = false := by rw [beq_eq_false_iff_ne]; omega
  have n19 : ¬ ((o : Int) = 19) := by omega
  have e19 : ((o : Int) == 19) = false := by rw [beq_eq_false_iff_ne]; omega
  have n13 : ¬ ((o : Int) = 13) := by omega
  have e13 : ((o : Int) == 13) = false := by rw [beq_eq_false_iff_ne]; omega
  go_enter Tryd.func22, Tryd.ntmps22
  go_wp2_with fail
  refine htc.mono ?_
  rintro e w3 ⟨rfl, hf3⟩
  clear htc y0 y1 y2 y3 y4 y5 y6
  have y6 := (HI.out.2.2.1.fr hf3 (fun h => h)).cell 6 rfl
  obtain ⟨b', ob', x0, x1, x2, x3, x4, x5, x6, hvA, hre, z0, z1, z2, z3, z4, z5, z6⟩ := HKd.out.get (HI.out.2.1.trans hf3 (fun _ _ h => h)) (fun _ _ h => h) (k := 0) (show (subsOf q)[0]? = some r by rw [HI.out.2.2.2.1]; rfl)
  simp at hvA
  obtain ⟨rfl, rfl⟩ := hvA
  simp only [Nat.zero_mul, Nat.add_zero] at z0 z1 z2 z3 z4 z5 z6
  have hc : Calls Tryd.prog 35 #[.agg #[x0, x1, x2, x3, x4, x5, x6], .string t, .slice (some ⟨b1, o1, none⟩) (t.size + 1) c1, .int .i64 (lo : Int), .int .i64 (maxOf hi)] w3 (RpdPost w3 (RepW (Lang r) lo hi) (bytesOf t) A) := by
    have hAx := HI.out.1.fr hf3 (fun _ _ _ h => h)
    cases hi with
    | none => exact rpd_none ih hre hAx HA.out.2.2.2 ht HI.out.2.2.2.2.2.2
    | some h => exact rpd_some ih hre hAx HA.out.2.2.2 ht HI.out.2.2.2.2.2.2 (HI.out.2.2.2.2.2.1 h rfl).1 (HI.out.2.2.2.2.2.1 h rfl).2
  have hf3H := Lib.hid hf3
  clear hre hf3
  generalize maxOf hi = mxv at *
  go_wp2_with fail
  refine hc.mono ?_
  rintro e w4 ⟨g', c', B', rfl, hB', hl', hE', hf'⟩
  clear hc z0 z1 z2 z3 z4 z5 z6 y6
  have HY := Lib.hid (And.intro hB' (And.intro hE' (And.intro hf' hl')))
  clear hB' hE' hf' hl'
  go_wp2_with fail
  go_ret
  obtain ⟨hB', hE', hf', hl'⟩ := HY.out
  exact ⟨g', c', B', rfl, hB'.base (Nat.le_trans HI.out.2.1.size hf3H.out.size), hl', fun j => by rw [hE' j]; exact ends_mono (fun w _ => (HI.out.2.2.2.2.1 w).symm) (fun _ _ => Iff.rfl) j, (HI.out.2.1.trans hf3H.out (fun _ _ h => h)).trans hf' (fun _ _ h => h)⟩

/-- 'Reached' at any right expression. -/
theorem reached_calls (r : RE) : WfR r → RC r := by
  refine RE.ind (P := fun r => WfR r → RC r) ?_ ?_ ?_ ?_ ?_ ?_ ?_ ?_ ?_ ?_ ?_ ?_ r
  · intro _; exact rc_emp
  · intro rs h; exact rc_lit rs h
  · intro l h; exact rc_cls l h
  · intro _; exact rc_any
  · intro _; exact rc_anyNl
  · intro l ih h
    simp only [WfR] at h
    exact rc_cat l h.1 (fun r hr => ih r hr (WfL_mem h.2 r hr))
  · intro l ih h
    simp only [WfR] at h
    exact rc_alt l h.2.1 (fun r hr => ih r hr (WfL_mem h.2.2 r hr))
  · intro r ih h; exact rc_times h rfl (ih (lang_times h rfl).2.1)
  · intro r ih h; exact rc_times h rfl (ih (lang_times h rfl).2.1)
  · intro r ih h; exact rc_times h rfl (ih (lang_times h rfl).2.1)
  · intro mn mx r ih h; exact rc_times h rfl (ih (lang_times h rfl).2.1)
  · intro r ih h; simp only [WfR] at h; exact rc_cap r (ih h)
end Go.Proofs.YtjeklnbfpehbeaaDoor
