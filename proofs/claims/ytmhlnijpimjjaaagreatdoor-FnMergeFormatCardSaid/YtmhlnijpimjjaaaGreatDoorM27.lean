/- The short codes of all bytes, and the bytes of all codes. No condition. The reference: whether maps are not too large in all. Condition: sizes below 2^31, at most 200 maps. Order of keys once more: the world is as it was. Pairs in a row of one's own. Condition: keys below 2^62 bytes. -/
import Derived.Test.YtmhlnijpimjjaaaGreatDoorM26
import Derived.Test.YtmhlnijpimjjaaaGreatDoorM15
import Derived.Test.YtmhlnijpimjjaaaGreatDoorM19
import Derived.Deep.DeepCutAuto
import Derived.Test.YtmhlnijpimjjaaaGreatDoorM21
set_option linter.unusedSimpArgs false
set_option linter.unusedVariables false
namespace Go.Proofs.YtmhlnijpimjjaaaGreatDoor
section
open Go.RowKit Fmt
/-- The bytes of codes, as far as bytes below b were looked at. -/
def bkL (b : Nat) : List Nat := (List.range 64).map fun k => if k ≠ 0 ∧ backN k < b then backN k else 0
theorem bkL_len (b : Nat) : (bkL b).length = 64 := by simp [bkL]
theorem code_back : ∀ k, k < 64 → k ≠ 0 → codesN (backN k) = k ∧ backN k < 256 := by decide +kernel
theorem bkL_at {b k : Nat} (hk : k < 64) : (bkL b)[k]? = some (if k ≠ 0 ∧ backN k < b then backN k else 0) := by
 unfold bkL
 rw [List.getElem?_map, List.getElem?_range hk]; rfl
theorem bkL_same {b : Nat} (h : codesN b = 0) : bkL (b + 1) = bkL b := by
 unfold bkL
 refine List.map_congr_left fun k hk => ?_
 have hk := List.mem_range.1 hk
 by_cases h0 : k = 0
 ·simp [h0]
 ·have hc := (code_back k hk h0).1
  have hne : backN k ≠ b := fun e => by rw [e, h] at hc; exact h0 hc.symm
  by_cases hb : backN k < b
  ·rw [if_pos ⟨h0, by omega⟩, if_pos ⟨h0, hb⟩]
  ·rw [if_neg (by omega), if_neg (by omega)]
theorem bkL_set {b : Nat} (hb : b < 256) (h : codesN b ≠ 0) : bkL (b + 1) = (bkL b).set (codesN b) b := by
 have hlt := codesOk.lt b
 have hinv := codesOk.inv b h
 apply List.ext_getElem?
 intro k
 by_cases hk : k < 64
 ·rw [bkL_at hk, List.getElem?_set, bkL_len]
  by_cases he : codesN b = k
  ·rw [if_pos he, if_pos hlt]
   rw [he] at hinv h
   rw [if_pos ⟨h, by omega⟩, hinv]
  ·rw [if_neg he, bkL_at hk]
   by_cases h0 : k = 0
   ·simp [h0]
   ·have hc := (code_back k hk h0).1
    have hne : backN k ≠ b := fun e => by rw [e] at hc; exact he hc
    by_cases hb : backN k < b
    ·rw [if_pos ⟨h0, by omega⟩, if_pos ⟨h0, hb⟩]
    ·rw [if_neg (by omega), if_neg (by omega)]
 ·rw [List.getElem?_eq_none (by rw [bkL_len]; omega), List.getElem?_eq_none (by rw [List.length_set, bkL_len]; omega)]
theorem bkL_zero : bkL 0 = List.replicate 64 0 := by decide +kernel
/-- What codes gives. -/
def CodesPost (w : World) (e : Ending) (w' : World) : Prop := ∃ gc gb, e = .returned (.tuple #[.slice (some ⟨gc, 0, none⟩) 256 256, .slice (some ⟨gb, 0, none⟩) 64 64]) ∧ Blk w' gb (u8s (bkL 256)) 5 ∧ w.heap.size ≤ gb ∧ Fr (fun _ => False) w w'
set_option maxHeartbeats 2000000 in
set_option maxRecDepth 100000 in
theorem codes_calls {w : World} {col : Col} (hT : Tabs w col) : Calls Tryz.prog 9 #[] w fun e w' => CodesPost w e w' := by
 obtain ⟨Z1, hZ1⟩ : ∃ Z : List Nat, Hid (List.replicate 256 0 = Z) := ⟨_, Lib.hid rfl⟩
 obtain ⟨Z2, hZ2⟩ : ∃ Z : List Nat, Hid (List.replicate 64 0 = Z) := ⟨_, Lib.hid rfl⟩
 have hmk1 : ∀ W : World, (Instr.makeSlice 29 (.int .i64 256) (.int .i64 256)).run Tryz.prog W = .ok (.slice (some ⟨W.heap.size, 0, none⟩) 256 256) (W.alloc (.cells (u8s Z1).toArray 5)) := fun W => by rw [← hZ1.out]; exact run_mk_u8 256 256 (by omega) (by omega) .i64 .i64 W
 have hmk2 : ∀ W : World, (Instr.makeSlice 29 (.int .i64 64) (.int .i64 64)).run Tryz.prog W = .ok (.slice (some ⟨W.heap.size, 0, none⟩) 64 64) (W.alloc (.cells (u8s Z2).toArray 5)) := fun W => by rw [← hZ2.out]; exact run_mk_u8 64 64 (by omega) (by omega) .i64 .i64 W
 have HT := Lib.hid hT
 clear hT
 go_enter Tryz.func9, Tryz.ntmps9
 go_upto_region 1 with fail
 go_cut [0, 1] from 5 to 6 (fun s0 s1 wx => ∃ gc gb, s0 = .slice (some ⟨gc, 0, none⟩) 256 256 ∧ s1 = .slice (some ⟨gb, 0, none⟩) 64 64 ∧ Blk wx gc (u8s Z1) 5 ∧ Blk wx gb (u8s Z2) 5 ∧ gc ≠ gb ∧ w.heap.size ≤ gc ∧ w.heap.size ≤ gb ∧ Fr (fun _ => False) w wx)
 case first =>
  refine wp_region_fork (by kernel_rfl) ?_
  refine anyF_fork (i := 0) (L := [1]) (by kernel_rfl) ?_
  intro j hj
  have hj' : j = 0 ∨ j = 1 := by simpa using hj
  clear hj
  rcases hj' with rfl | rfl
  ·refine wpOp_run rfl ?_
   go_simp
   refine anyF_fork (i := 1) (L := [2]) (by kernel_rfl) ?_
   intro j hj
   have hj' : j = 1 ∨ j = 2 := by simpa using hj
   clear hj
   rcases hj' with rfl | rfl
   ·refine wpOp_run rfl ?_
    go_simp
    refine anyF_fork (i := 2) (L := []) (by kernel_rfl) ?_
    intro j hj
    obtain rfl : j = 2 := by simpa using hj
    refine wpOp_run rfl ?_
    go_simp
    refine anyF_fork (i := 3) (L := []) (by kernel_rfl) ?_
    intro j hj
    obtain rfl : j = 3 := by simpa using hj
    refine wpOp_run rfl ?_
    go_simp
    refine anyF_end (by kernel_rfl) ?_
    go_wp2_with fail
    go_meet
    refine ⟨w.heap.size, w.heap.size + 1, rfl, by simp, ?_, ?_, by omega, Nat.le_refl _, by omega, ((Fr.refl _ w).drew.alloc _).alloc _⟩
    ·exact (Blk.newAt w.drew (u8s Z1) 5 _ rfl).alloc _
    ·exact Blk.newAt (w.drew.alloc (.cells (u8s Z1).toArray 5)) (u8s Z2) 5 _ (by simp)
   ·refine wpOp_run rfl ?_
    go_simp
    refine anyF_fork (i := 1) (L := []) (by kernel_rfl) ?_
    intro j hj
    obtain rfl : j = 1 := by simpa using hj
    refine wpOp_run rfl ?_
    go_simp
    refine anyF_fork (i := 3) (L := []) (by kernel_rfl) ?_
    intro j hj
    obtain rfl : j = 3 := by simpa using hj
    refine wpOp_run rfl ?_
    go_simp
    refine anyF_end (by kernel_rfl) ?_
    go_wp2_with fail
    go_meet
    refine ⟨w.heap.size, w.heap.size + 1, rfl, by simp, ?_, ?_, by omega, Nat.le_refl _, by omega, ((Fr.refl _ w).drew.alloc _).alloc _⟩
    ·exact (Blk.newAt w.drew (u8s Z1) 5 _ rfl).alloc _
    ·exact Blk.newAt (w.drew.alloc (.cells (u8s Z1).toArray 5)) (u8s Z2) 5 _ (by simp)
  ·refine wpOp_run rfl ?_
   go_simp
   refine anyF_fork (i := 0) (L := []) (by kernel_rfl) ?_
   intro j hj
   obtain rfl : j = 0 := by simpa using hj
   refine wpOp_run rfl ?_
   go_simp
   refine anyF_fork (i := 2) (L := []) (by kernel_rfl) ?_
   intro j hj
   obtain rfl : j = 2 := by simpa using hj
   refine wpOp_run rfl ?_
   go_simp
   refine anyF_fork (i := 3) (L := []) (by kernel_rfl) ?_
   intro j hj
   obtain rfl : j = 3 := by simpa using hj
   refine wpOp_run rfl ?_
   go_simp
   refine anyF_end (by kernel_rfl) ?_
   go_wp2_with fail
   go_meet
   refine ⟨w.heap.size + 1, w.heap.size, by simp, rfl, ?_, ?_, by omega, by omega, Nat.le_refl _, ((Fr.refl _ w).drew.alloc _).alloc _⟩
   ·exact Blk.newAt (w.drew.alloc (.cells (u8s Z2).toArray 5)) (u8s Z1) 5 _ (by simp)
   ·exact (Blk.newAt w.drew (u8s Z2) 5 _ rfl).alloc _
 case rest =>
 obtain ⟨gc, gb, rfl, rfl, hbc, hbb, hne, hs1, hs2, hF⟩ := hcut
 have ho := other_cell (fun e => hne e.symm : gb ≠ gc)
 have ho2 := other_cell hne
 have HS : Hid (∃ cs, cs.length = 256 ∧ Blk wc gc (u8s cs) 5 ∧ Blk wc gb (u8s (bkL 0)) 5 ∧ Fr (fun _ => False) w wc) := Lib.hid ⟨Z1, by rw [← hZ1.out]; simp, hbc, by rw [bkL_zero, hZ2.out]; exact hbb, hF⟩
 have HN := Lib.hid (And.intro hne (And.intro hs1 hs2))
 clear hbc hbb hF hne hs1 hs2 hmk1 hmk2
 go_wp2_with fail
 go_loopg [2] 257 (fun g i wx => ∃ k : Nat, k ≤ 256 ∧ g = 256 - k + 1 ∧ i = .int .i64 (k : Int) ∧ ∃ cs, cs.length = 256 ∧ Blk wx gc (u8s cs) 5 ∧ Blk wx gb (u8s (bkL k)) 5 ∧ Fr (fun _ => False) w wx)
 case atStart => exact ⟨0, by omega, by omega, rfl, HS.out⟩
 case round =>
  obtain ⟨k, hk, hg, rfl, cs, hcs, hbc, hbb, hF⟩ := hrel
  have HG := Lib.hid hg
  clear hg HS
  by_cases hkn : k < 256
  ·have e1 : (k : Int) < 256 := by omega
   have e2 : IntKind.u8.wrap (k : Int) = (k : Int) := by rw [IntKind.wrap_u8]; omega
   have e3 : IntKind.i64.wrap ((k : Int) + 1) = ((k + 1 : Nat) : Int) := by rw [IntWalk.i64_in _ (by omega)]; omega
   have hcm := common_calls (HT.out.kp (Kp.news (C := fun d => d = 1) hF 1 rfl) (by omega)) hkn
   obtain ⟨x1, hx1⟩ : ∃ x, (u8s cs)[k]? = some (.int .u8 (x : Int)) := by
    obtain ⟨x, hx⟩ : ∃ x, cs[k]? = some x := ⟨_, List.getElem?_eq_getElem (by omega)⟩
    exact ⟨x, u8s_at hx⟩
   have c1 := hbc.cell k hx1
   have z1 := hbc.frz k
   have hlt := codesOk.lt k
   obtain ⟨x2, hx2⟩ : ∃ x, (u8s (bkL k))[codesN k]? = some (.int .u8 (x : Int)) := by
    obtain ⟨x, hx⟩ : ∃ x, (bkL k)[codesN k]? = some x := ⟨_, List.getElem?_eq_getElem (by rw [bkL_len]; omega)⟩
    exact ⟨x, u8s_at hx⟩
   have c2 := hbb.cell (codesN k) hx2
   have z2 := hbb.frz (codesN k)
   have H := Lib.hid (And.intro hcs (And.intro hbc (And.intro hbb hF)))
   have HL := Lib.hid hlt
   by_cases h0 : codesN k = 0
   ·have HB := Lib.hid (bkL_same h0)
    rw [h0] at hcm
    clear hcs hbc hbb hF hx1 hx2 hlt h0 c1 z1 c2 z2
    go_wp2_with fail
    refine hcm.mono ?_
    rintro e w2 ⟨⟨z, rfl, _⟩, rfl⟩
    clear hcm
    go_wp2_with fail
    go_roundg (256 - (k + 1) + 1)
    case measure => have := HG.out; omega
    case rel => exact ⟨k + 1, by omega, rfl, by simp, cs, H.out.1, H.out.2.1, by rw [HB.out]; exact H.out.2.2.1, H.out.2.2.2⟩
   ·have HB := Lib.hid (bkL_set hkn h0)
    have d1 : (0 : Int) < (codesN k : Int) := by omega
    have d2 : (codesN k : Int) < 64 := by omega
    obtain ⟨cd, hcd⟩ : ∃ cd, Hid (codesN k = cd) := ⟨_, Lib.hid rfl⟩
    have h1 : 1 ≤ codesN k := by omega
    have H1 := Lib.hid h1
    rw [hcd.out] at hcm d1 d2 c2 z2 HB
    clear hcs hbc hbb hF hx1 hx2 hlt h0 h1
    go_wp2_with fail
    refine hcm.mono ?_
    rintro e w2 ⟨⟨z, rfl, hz⟩, rfl⟩
    have HZ := Lib.hid hz
    clear hcm hz
    go_wp2_with fail
    go_roundg (256 - (k + 1) + 1)
    case measure => have := HG.out; omega
    case rel =>
     have hzk := HZ.out (by rw [← hcd.out]; exact H1.out)
     refine ⟨k + 1, by omega, rfl, by simp, cs.set k cd, by rw [List.length_set]; exact H.out.1, ?_, ?_, ?_⟩
     ·have := (H.out.2.1.set k (.int .u8 (cd : Int))).set_ne (a := ⟨gb, cd, none⟩) HN.out.1 (.int .u8 (z : Int))
      rw [u8s, ← List.map_set] at this
      exact this
     ·rw [HB.out]
      have := (H.out.2.2.1.set_ne (a := ⟨gc, k, none⟩) (fun e => HN.out.1 e.symm) (.int .u8 (cd : Int))).set cd (.int .u8 (z : Int))
      rw [hzk] at this ⊢
      rw [u8s, ← List.map_set] at this
      exact this
     ·refine (H.out.2.2.2.setCell (p := ⟨gc, k, none⟩) (fun h => ?_) _).setCell (p := ⟨gb, cd, none⟩) (fun h => ?_) _
      ·have := HN.out.2.1; simp at h; omega
      ·have := HN.out.2.2; simp at h; omega
  ·obtain rfl : k = 256 := by omega
   have HE := Lib.hid (And.intro hbb hF)
   clear hcs hbc hbb hF
   go_wp2_with fail
   go_ret2
   exact ⟨gc, gb, rfl, HE.out.1, HN.out.2.2, HE.out.2⟩
end
section
open Go.RowKit Fmt
/-- The lengths of all keys of all maps; the number of all pairs. -/
def ksz (L : Prs) : Nat := (L.map fun p => p.1.length).sum
def tot (S : List Prs) : Nat := (S.map ksz).sum
def cnt (S : List Prs) : Nat := (S.map List.length).sum
def Fit1 (S : List Prs) : Prop := tot S ≤ 1048576 ∧ cnt S ≤ 65536
theorem ksz_take {L : Prs} {k : Nat} {p : List Nat × Nat} (h : L[k]? = some p) : ksz (L.take (k + 1)) = ksz (L.take k) + p.1.length := by
 unfold ksz; rw [List.take_add_one, h]; simp
theorem tot_take {S : List Prs} {k : Nat} {L : Prs} (h : S[k]? = some L) : tot (S.take (k + 1)) = tot (S.take k) + ksz L := by
 unfold tot; rw [List.take_add_one, h]; simp
theorem cnt_take {S : List Prs} {k : Nat} {L : Prs} (h : S[k]? = some L) : cnt (S.take (k + 1)) = cnt (S.take k) + L.length := by
 unfold cnt; rw [List.take_add_one, h]; simp
set_option maxHeartbeats 2000000 in
set_option maxRecDepth 100000 in
theorem fit_calls {w : World} {v : Value} {S : List Prs} (h : SetsV w v S) (hf : Fits4 S) (h200 : S.length ≤ 200) : Calls Tryz.prog 13 #[v] w fun e w' => FitB (Fit1 S) e ∧ w' = w := by
 obtain ⟨A, c, rfl, hc, hm⟩ := h.len
 have HH := Lib.hid (And.intro h hf)
 obtain ⟨n, hn⟩ : ∃ n, Hid (S.length = n) := ⟨_, Lib.hid rfl⟩
 rw [hn.out] at h200 hc ⊢
 clear h hf hm hc
 go_enter Tryz.func13, Tryz.ntmps13
 go_wp2_with fail
 go_loopg [5, 3, 4] (n + 1) (fun g i a b wx => ∃ k : Nat, k ≤ n ∧ g = n - k + 1 ∧ i = .int .i64 (k : Int) ∧ a = .int .i64 (tot (S.take k) : Int) ∧ b = .int .i64 (cnt (S.take k) : Int) ∧ tot (S.take k) ≤ 1048576 ∧ cnt (S.take k) ≤ k * 2147483647 ∧ wx = w)
 case atStart => exact ⟨0, by omega, by omega, rfl, rfl, rfl, by simp [tot], by simp [cnt], rfl⟩
 case round =>
  obtain ⟨k, hk, hg, rfl, rfl, rfl, ht, hct, rfl⟩ := hrel
  have HG := Lib.hid hg
  clear hg
  by_cases hkn : k < n
  ·have e1 : (k : Int) < (n : Int) := by omega
   obtain ⟨L, hL⟩ : ∃ L, S[k]? = some L := ⟨_, List.getElem?_eq_getElem (by rw [hn.out]; exact hkn)⟩
   obtain ⟨b, o, c', u, k1, k2, k3⟩ := HH.out.1.at_ hL
   rw [hn.out] at k1
   injection k1 with k1 k1b k1c
   subst k1 k1c
   clear k1b
   obtain ⟨A2, c2, rfl, hc2, hm2⟩ := k3.len
   have hfl := HH.out.2.2 k L hL
   have HL := Lib.hid (And.intro hL (And.intro k3 hfl))
   obtain ⟨t, htn⟩ : ∃ t, Hid (tot (S.take k) = t) := ⟨_, Lib.hid rfl⟩
   obtain ⟨ct, hctn⟩ : ∃ ct, Hid (cnt (S.take k) = ct) := ⟨_, Lib.hid rfl⟩
   rw [htn.out] at ht ⊢
   rw [hctn.out] at hct ⊢
   obtain ⟨m, hmn⟩ : ∃ m, Hid (L.length = m) := ⟨_, Lib.hid rfl⟩
   have hm31 : m ≤ 2147483647 := by have := hfl.1; rw [hmn.out] at this; exact this
   rw [hmn.out] at k2
   obtain ⟨ct2, hct2⟩ : ∃ ct2, Hid (ct + m = ct2) := ⟨_, Lib.hid rfl⟩
   have hct2' := hct2.out
   have e2 : IntKind.i64.wrap ((ct : Int) + (m : Int)) = (ct2 : Int) := by rw [IntWalk.i64_in _ (by omega)]; omega
   have HT := Lib.hid (And.intro ht (And.intro hct hm31))
   have e9 : IntKind.i64.wrap ((k : Int) + 1) = ((k + 1 : Nat) : Int) := by rw [IntWalk.i64_in _ (by omega)]; omega
   clear hc2 hm2 hfl hL k3 ht hct hct2' hm31
   go_wp2_with fail
   go_loopg [6, 3] (m + 1) (fun g i a wx => ∃ j : Nat, j ≤ m ∧ g = m - j + 1 ∧ i = .int .i64 (j : Int) ∧ a = .int .i64 ((t + ksz (L.take j) : Nat) : Int) ∧ t + ksz (L.take j) ≤ 1048576 ∧ wx = wr)
   case atStart => exact ⟨0, by omega, by omega, rfl, by simp [ksz], by have := HT.out.1; simp [ksz]; omega, rfl⟩
   case round =>
    obtain ⟨j, hj, hg2, rfl, rfl, hs, rfl⟩ := hrel
    have HG2 := Lib.hid hg2
    clear hg2
    by_cases hjm : j < m
    ·have d1 : (j : Int) < (m : Int) := by omega
     obtain ⟨p, hp⟩ : ∃ p, L[j]? = some p := ⟨_, List.getElem?_eq_getElem (by rw [hmn.out]; exact hjm)⟩
     obtain ⟨b2, o2, c3, s, j1, j2, j3, j4⟩ := HL.out.2.1.at_ hp
     rw [hmn.out] at j1
     injection j1 with j1 j1b j1c
     subst j1 j1c
     clear j1b j4
     have hps := HL.out.2.2.2 j p hp
     have hsz : s.size = p.1.length := by rw [← j3, bytesOf_len]
     have hkt := ksz_take hp
     obtain ⟨x, hx⟩ : ∃ x, Hid (t + ksz (L.take j) = x) := ⟨_, Lib.hid rfl⟩
     rw [hx.out] at hs ⊢
     obtain ⟨x2, hx2⟩ : ∃ x2, Hid (x + s.size = x2) := ⟨_, Lib.hid rfl⟩
     have hx2' := hx2.out
     have d2 : IntKind.i64.wrap ((x : Int) + (s.size : Int)) = (x2 : Int) := by rw [IntWalk.i64_in _ (by omega)]; omega
     have d9 : IntKind.i64.wrap ((j : Int) + 1) = ((j + 1 : Nat) : Int) := by have := HT.out.2.2; rw [IntWalk.i64_in _ (by omega)]; omega
     have HR : Hid (t + ksz (L.take (j + 1)) = x2) := Lib.hid (by have := hx.out; omega)
     by_cases hbad : x2 ≤ 1048576 ∧ j ≤ 65536
     ·have d3 : ¬ (1048576 : Int) < (x2 : Int) := by omega
      have d4 : ¬ (65536 : Int) < (j : Int) := by omega
      have HB := Lib.hid hbad
      clear hp j3 hps hsz hkt hs hx2' hbad
      go_wp2_with fail
      go_roundg (m - (j + 1) + 1)
      case measure => have := HG2.out; omega
      case rel => exact ⟨j + 1, by omega, rfl, by simp, by rw [HR.out], by rw [HR.out]; exact HB.out.1, rfl⟩
     ·by_cases hx3 : 1048576 < x2
      ·have d3 : (1048576 : Int) < (x2 : Int) := by omega
       clear hp j3 hps hsz hkt hs hx2' hbad hx3
       go_wp2_with fail
       go_ret
       exact ⟨⟨_, rfl, fun h => by cases h⟩, rfl⟩
      ·have d3 : ¬ (1048576 : Int) < (x2 : Int) := by omega
       have d4 : (65536 : Int) < (j : Int) := by omega
       clear hp j3 hps hsz hkt hs hx2' hbad hx3
       go_wp2_with fail
       go_ret
       exact ⟨⟨_, rfl, fun h => by cases h⟩, rfl⟩
    ·have d1 : ¬ (j : Int) < (m : Int) := by omega
     have HR : Hid (L.take j = L) := Lib.hid (List.take_of_length_le (by rw [hmn.out]; omega))
     rw [HR.out] at hs ⊢
     have HS := Lib.hid hs
     clear hs
     go_wp2_with fail
     go_roundg (n - (k + 1) + 1)
     case measure => have := HG.out; omega
     case rel =>
      have h1 := tot_take HL.out.1
      have h2 := cnt_take HL.out.1
      rw [htn.out] at h1
      rw [hctn.out, hmn.out, hct2.out] at h2
      exact ⟨k + 1, by omega, rfl, by simp, by rw [h1]; simp, by rw [h2], by rw [h1]; exact HS.out, by rw [h2, ← hct2.out]; have := HT.out; omega, rfl⟩
  ·have e1 : ¬ (k : Int) < (n : Int) := by omega
   have HR : Hid (S.take k = S) := Lib.hid (List.take_of_length_le (by rw [hn.out]; omega))
   rw [HR.out] at ht ⊢
   have HT := Lib.hid ht
   clear ht hct
   generalize hcv : cnt S = cv at *
   have HC := Lib.hid hcv
   clear hcv
   go_wp2_with fail
   go_ret
   refine ⟨⟨_, rfl, fun h => ⟨HT.out, ?_⟩⟩, rfl⟩
   rw [HC.out]
   simp at h
   omega
end
section
open Go.RowKit Fmt
set_option maxHeartbeats 1000000 in
set_option maxRecDepth 100000 in
theorem less_quiet (w : World) (s t : ByteArray) (hz : s.size < 4611686018427387904) : Calls Tryz.prog 25 #[.string s, .string t] w fun e w' => e = .returned (.bool (ltb (bytesOf s) (bytesOf t))) ∧ ∃ m, w' = w.drewN m := by
 have hs := bytesOf_len s
 have ht := bytesOf_len t
 go_enter Tryz.func25, Tryz.ntmps25
 go_wp2_with fail
 go_loopg [5] (s.size + 1) (fun g i wx => ∃ k : Nat, k ≤ s.size ∧ k ≤ t.size ∧ g = s.size - k + 1 ∧ i = .int .i64 (k : Int) ∧ ltb (bytesOf s) (bytesOf t) = ltb ((bytesOf s).drop k) ((bytesOf t).drop k) ∧ ∃ m, wx = w.drewN m)
 case atStart => exact ⟨0, by omega, by omega, by omega, rfl, by simp, 0, rfl⟩
 case round =>
  obtain ⟨k, hk1, hk2, rfl, rfl, hl, mq, hF⟩ := hrel
  by_cases hks : k < s.size
  ·by_cases hkt : k < t.size
   ·have e1 : (k : Int) < (s.size : Int) := by omega
    have e2 : (k : Int) < (t.size : Int) := by omega
    go_wp2_with fail
    refine wp_region_seqV (fun W => True) (fun i => decide (True)) (fun i => ![].contains i && decide (True)) (fun i => false) [0, 1, 2, 3, 4, 5, 6] (by kernel_rfl) (by kernel_rfl) (fun c a d v w h => by cases d <;> exact h) trivial ?_
    iterate 3 (apply seqV_pure (ho := rfl) (hr := rfl) (hg := rfl); (intro w'; go_simp; rfl))
    go_simp
    iterate 3 (apply seqV_pure (ho := rfl) (hr := rfl) (hg := rfl); (intro w'; go_simp; rfl))
    go_simp
    iterate 1 (apply seqV_pure (ho := rfl) (hr := rfl) (hg := rfl); (intro w'; go_simp; rfl))
    unfold seqV
    go_simp
    obtain ⟨x, hx⟩ : ∃ x, Hid (s[k].toNat = x) := ⟨_, Lib.hid rfl⟩
    obtain ⟨y, hy⟩ : ∃ y, Hid (t[k].toNat = y) := ⟨_, Lib.hid rfl⟩
    have gx : (bytesOf s)[k]? = some x := by rw [← hx.out]; exact bytes_get hks
    have gy : (bytesOf t)[k]? = some y := by rw [← hy.out]; exact bytes_get hkt
    rw [hx.out, hy.out]
    have hl2 := hl
    rw [List.drop_eq_getElem_cons (by omega), List.drop_eq_getElem_cons (i := k) (l := bytesOf t) (by omega)] at hl2
    rw [List.getElem?_eq_getElem (by omega)] at gx gy
    rw [Option.some.inj gx, Option.some.inj gy] at hl2
    simp only [ltb] at hl2
    have HF := Lib.hid hF
    have HL := Lib.hid hl2
    by_cases exy : x = y
    ·have e3 : ((x : Int) != (y : Int)) = false := by rw [exy]; simp
     have e4 : IntKind.i64.wrap ((k : Int) + 1) = ((k + 1 : Nat) : Int) := by rw [IntWalk.i64_in _ (by omega)]; omega
     clear hl hl2 hF gx gy
     go_wp2_with fail
     go_roundg (s.size - (k + 1) + 1)
     case measure => omega
     case rel =>
      refine ⟨k + 1, by omega, by omega, rfl, by simp, ?_, mq + 1, by first | rfl | (rw [HF.out]; rfl)⟩
      rw [HL.out, exy]; simp
    ·have e3 : ((x : Int) != (y : Int)) = true := by simp; omega
     clear hl hl2 hF gx gy
     go_wp2_with fail
     refine wp_region_seqV (fun W => True) (fun i => decide (True)) (fun i => ![].contains i && decide (True)) (fun i => false) [0, 1, 2, 3, 4, 5, 6, 7] (by kernel_rfl) (by kernel_rfl) (fun c a d v w h => by cases d <;> exact h) trivial ?_
     iterate 3 (apply seqV_pure (ho := rfl) (hr := rfl) (hg := rfl); (intro w'; go_simp; rfl))
     go_simp
     iterate 3 (apply seqV_pure (ho := rfl) (hr := rfl) (hg := rfl); (intro w'; go_simp; rfl))
     go_simp
     iterate 2 (apply seqV_pure (ho := rfl) (hr := rfl) (hg := rfl); (intro w'; go_simp; rfl))
     unfold seqV
     go_simp
     rw [hx.out, hy.out]
     go_wp2_with fail
     go_ret
     refine ⟨?_, mq + 2, by first | rfl | (rw [HF.out]; rfl)⟩
     rw [HL.out, if_neg exy]
     by_cases hlt : x < y
     ·simp [hlt]
     ·simp [hlt]
   ·have e1 : (k : Int) < (s.size : Int) := by omega
    have e2 : ¬ (k : Int) < (t.size : Int) := by omega
    have e3 : ¬ (s.size : Int) < (t.size : Int) := by omega
    have HF := Lib.hid hF
    have HL := Lib.hid hl
    clear hl hF
    go_wp2_with fail
    go_ret
    refine ⟨?_, mq, by first | rfl | exact HF.out⟩
    rw [HL.out, List.drop_of_length_le (l := bytesOf t) (by omega), List.drop_eq_getElem_cons (by omega)]
    rfl
  ·have e1 : ¬ (k : Int) < (s.size : Int) := by omega
   have HF := Lib.hid hF
   have HL := Lib.hid hl
   clear hl hF
   by_cases hkt : k < t.size
   ·have e3 : (s.size : Int) < (t.size : Int) := by omega
    go_wp2_with fail
    go_ret
    refine ⟨?_, mq, by first | rfl | exact HF.out⟩
    rw [HL.out, List.drop_of_length_le (l := bytesOf s) (by omega), List.drop_eq_getElem_cons (by omega)]
    rfl
   ·have e3 : ¬ (s.size : Int) < (t.size : Int) := by omega
    go_wp2_with fail
    go_ret
    refine ⟨?_, mq, by first | rfl | exact HF.out⟩
    rw [HL.out, List.drop_of_length_le (l := bytesOf s) (by omega), List.drop_of_length_le (l := bytesOf t) (by omega)]
    rfl
/-- Pairs in a row of one's own, made behind a world. -/
def cellsP (SS : List (ByteArray × Nat)) : List Value := SS.flatMap fun s => [.string s.1, .int .u64 (s.2 : Int)]
theorem cellsP_len (SS : List (ByteArray × Nat)) : (cellsP SS).length = SS.length * 2 := by
 induction SS with
 | nil => rfl
 | cons a l ih => simp [cellsP, List.flatMap_cons] at ih ⊢; omega
theorem cellsP_at {SS : List (ByteArray × Nat)} {i : Nat} {s : ByteArray × Nat} (h : SS[i]? = some s) : (cellsP SS)[i * 2]? = some (.string s.1) ∧ (cellsP SS)[i * 2 + 1]? = some (.int .u64 (s.2 : Int)) := by
 induction SS generalizing i with
 | nil => simp at h
 | cons a l ih =>
  cases i with
  | zero => simp at h; subst h; exact ⟨rfl, rfl⟩
  | succ i =>
   simp only [List.getElem?_cons_succ] at h
   obtain ⟨h1, h2⟩ := ih h
   rw [show (i + 1) * 2 = i * 2 + 1 + 1 by omega]
   exact ⟨h1, h2⟩
theorem cellsP_app (A B : List (ByteArray × Nat)) : cellsP (A ++ B) = cellsP A ++ cellsP B := by simp [cellsP]
def prsOf (SS : List (ByteArray × Nat)) : Prs := SS.map fun s => (bytesOf s.1, s.2)
structure PrO (w : World) (base : Nat) (v : Value) (SS : List (ByteArray × Nat)) : Prop where
 ex : ∃ full, RowF w 42 2 v SS.length full ∧ full.take (SS.length * 2) = cellsP SS ∧ ∀ b, v.ownBlock = some b → base ≤ b
theorem PrO.fr {w w' : World} {base : Nat} {v : Value} {SS : List (ByteArray × Nat)} {F : Nat → Prop} (h : PrO w base v SS) (k : Fr F w w') (hn : ∀ b, v.ownBlock = some b → ¬ F b) : PrO w' base v SS := by
 obtain ⟨full, h1, h2, h3⟩ := h.ex
 exact ⟨full, h1.fr k hn, h2, h3⟩
theorem PrO.v {w : World} {base : Nat} {v : Value} {SS : List (ByteArray × Nat)} (h : PrO w base v SS) : PrV w v (prsOf SS) := by
 obtain ⟨full, h1, h2, h3⟩ := h.ex
 have hl : (prsOf SS).length = SS.length := by simp [prsOf]
 rcases h1 with ⟨rfl, h0, _⟩ | ⟨g, cap, rfl, hb, hc, hm, _⟩
 ·have : SS = [] := List.length_eq_zero_iff.1 h0
  subst this
  exact .inr ⟨rfl, none, 0, rfl, by decide⟩
 ·refine .inl ⟨g, 0, cap, by rw [hl], fun i p hp => ?_, hb.lt, by rw [hl]; exact hc, hm⟩
  unfold prsOf at hp
  rw [List.getElem?_map, Option.map_eq_some_iff] at hp
  obtain ⟨s, hs, rfl⟩ := hp
  obtain ⟨c1, c2⟩ := cellsP_at hs
  have hil := (List.getElem?_eq_some_iff.1 hs).1
  have get : ∀ j x, j < SS.length * 2 → (cellsP SS)[j]? = some x → full[j]? = some x := fun j x hj hx => by
   rw [← h2, List.getElem?_take, if_pos hj] at hx; exact hx
  refine ⟨s.1, ?_, rfl, ?_⟩
  ·rw [Nat.zero_add]; exact hb.cell _ (get _ _ (by omega) c1)
  ·rw [Nat.zero_add]; exact hb.cell _ (get _ _ (by omega) c2)
/-- A slice of pairs as strings. -/
theorem PrV.strs {w : World} {v : Value} {L : Prs} (h : PrV w v L) : ∃ SS : List (ByteArray × Nat), prsOf SS = L ∧ SS.length = L.length ∧ ∀ (i : Nat) (s : ByteArray × Nat), SS[i]? = some s → ∃ b o c, v = .slice (some ⟨b, o, none⟩) L.length c ∧ w.cell? ⟨b, o + i * 2, none⟩ = some (.string s.1) ∧ w.cell? ⟨b, o + i * 2 + 1, none⟩ = some (.int .u64 (s.2 : Int)) := by
 rcases h with ⟨b, o, c, h1, h2, h3, h4⟩ | ⟨h1, h2⟩
 ·have key : ∀ (L : Prs) (o : Nat), PrsAt w b o L → ∃ SS : List (ByteArray × Nat), prsOf SS = L ∧ SS.length = L.length ∧ ∀ (i : Nat) (s : ByteArray × Nat), SS[i]? = some s → w.cell? ⟨b, o + i * 2, none⟩ = some (.string s.1) ∧ w.cell? ⟨b, o + i * 2 + 1, none⟩ = some (.int .u64 (s.2 : Int)) := by
   intro L
   induction L with
   | nil => intro o _; exact ⟨[], rfl, rfl, fun i s hs => by simp at hs⟩
   | cons p L ih =>
    intro o hat
    obtain ⟨s, k1, k2, k3⟩ := hat 0 p rfl
    obtain ⟨SS, e1, e2, e3⟩ := ih (o + 2) (fun i q hq => by
     obtain ⟨s, k1, k2, k3⟩ := hat (i + 1) q (by simpa using hq)
     exact ⟨s, by rw [show o + 2 + i * 2 = o + (i + 1) * 2 by omega]; exact k1, k2, by rw [show o + 2 + i * 2 + 1 = o + (i + 1) * 2 + 1 by omega]; exact k3⟩)
    refine ⟨(s, p.2) :: SS, ?_, by simp [e2], fun i t ht => ?_⟩
    ·simp only [prsOf, List.map_cons]
     rw [k2]
     exact congrArg _ e1
    ·cases i with
     | zero =>
      simp at ht
      subst ht
      simp only [Nat.zero_mul, Nat.add_zero] at k1 k3 ⊢
      exact ⟨k1, k3⟩
     | succ i =>
      obtain ⟨z1, z2⟩ := e3 i t (by simpa using ht)
      exact ⟨by rw [show o + (i + 1) * 2 = o + 2 + i * 2 by omega]; exact z1, by rw [show o + (i + 1) * 2 + 1 = o + 2 + i * 2 + 1 by omega]; exact z2⟩
  obtain ⟨SS, e1, e2, e3⟩ := key L o h2
  exact ⟨SS, e1, e2, fun i s hs => ⟨b, o, c, h1, e3 i s hs⟩⟩
 ·subst h1
  exact ⟨[], rfl, rfl, fun i s hs => by simp at hs⟩
end
end Go.Proofs.YtmhlnijpimjjaaaGreatDoor
