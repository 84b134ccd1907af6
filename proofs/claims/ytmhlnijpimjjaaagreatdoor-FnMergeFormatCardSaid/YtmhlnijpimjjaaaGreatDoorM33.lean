/- NewMergeIterator (f30). Condition: at most 2^20 iterators. -/
import Derived.Test.YtmhlnijpimjjaaaGreatDoorM32
import Derived.Test.YtmhlnijpimjjaaaGreatDoorM15
set_option linter.unusedSimpArgs false
set_option linter.unusedVariables false
namespace Go.Proofs.YtmhlnijpimjjaaaGreatDoor
open Go.RowKit Fmt
/-- The four rows are made, in some order. -/
structure New4 (w : World) (N b1 b2 b3 b4 : Nat) (W : World) : Prop where
 k : Blk W b1 (List.replicate N (.slice none 0 0)) 29
 v : Blk W b2 (List.replicate N (.int .u64 0)) 40
 i : Blk W b3 (List.replicate N (.int .i64 0)) 3
 m : Blk W b4 (List.replicate N (.int .u64 0)) 40
 ne : b1 ≠ b2 ∧ b1 ≠ b3 ∧ b1 ≠ b4 ∧ b2 ≠ b3 ∧ b2 ≠ b4 ∧ b3 ≠ b4
 ge : w.heap.size ≤ b1 ∧ w.heap.size ≤ b2 ∧ w.heap.size ≤ b3 ∧ w.heap.size ≤ b4
 fr : Fr (fun _ => False) w W
/-- The merge iterator's cells at first. -/
def d0 (iv : Value) (iF : List Value) (N b1 b2 b3 b4 : Nat) : MD := ⟨iv, iF, b1, b2, List.replicate N (.slice none 0 0), List.replicate N (.int .u64 0), .slice none 0 0, 0, .slice (some ⟨b3, 0, none⟩) 0 N, [], List.replicate N (.int .i64 0), .slice (some ⟨b4, 0, none⟩) 0 N, 0, List.replicate N (.int .u64 0)⟩
def col4 (w : World) (b1 b2 b3 b4 : Nat) (col : Col) : Col := fun q => if q < w.heap.size then col q else if q = b1 then 51 else if q = b2 then 52 else if q = b3 then 53 else if q = b4 then 54 else 50
theorem New4.mg {w W : World} {col : Col} {how N b1 b2 b3 b4 : Nat} {iv : Value} {iF : List Value} {ms : List Mi} (h : New4 w N b1 b2 b3 b4 W) (hN : ms.length = N) (hNm : N ≤ 1048576) (itr : RowC w col 55 121 1 iv ms.length iF) (iat : ∀ (i : Nat) (m : Mi), ms[i]? = some m → iF[i]? = some (.iface 75 (.pointer (some ⟨m.ib, 0, none⟩)))) (its : ∀ (i : Nat) (m : Mi), ms[i]? = some m → MiAt w col i m [] m.L) :
  Mg (W.alloc (.cells (mcells N how (d0 iv iF N b1 b2 b3 b4)).toArray 105)) (col4 w b1 b2 b3 b4 col) W.heap.size how ms (ms.map fun m => ([], m.L)) (fun _ => False) (d0 iv iF N b1 b2 b3 b4) ∧ Kp cmi col w (col4 w b1 b2 b3 b4 col) (W.alloc (.cells (mcells N how (d0 iv iF N b1 b2 b3 b4)).toArray 105)) := by
 obtain ⟨n1, n2, n3, n4, n5, n6⟩ := h.ne
 obtain ⟨g1, g2, g3, g4⟩ := h.ge
 have l1 := h.k.lt
 have l2 := h.v.lt
 have l3 := h.i.lt
 have l4 := h.m.lt
 have hF : Fr (fun _ => False) w (W.alloc (.cells (mcells N how (d0 iv iF N b1 b2 b3 b4)).toArray 105)) := h.fr.alloc _
 have k : Kp cmi col w (col4 w b1 b2 b3 b4 col) (W.alloc (.cells (mcells N how (d0 iv iF N b1 b2 b3 b4)).toArray 105)) := ⟨hF.mono (fun _ _ h => h.elim), fun q hq => by unfold col4; rw [if_pos hq], fun q h1 h2 => by
  unfold col4 cmi
  rw [if_neg (by omega)]
  (repeat' split) <;> omega⟩
 have e1 : col4 w b1 b2 b3 b4 col b1 = 51 := by unfold col4; rw [if_neg (by omega), if_pos rfl]
 have e2 : col4 w b1 b2 b3 b4 col b2 = 52 := by unfold col4; rw [if_neg (by omega), if_neg (by omega), if_pos rfl]
 have e3 : col4 w b1 b2 b3 b4 col b3 = 53 := by unfold col4; rw [if_neg (by omega), if_neg (by omega), if_neg (by omega), if_pos rfl]
 have e4 : col4 w b1 b2 b3 b4 col b4 = 54 := by unfold col4; rw [if_neg (by omega), if_neg (by omega), if_neg (by omega), if_neg (by omega), if_pos rfl]
 have e5 : col4 w b1 b2 b3 b4 col W.heap.size = 50 := by
  unfold col4
  have := h.fr.size
  rw [if_neg (by omega), if_neg (by omega), if_neg (by omega), if_neg (by omega), if_neg (by omega)]
 have hn : ∀ c, 55 ≤ c ∨ c = 0 → ¬ cmi c := fun c hc h => by unfold cmi at h; omega
 refine ⟨{ blk := ⟨?_, e5⟩, itr := itr.kp k (hn _ (.inl (by decide))), iat := iat, len := by simp, its := fun i m p h1 h2 => ?_, ks := ⟨h.k.alloc _, e1⟩, kl := by simp [d0, hN], vs := ⟨h.v.alloc _, e2⟩, vl := by simp [d0, hN], fre := fun i p h1 _ => h1.elim, li := ⟨.inr ⟨b3, N, rfl, h.i.alloc _, Nat.zero_le _, by simp only [maxLen]; omega, by simp [d0]⟩, fun q hq => by simp [d0, Value.ownBlock] at hq; subst hq; exact e3⟩, lat := fun j x hx => by simp [d0] at hx, mv := ⟨.inr ⟨b4, N, rfl, h.m.alloc _, Nat.zero_le _, by simp only [maxLen]; omega, by simp [d0]⟩, fun q hq => by simp [d0, Value.ownBlock] at hq; subst hq; exact e4⟩ }, k⟩
 ·rw [hN]; exact Blk.new W _ 105
 ·rw [List.getElem?_map, h1] at h2
  simp at h2
  subst h2
  exact (its i m h1).kp k (fun c h3 _ => hn c (.inl (by unfold kc at h3; omega))) (hn _ (.inr rfl))
/-- How the merge iterator begins, and goes on. -/
def MEnd (w0 : World) (col0 : Col) (mb how : Nat) (ms : List Mi) (ps : List (Prs × Prs)) (ea : Addr) (v : Value) (w : World) : Prop :=
 ∃ (col : Col) (d : MD), Mg w col mb how ms ps (fun _ => True) d ∧ Kp cmg col0 w0 col w ∧ (((∀ p, p ∈ ps → p.2 = []) ∧ v = .iface 200 (.pointer (some ea))) ∨ ∃ k, LowP ps ms.length (some k) d.ix ∧ (∃ i, KeyVal w col i d.lk k) ∧ d.lv = jn how (heads k ps) ∧ v = .nilIface)
theorem MOut.toEnd {w0 : World} {col0 : Col} {mb how : Nat} {ms : List Mi} {ps : List (Prs × Prs)} {ea : Addr} {v : Value} {w : World} (h : MOut w0 col0 mb how ms ps ea v w) : MEnd w0 col0 mb how ms ps ea v w := by
 obtain ⟨col, d, h1, h2, h3⟩ := h
 refine ⟨col, d, h1, h2, ?_⟩
 rcases h3 with ⟨h4, _, h5⟩ | h3
 ·refine .inl ⟨fun p hp => h4.2 p ?_, h5⟩
  rw [List.take_of_length_le (by rw [h1.len]; exact Nat.le_refl _)]; exact hp
 ·exact .inr h3
set_option maxHeartbeats 1000000 in
set_option maxRecDepth 100000 in
theorem upd0_calls {w : World} {mb c : Nat} {A : Option Addr} (r0 : w.cell? ⟨mb, 0, none⟩ = some (.slice A 0 c)) : Calls Tryz.prog 53 #[.pointer (some ⟨mb, 0, none⟩)] w fun e w' => e = .returned (.tuple #[]) ∧ w' = w := by
 go_enter Tryz.func53, Tryz.ntmps53
 go_wp2_with fail
 refine bodyPost_ret (results_none rfl _ _ _) rfl ?_
 exact ⟨rfl, rfl⟩
set_option maxHeartbeats 1000000 in
set_option maxRecDepth 100000 in
theorem init0_calls {w : World} {mb c : Nat} {A : Option Addr} (r0 : w.cell? ⟨mb, 0, none⟩ = some (.slice A 0 c)) : Calls Tryz.prog 46 #[.pointer (some ⟨mb, 0, none⟩)] w fun e w' => e = .returned (.tuple #[]) ∧ w' = w := by
 have hc := upd0_calls r0
 go_enter Tryz.func46, Tryz.ntmps46
 go_wp2_with fail
 go_loopg [9] 1 (fun g ti wx => g = 1 ∧ ti = .int .i64 0 ∧ wx = w)
 case atStart => exact ⟨rfl, rfl, rfl⟩
 case round =>
  obtain ⟨rfl, rfl, rfl⟩ := hrel
  go_wp2_with fail
  refine hc.mono ?_
  rintro e w' ⟨rfl, rfl⟩
  clear hc
  go_wp2_with fail
  go_end0
  exact ⟨rfl, rfl⟩
theorem MEnd.drewN {w0 : World} {col0 : Col} {mb how : Nat} {ms : List Mi} {ps : List (Prs × Prs)} {ea : Addr} {v : Value} {w : World} (h : MEnd w0 col0 mb how ms ps ea v w) (n : Nat) : MEnd w0 col0 mb how ms ps ea v (w.drewN n) := by
 obtain ⟨col, d, h1, h2, h3⟩ := h
 refine ⟨col, d, h1.drewN n, h2.drewN n, ?_⟩
 rcases h3 with h3 | ⟨k, h4, ⟨i, h5⟩, h6⟩
 ·exact .inl h3
 ·exact .inr ⟨k, h4, ⟨i, h5.kp ((Kp.refl (fun _ => False) _ _).drewN n) (fun h => h)⟩, h6⟩
def NPost (w : World) (col : Col) (mb how : Nat) (ms : List Mi) (ea : Addr) (w' : World) : Prop :=
 w'.cell? ⟨0, 0, none⟩ = some (.iface 200 (.pointer (some ea))) ∧ ((w'.cell? ⟨mb, 4, none⟩ = some (.slice none 0 0) ∧ MEnd w col mb how ms (ms.map fun m => ([], m.L)) ea (.iface 200 (.pointer (some ea))) w') ∨ ∃ g n c, w'.cell? ⟨mb, 4, none⟩ = some (.slice (some ⟨g, 0, none⟩) n c) ∧ MEnd w col mb how ms (ms.map fun m => ([], m.L)) ea .nilIface w')
theorem ninit_calls {w W : World} {col : Col} {how N b1 b2 b3 b4 mb c0 : Nat} {A0 : Option Addr} {iF : List Value} {ms : List Mi} {ea : Addr} (h : New4 w N b1 b2 b3 b4 W) (hmb : W.heap.size = mb) (hN : ms.length = N) (hh : how ≤ 2) (hNm : ms.length ≤ 1048576) (itr : RowC w col 55 121 1 (.slice A0 N c0) ms.length iF) (iat : ∀ (i : Nat) (m : Mi), ms[i]? = some m → iF[i]? = some (.iface 75 (.pointer (some ⟨m.ib, 0, none⟩)))) (its : ∀ (i : Nat) (m : Mi), ms[i]? = some m → MiAt w col i m [] m.L) (hD : Done w col 200 ea) :
  Calls Tryz.prog 46 #[.pointer (some ⟨mb, 0, none⟩)] (W.alloc (.cells (mcells N how (d0 (.slice A0 N c0) iF N b1 b2 b3 b4)).toArray 105)).drew fun e w' => e = .returned (.tuple #[]) ∧ NPost w col mb how ms ea w' := by
 subst hmb
 obtain ⟨h1, h2⟩ := h.mg (how := how) hN (by omega) itr iat its
 replace h1 := h1.kp (Kp.refl (fun _ => False) _ _).drew (fun _ _ h => h) (fun h => h)
 replace h2 := h2.drew
 by_cases h0 : N = 0
 ·subst h0
  have hm0 : ms = [] := List.length_eq_zero_iff.1 hN
  have r0 := h1.blk.blk.cell 0 rfl
  refine (init0_calls (c := c0) (A := A0) r0).mono ?_
  rintro e w' ⟨rfl, rfl⟩
  refine ⟨rfl, (hD.kp h2 (fun h => absurd (show 50 ≤ 0 from h.1) (by decide))).cell, .inl ⟨h1.blk.blk.cell 4 rfl, _, _, { h1 with fre := fun i p _ hp => by rw [hm0] at hp; simp at hp }, h2.mono fun c e => e.1, .inl ⟨fun p hp => ?_, rfl⟩⟩⟩
  rw [hm0] at hp
  cases hp
 ·refine (init_calls h1 hh (by omega) hNm).mono ?_
  rintro e w' ⟨rfl, col2, d, hM, hK, hlow⟩
  have hK' := (h2.mono fun c (e : cmi c) => (e.1 : cmg c)).trans hK
  refine ⟨rfl, (hD.kp hK' (fun h => absurd (show 50 ≤ 0 from h) (by decide))).cell, ?_⟩
  rcases hlow with ⟨h3, h4⟩ | ⟨k, h3, ⟨y, h4⟩, h5⟩
  ·refine .inl ⟨by have h := hM.blk.blk.cell 4 rfl; rw [h4] at h; exact h, col2, d, hM, hK', .inl ⟨fun p hp => h3.2 p ?_, rfl⟩⟩
   rw [List.take_of_length_le (by rw [hM.len]; exact Nat.le_refl _)]; exact hp
  ·obtain ⟨g, c1, e, -⟩ := id h4
   exact .inr ⟨g, k.length, c1, by have h := hM.blk.blk.cell 4 rfl; rw [e] at h; exact h, col2, d, hM, hK', .inr ⟨k, h3, ⟨y, h4⟩, h5, rfl⟩⟩
set_option maxHeartbeats 4000000 in
set_option maxRecDepth 100000 in
theorem mnew_calls {w : World} {col : Col} {how : Nat} {iv : Value} {iF : List Value} {ms : List Mi} {ea : Addr} (hh : how ≤ 2) (hNm : ms.length ≤ 1048576) (itr : RowC w col 55 121 1 iv ms.length iF) (iat : ∀ (i : Nat) (m : Mi), ms[i]? = some m → iF[i]? = some (.iface 75 (.pointer (some ⟨m.ib, 0, none⟩)))) (its : ∀ (i : Nat) (m : Mi), ms[i]? = some m → MiAt w col i m [] m.L) (hD : Done w col 200 ea) :
  Calls Tryz.prog 30 #[iv, .func (.func (fnOf how)) #[] #[]] w fun e w' => ∃ mb v, e = .returned (.tuple #[.pointer (some ⟨mb, 0, none⟩), v]) ∧ MEnd w col mb how ms (ms.map fun m => ([], m.L)) ea v w' := by
 obtain ⟨A0, c0, rfl, hNc, hcm, _⟩ := itr.row.slc
 obtain ⟨N, hN⟩ : ∃ N, Hid (ms.length = N) := ⟨_, Lib.hid rfl⟩
 have HI := Lib.hid (And.intro hh (And.intro hNm (And.intro itr (And.intro iat (And.intro its hD)))))
 rw [hN.out] at hNm hNc ⊢
 clear itr iat its hD
 have hmk1 : ∀ W : World, (Instr.makeSlice 102 (.int .i64 (N : Int)) (.int .i64 (N : Int))).run Tryz.prog W = .ok (.slice (some ⟨W.heap.size, 0, none⟩) N N) (W.alloc (.cells (List.replicate N (.slice none 0 0)).toArray 29)) := fun W => run_mk 102 29 (.slice none 0 0) 24 (by kernel_rfl) (by kernel_rfl) rfl .i64 .i64 N N (Nat.le_refl _) (by omega) (by omega) W
 have hmk2 : ∀ W : World, (Instr.makeSlice 43 (.int .i64 (N : Int)) (.int .i64 (N : Int))).run Tryz.prog W = .ok (.slice (some ⟨W.heap.size, 0, none⟩) N N) (W.alloc (.cells (List.replicate N (.int .u64 0)).toArray 40)) := fun W => run_mk 43 40 (.int .u64 0) 8 (by kernel_rfl) (by kernel_rfl) rfl .i64 .i64 N N (Nat.le_refl _) (by omega) (by omega) W
 have hmk3 : ∀ W : World, (Instr.makeSlice 103 (.int .i64 0) (.int .i64 (N : Int))).run Tryz.prog W = .ok (.slice (some ⟨W.heap.size, 0, none⟩) 0 N) (W.alloc (.cells (List.replicate N (.int .i64 0)).toArray 3)) := fun W => run_mk 103 3 (.int .i64 0) 8 (by kernel_rfl) (by kernel_rfl) rfl .i64 .i64 0 N (Nat.zero_le _) (by omega) (by omega) W
 have hmk4 : ∀ W : World, (Instr.makeSlice 43 (.int .i64 0) (.int .i64 (N : Int))).run Tryz.prog W = .ok (.slice (some ⟨W.heap.size, 0, none⟩) 0 N) (W.alloc (.cells (List.replicate N (.int .u64 0)).toArray 40)) := fun W => run_mk 43 40 (.int .u64 0) 8 (by kernel_rfl) (by kernel_rfl) rfl .i64 .i64 0 N (Nat.zero_le _) (by omega) (by omega) W
 obtain ⟨X1, hX1⟩ : ∃ X, Hid (List.replicate N (Value.slice none 0 0) = X) := ⟨_, Lib.hid rfl⟩
 obtain ⟨X2, hX2⟩ : ∃ X, Hid (List.replicate N (Value.int .u64 0) = X) := ⟨_, Lib.hid rfl⟩
 obtain ⟨X3, hX3⟩ : ∃ X, Hid (List.replicate N (Value.int .i64 0) = X) := ⟨_, Lib.hid rfl⟩
 rw [hX1.out] at hmk1
 rw [hX2.out] at hmk2 hmk4
 rw [hX3.out] at hmk3
 go_enter Tryz.func30, Tryz.ntmps30
 go_upto_region 1 with fail
 refine wp_region_fork (by kernel_rfl) ?_
 refine anyF_pre (n := 7) (l' := #[true, true, true, true, false, true, true, false, true, true, false, true, true, false, false, false, false]) (T := fun a w => anyF Tryz.prog .any _ _ 7 #[true, true, true, true, false, true, true, false, true, true, false, true, true, false, false, false, false] a w) (by kernel_rfl) (fun c a d v w h => by cases d <;> exact h) (fun _ _ h => h) [0, 1, 2, 3, 5, 6, 8, 9, 11, 12] _ _ _ (by kernel_rfl) ?_
 iterate 3 (apply preV_pure (ho := rfl) (hg := rfl); (intro w'; go_simp; rfl))
 go_simp
 iterate 3 (apply preV_pure (ho := rfl) (hg := rfl); (intro w'; go_simp; rfl))
 go_simp
 iterate 4 (apply preV_pure (ho := rfl) (hg := rfl); (intro w'; go_simp; rfl))
 unfold preV
 go_simp
 ·refine anyF_fork (i := 4) (L := [7, 10, 13]) (by kernel_rfl) ?_
  intro j hj
  simp only [List.mem_cons, List.not_mem_nil, or_false] at hj
  rcases hj with rfl | rfl | rfl | rfl
  all_goals (
   refine wpOp_run rfl ?_
   go_simp
   first | refine anyF_fork (i := 4) (L := [7, 10]) (by decide +kernel) ?_ | refine anyF_fork (i := 4) (L := [7, 13]) (by decide +kernel) ?_ | refine anyF_fork (i := 4) (L := [10, 13]) (by decide +kernel) ?_ | refine anyF_fork (i := 7) (L := [10, 13]) (by decide +kernel) ?_
   intro j hj
   simp only [List.mem_cons, List.not_mem_nil, or_false] at hj
   rcases hj with rfl | rfl | rfl
   all_goals (
    refine wpOp_run rfl ?_
    go_simp
    first | refine anyF_fork (i := 4) (L := [7]) (by decide +kernel) ?_ | refine anyF_fork (i := 4) (L := [10]) (by decide +kernel) ?_ | refine anyF_fork (i := 4) (L := [13]) (by decide +kernel) ?_ | refine anyF_fork (i := 7) (L := [10]) (by decide +kernel) ?_ | refine anyF_fork (i := 7) (L := [13]) (by decide +kernel) ?_ | refine anyF_fork (i := 10) (L := [13]) (by decide +kernel) ?_
    intro j hj
    simp only [List.mem_cons, List.not_mem_nil, or_false] at hj
    rcases hj with rfl | rfl
    all_goals (
     refine wpOp_run rfl ?_
     go_simp
     first | refine anyF_fork (i := 4) (L := []) (by decide +kernel) ?_ | refine anyF_fork (i := 7) (L := []) (by decide +kernel) ?_ | refine anyF_fork (i := 10) (L := []) (by decide +kernel) ?_ | refine anyF_fork (i := 13) (L := []) (by decide +kernel) ?_
     intro j hj
     simp only [List.mem_cons, List.not_mem_nil, or_false] at hj
     subst hj
     refine wpOp_run rfl ?_
     go_simp
     refine anyF_fork (i := 14) (L := []) (by kernel_rfl) ?_
     intro j hj
     simp only [List.mem_cons, List.not_mem_nil, or_false] at hj
     subst hj
     refine wpOp_run rfl ?_
     go_simp
     refine anyF_fork (i := 15) (L := []) (by kernel_rfl) ?_
     intro j hj
     simp only [List.mem_cons, List.not_mem_nil, or_false] at hj
     subst hj
     refine wpOp_run rfl ?_
     go_simp
     refine anyF_fork (i := 16) (L := []) (by kernel_rfl) ?_
     intro j hj
     simp only [List.mem_cons, List.not_mem_nil, or_false] at hj
     subst hj
     refine wpOp_run rfl ?_
     go_simp
     refine anyF_end (by kernel_rfl) ?_
     go_wp2_with fail
     refine (ninit_calls (iF := iF) ⟨?_, ?_, ?_, ?_, ⟨?_, ?_, ?_, ?_, ?_, ?_⟩, ⟨?_, ?_, ?_, ?_⟩, (((Fr.refl _ w).alloc _).alloc _).alloc _ |>.alloc _⟩ ?_ hN.out HI.out.1 HI.out.2.1 (by have h := HI.out.2.2.1; rw [hN.out] at h ⊢; exact h) HI.out.2.2.2.1 HI.out.2.2.2.2.1 HI.out.2.2.2.2.2).mono ?_
     ·rw [hX1.out]; (repeat (first | (refine Blk.newAt _ _ _ _ ?_; simp; done) | refine Blk.alloc ?_ _))
     ·rw [hX2.out]; (repeat (first | (refine Blk.newAt _ _ _ _ ?_; simp; done) | refine Blk.alloc ?_ _))
     ·rw [hX3.out]; (repeat (first | (refine Blk.newAt _ _ _ _ ?_; simp; done) | refine Blk.alloc ?_ _))
     ·rw [hX2.out]; (repeat (first | (refine Blk.newAt _ _ _ _ ?_; simp; done) | refine Blk.alloc ?_ _))
     all_goals (first | (rintro e w' ⟨rfl, hg, hcase⟩) | omega | (simp; done) | (simp; omega))
     rcases hcase with ⟨r4, hE⟩ | ⟨g, n, c, r4, hE⟩
     ·have q1 := nil_eq1 w' 0
      have HE := Lib.hid hE
      clear hE hmk1 hmk2 hmk3 hmk4
      go_wp2_with fail
      go_quiet (fail)
      rename_i nq
      go_wp2_with fail
      go_ret2
      exact ⟨_, _, rfl, HE.out.drewN nq⟩
     ·have q1 := nil_eq0 w' ⟨g, 0, none⟩ n c
      have HE := Lib.hid hE
      clear hE hg hmk1 hmk2 hmk3 hmk4
      go_wp2_with fail
      go_ret2
      exact ⟨_, _, rfl, HE.out⟩)))
end Go.Proofs.YtmhlnijpimjjaaaGreatDoor
