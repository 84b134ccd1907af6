/- The bytes loaded: numbers read, the decoder, the FST. No condition. The state of an FST in memory, read from the bytes. Condition: the state was written. -/
import Derived.Test.YtmhlnijpimjjaaaGreatDoorM17
import Derived.Shelf.Bin.LEUint64
import Derived.Test.YtmhlnijpimjjaaaGreatDoorM02
set_option linter.unusedSimpArgs false
set_option linter.unusedVariables false
namespace Go.Proofs.YtmhlnijpimjjaaaGreatDoor
section
open Go.RowKit Fmt
def laysGet_ren : Go.Shelf.Ren := ⟨fun | 33 => 83 | n => n, fun | 22 => 29 | 25 => 183 | 33 => 40 | 45 => 190 | n => n, fun n => n⟩
theorem laysGet : Go.Proofs.LaysBin.n33 Tryz.prog laysGet_ren := {
 mixed := by kernel_rfl
 f33 := Tryz.func83.trans (congrArg some (by kernel_rfl))
 t0 := Tryz.underlying0
 a0 := Tryz.isAgg0
 z0 := Tryz.sizeOf0
 v0 := Tryz.zeroValue0
 i0 := by kernel_rfl
 t5 := Tryz.underlying5
 a5 := Tryz.isAgg5
 z5 := Tryz.sizeOf5
 v5 := Tryz.zeroValue5
 i5 := by kernel_rfl
 t22 := Tryz.underlying29
 a22 := Tryz.isAgg29
 z22 := Tryz.sizeOf29
 v22 := Tryz.zeroValue29
 i22 := by kernel_rfl
 t25 := Tryz.underlying183
 a25 := Tryz.isAgg183
 z25 := Tryz.sizeOf183
 v25 := Tryz.zeroValue183
 i25 := by kernel_rfl
 t33 := Tryz.underlying40
 a33 := Tryz.isAgg40
 z33 := Tryz.sizeOf40
 v33 := Tryz.zeroValue40
 i33 := by kernel_rfl
 t45 := Tryz.underlying190
 a45 := Tryz.isAgg190
 z45 := Tryz.sizeOf190
 v45 := Tryz.zeroValue190
 i45 := by kernel_rfl }
theorem get64_calls {w : World} {b o n c v : Nat} (hb : Byts w b o (pk v 8)) (hv : v < 18446744073709551616) (hn : 8 ≤ n) :
  Calls Tryz.prog 83 #[.agg #[], .slice (some ⟨b, o, none⟩) n c] w fun e w' => e = .returned (.int .u64 (v : Int)) ∧ Fr (fun _ => False) w w' := by
 have hc : ∀ j x, (Lib.leBytes 8 v)[j]? = some x → w.cell? ⟨b, o + j, none⟩ = some (.int .u8 x.toNat) := fun j x hj => by
  have h1 := congrArg (fun l : List Value => l[j]?) (le_pk 8 v)
  simp only [Lib.byteCells, List.getElem?_map, hj, u8s] at h1
  cases hp : (pk v 8)[j]? with
  | none => rw [hp] at h1; simp at h1
  | some y =>
   rw [hp] at h1
   simp at h1
   rw [hb.1 j y hp, ← h1]
 have h8 := Lib.leNat_leBytes 8 v (by simpa using hv)
 refine (Any.binary_LE_Uint64 laysGet b o n c _ _ _ _ _ _ _ _ w hn (hc 0 _ rfl) (hc 1 _ rfl) (hc 2 _ rfl) (hc 3 _ rfl) (hc 4 _ rfl) (hc 5 _ rfl) (hc 6 _ rfl) (hc 7 _ rfl)).mono ?_
 rintro e w' ⟨rfl, hB⟩
 exact ⟨congrArg (fun n : Nat => Ending.returned (.int .u64 (n : Int))) h8, Fr.ofBelow hB⟩
/-- Part of a row of bytes. -/
theorem Byts.part {w : World} {b o : Nat} {D X Y Z : List Nat} (h : Byts w b o D) (e : D = X ++ (Y ++ Z)) : Byts w b (o + X.length) Y := ⟨fun j c hj => by
 rw [Nat.add_assoc]
 refine h.1 _ _ ?_
 rw [e, List.getElem?_append_right (by omega), List.getElem?_append_left (by have := (List.getElem?_eq_some_iff.1 hj).1; omega)]
 rw [Nat.add_sub_cancel_left]
 exact hj⟩
theorem Byts.fr {w w' : World} {F : Nat → Prop} {b o : Nat} {l : List Nat} (h : Byts w b o l) (k : Fr F w w') (hb : ¬ F b) : Byts w' b o l := ⟨fun j c hj => k.cell (h.1 j c hj) hb⟩
theorem Byts.drew {w : World} {b o : Nat} {l : List Nat} (h : Byts w b o l) : Byts w.drew b o l := ⟨h.1⟩
set_option maxHeartbeats 1000000 in
set_option maxRecDepth 100000 in
theorem header_calls {w : World} {g n cap a b : Nat} {Z : List Nat} (h : Byts w g 0 (pk a 8 ++ (pk b 8 ++ Z))) (ha : a < 9223372036854775808) (hb : b < 9223372036854775808) (h16 : 16 ≤ n) (hc : n ≤ cap) (hm : cap ≤ maxLen) :
  Calls Tryz.prog 61 #[.slice (some ⟨g, 0, none⟩) n cap] w fun e w' => e = .returned (.tuple #[.int .i64 (a : Int), .int .i64 (b : Int), .nilIface]) ∧ Fr (fun _ => False) w w' := by
 have p1 : Byts w g 0 (pk a 8) := by simpa using h.part (X := []) (Y := pk a 8) (Z := pk b 8 ++ Z) rfl
 have p2 : Byts w g 8 (pk b 8) := by simpa [pk_len] using h.part (X := pk a 8) (Y := pk b 8) (Z := Z) rfl
 have ea : IntKind.i64.wrap (a : Int) = (a : Int) := IntWalk.i64_in _ (by omega)
 have eb : IntKind.i64.wrap (b : Int) = (b : Int) := IntWalk.i64_in _ (by omega)
 have e1 : ¬ (n : Int) < 16 := by omega
 have e2 : (8 : Int) ≤ (cap : Int) := by omega
 have e3 : (16 : Int) ≤ (cap : Int) := by omega
 have e6 : ¬ cap = 8 := by omega
 have HH := Lib.hid p2
 have g1 := get64_calls (n := 8) (c := cap) p1.drew (by omega) (Nat.le_refl _)
 clear h p1 p2
 go_enter Tryz.func61, Tryz.ntmps61
 go_wp2_with fail
 refine wp_region_seqV (fun W => True) (fun i => decide (i ≠ 3)) (fun i => ![0].contains i && decide (i ≠ 3)) (fun i => false) [0, 1, 2, 3, 4, 5] (by kernel_rfl) (by kernel_rfl) (fun c a d v w h => by cases d <;> exact h) trivial ?_
 (apply seqV_read (ho := rfl) (hr := rfl) (hp := rfl) (hg := rfl); (rintro w' q0; go_simp; rfl))
 go_simp
 iterate 2 (apply seqV_pure (ho := rfl) (hr := rfl) (hg := rfl); (intro w'; go_simp; rfl))
 refine seqV_do rfl rfl fun K hK => ?_
 go_simp
 refine g1.mono ?_
 rintro e w2 ⟨rfl, hF2⟩
 refine hK _ _ (fun _ => trivial) ?_
 clear hK K
 go_simp
 iterate 2 (apply seqV_pure (ho := rfl) (hr := rfl) (hg := rfl); (intro w'; go_simp; rfl))
 unfold seqV
 go_simp
 have g2 := get64_calls (n := 8) (c := cap - 8) ((HH.out.drew.fr hF2 (fun h => h)).drew) (by omega) (Nat.le_refl _)
 have HE := Lib.hid ((Fr.refl (fun _ => False) w).drew.trans hF2 (fun _ _ h => h))
 clear hF2 g1 HH
 go_wp2_with fail
 refine wp_region_seqV (fun W => True) (fun i => decide (i ≠ 3)) (fun i => ![0].contains i && decide (i ≠ 3)) (fun i => false) [0, 1, 2, 3, 4, 5] (by kernel_rfl) (by kernel_rfl) (fun c a d v w h => by cases d <;> exact h) trivial ?_
 (apply seqV_read (ho := rfl) (hr := rfl) (hp := rfl) (hg := rfl); (rintro w' q0; go_simp; rfl))
 go_simp
 iterate 2 (apply seqV_pure (ho := rfl) (hr := rfl) (hg := rfl); (intro w'; go_simp; rfl))
 refine seqV_do rfl rfl fun K hK => ?_
 go_simp
 refine g2.mono ?_
 rintro e w3 ⟨rfl, hF3⟩
 refine hK _ _ (fun _ => trivial) ?_
 clear hK K
 go_simp
 iterate 2 (apply seqV_pure (ho := rfl) (hr := rfl) (hg := rfl); (intro w'; go_simp; rfl))
 unfold seqV
 go_simp
 have HG := Lib.hid (HE.out.drew.trans hF3 (fun _ _ h => h))
 clear hF3 g2
 go_wp2_with fail
 go_ret3
 exact ⟨rfl, HG.out⟩
set_option maxRecDepth 100000 in
theorem newdec_calls {w : World} {g n c : Nat} : Calls Tryz.prog 84 #[.slice (some ⟨g, 0, none⟩) n c] w fun e w' => e = .returned (.pointer (some ⟨w.heap.size, 0, none⟩)) ∧ w' = w.alloc (.cells [.slice (some ⟨g, 0, none⟩) n c].toArray 204) := by
 go_enter Tryz.func84, Tryz.ntmps84
 go_wp2_with fail
 go_ret
 exact ⟨rfl, rfl⟩
set_option maxRecDepth 100000 in
theorem loaddec_calls {w : World} {g n c : Nat} : Calls Tryz.prog 62 #[.int .i64 1, .slice (some ⟨g, 0, none⟩) n c] w fun e w' => e = .returned (.tuple #[.iface 184 (.pointer (some ⟨w.heap.size, 0, none⟩)), .nilIface]) ∧ w' = w.alloc (.cells [.slice (some ⟨g, 0, none⟩) n c].toArray 204) := by
 have hn := fun w => newdec_calls (w := w) (g := g) (n := n) (c := c)
 go_enter Tryz.func62, Tryz.ntmps62
 go_wp2_with fail
 refine (hn _).mono ?_
 rintro e w2 ⟨rfl, rfl⟩
 go_wp2_with fail
 go_ret2
 exact ⟨rfl, rfl⟩
set_option maxHeartbeats 1000000 in
set_option maxRecDepth 100000 in
theorem getlen_calls {w : World} {db g n cap v r : Nat} {X : List Nat} (hd : w.cell? ⟨db, 0, none⟩ = some (.slice (some ⟨g, 0, none⟩) n cap)) (h : Byts w g 0 (X ++ (pk v 8 ++ pk r 8))) (hn : n = X.length + 16) (hv : v < 9223372036854775808) (hc : n ≤ cap) (hm : cap ≤ maxLen) :
  Calls Tryz.prog 135 #[.pointer (some ⟨db, 0, none⟩)] w fun e w' => e = .returned (.int .i64 (v : Int)) ∧ Fr (fun _ => False) w w' := by
 obtain ⟨m, hm'⟩ : ∃ m, Hid (X.length = m) := ⟨_, Lib.hid rfl⟩
 have p1 : Byts w g m (pk v 8) := by simpa [hm'.out] using h.part (X := X) (Y := pk v 8) (Z := pk r 8) rfl
 rw [hm'.out] at hn
 have e1 : ¬ (n : Int) < 16 := by omega
 have hm63 : n < 9223372036854775808 := by unfold maxLen at hm; omega
 have e2 : IntKind.i64.wrap ((n : Int) - 16) = (m : Int) := by rw [IntWalk.i64_in _ (by omega)]; omega
 have e3 : (m : Int) ≤ (n : Int) := by omega
 have e4 : n - m = 16 := by omega
 have e6 : ¬ cap = m := by omega
 have e5 : IntKind.i64.wrap (v : Int) = (v : Int) := IntWalk.i64_in _ (by omega)
 have hv' : v < 18446744073709551616 := by omega
 have HH := Lib.hid p1
 clear h hn p1
 go_enter Tryz.func135, Tryz.ntmps135
 go_wp2_with fail
 refine wp_region_seqV (fun W => W.cell? ⟨db, 0, none⟩ = some (.slice (some ⟨g, 0, none⟩) n cap)) (fun i => decide (True)) (fun i => ![3, 7].contains i && decide (True)) (fun i => false) [0, 1, 2, 3, 4, 5, 6, 7, 8, 9, 10, 11] (by kernel_rfl) (by kernel_rfl) (fun c a d v w h => by cases d <;> exact h) hd ?_
 iterate 3 (apply seqV_pure (ho := rfl) (hr := rfl) (hg := rfl); (intro w'; go_simp; rfl))
 (apply seqV_read (ho := rfl) (hr := rfl) (hp := rfl) (hg := rfl); (rintro w' q0; go_simp; rfl))
 go_simp
 iterate 3 (apply seqV_pure (ho := rfl) (hr := rfl) (hg := rfl); (intro w'; go_simp; rfl))
 (apply seqV_read (ho := rfl) (hr := rfl) (hp := rfl) (hg := rfl); (rintro w' q0; go_simp; rfl))
 go_simp
 iterate 3 (apply seqV_pure (ho := rfl) (hr := rfl) (hg := rfl); (intro w'; go_simp; rfl))
 go_simp
 iterate 1 (apply seqV_pure (ho := rfl) (hr := rfl) (hg := rfl); (intro w'; go_simp; rfl))
 unfold seqV
 go_simp
 have g1 := get64_calls (n := 16) (c := cap - m) HH.out.drew hv' (by omega)
 clear HH
 go_wp2_with fail
 refine g1.mono ?_
 rintro e w2 ⟨rfl, hF2⟩
 have HE := Lib.hid ((Fr.refl (fun _ => False) w).drew.trans hF2 (fun _ _ h => h))
 clear hF2 g1
 go_wp2_with fail
 go_ret
 exact ⟨rfl, HE.out⟩
set_option maxHeartbeats 1000000 in
set_option maxRecDepth 100000 in
theorem getroot_calls {w : World} {db g n cap v r : Nat} {X : List Nat} (hd : w.cell? ⟨db, 0, none⟩ = some (.slice (some ⟨g, 0, none⟩) n cap)) (h : Byts w g 0 (X ++ (pk v 8 ++ pk r 8))) (hn : n = X.length + 16) (hr : r < 9223372036854775808) (hc : n ≤ cap) (hm : cap ≤ maxLen) :
  Calls Tryz.prog 136 #[.pointer (some ⟨db, 0, none⟩)] w fun e w' => e = .returned (.int .i64 (r : Int)) ∧ Fr (fun _ => False) w w' := by
 obtain ⟨m, hm'⟩ : ∃ m, Hid (X.length = m) := ⟨_, Lib.hid rfl⟩
 have p1 : Byts w g (m + 8) (pk r 8) := by simpa [hm'.out, pk_len] using h.part (X := X ++ pk v 8) (Y := pk r 8) (Z := []) (by simp)
 rw [hm'.out] at hn
 have e1 : ¬ (n : Int) < 16 := by omega
 have hm63 : n < 9223372036854775808 := by unfold maxLen at hm; omega
 have e2 : IntKind.i64.wrap ((n : Int) - 16) = (m : Int) := by rw [IntWalk.i64_in _ (by omega)]; omega
 have e3 : (m : Int) ≤ (n : Int) := by omega
 have e4 : n - m = 16 := by omega
 have e6 : ¬ cap = m := by omega
 have e7 : ¬ cap - m = 8 := by omega
 have e5 : IntKind.i64.wrap (r : Int) = (r : Int) := IntWalk.i64_in _ (by omega)
 have hv' : r < 18446744073709551616 := by omega
 have g1 := get64_calls (n := 8) (c := cap - m - 8) p1.drew.drew hv' (by omega)
 clear h hn p1
 go_enter Tryz.func136, Tryz.ntmps136
 go_wp2_with fail
 refine wp_region_seqV (fun W => W.cell? ⟨db, 0, none⟩ = some (.slice (some ⟨g, 0, none⟩) n cap)) (fun i => decide (True)) (fun i => ![3, 7].contains i && decide (True)) (fun i => false) [0, 1, 2, 3, 4, 5, 6, 7, 8, 9, 10, 11] (by kernel_rfl) (by kernel_rfl) (fun c a d v w h => by cases d <;> exact h) hd ?_
 iterate 3 (apply seqV_pure (ho := rfl) (hr := rfl) (hg := rfl); (intro w'; go_simp; rfl))
 (apply seqV_read (ho := rfl) (hr := rfl) (hp := rfl) (hg := rfl); (rintro w' q0; go_simp; rfl))
 go_simp
 iterate 3 (apply seqV_pure (ho := rfl) (hr := rfl) (hg := rfl); (intro w'; go_simp; rfl))
 (apply seqV_read (ho := rfl) (hr := rfl) (hp := rfl) (hg := rfl); (rintro w' q0; go_simp; rfl))
 go_simp
 iterate 3 (apply seqV_pure (ho := rfl) (hr := rfl) (hg := rfl); (intro w'; go_simp; rfl))
 go_simp
 iterate 1 (apply seqV_pure (ho := rfl) (hr := rfl) (hg := rfl); (intro w'; go_simp; rfl))
 unfold seqV
 go_simp
 go_wp2_with fail
 refine wp_region_seqV (fun W => True) (fun i => decide (i ≠ 3)) (fun i => ![0].contains i && decide (i ≠ 3)) (fun i => false) [0, 1, 2, 3, 4] (by kernel_rfl) (by kernel_rfl) (fun c a d v w h => by cases d <;> exact h) trivial ?_
 (apply seqV_read (ho := rfl) (hr := rfl) (hp := rfl) (hg := rfl); (rintro w' q0; go_simp; rfl))
 go_simp
 iterate 2 (apply seqV_pure (ho := rfl) (hr := rfl) (hg := rfl); (intro w'; go_simp; rfl))
 refine seqV_do rfl rfl fun K hK => ?_
 go_simp
 refine g1.mono ?_
 rintro e w3 ⟨rfl, hF3⟩
 refine hK _ _ (fun _ => trivial) ?_
 clear hK K
 go_simp
 iterate 1 (apply seqV_pure (ho := rfl) (hr := rfl) (hg := rfl); (intro w'; go_simp; rfl))
 unfold seqV
 go_simp
 have HE := Lib.hid (((Fr.refl (fun _ => False) w).drew.drew).trans hF3 (fun _ _ h => h))
 clear hF3 g1
 go_wp2_with fail
 go_ret
 exact ⟨rfl, HE.out⟩
theorem Fr.put1 {w w1 : World} {b : Nat} (h : Fr (fun k => k = b) w w1) (i : Nat) (v : Value) : Fr (fun k => k = b) w (w1.setCell ⟨b, i, none⟩ v) := h.setCell (p := ⟨b, i, none⟩) (fun _ => rfl) v
/-- An FST that was loaded. -/
structure Fst (w : World) (fb db g cap : Nat) (L : Prs) (D B : List Nat) (root : Nat) : Prop where
 file : File codesN backN D L B root
 fst : Blk w fb [.nilIface, .int .i64 1, .int .i64 (L.length : Int), .int .i64 0, .slice (some ⟨g, 0, none⟩) D.length cap, .iface 184 (.pointer (some ⟨db, 0, none⟩))] 134
 dec : Blk w db [.slice (some ⟨g, 0, none⟩) D.length cap] 204
 byts : Byts w g 0 D
 cap : D.length ≤ cap ∧ cap ≤ maxLen
theorem Fst.fr {w w' : World} {F : Nat → Prop} {fb db g cap root : Nat} {L : Prs} {D B : List Nat} (h : Fst w fb db g cap L D B root) (k : Fr F w w') (h1 : ¬ F fb) (h2 : ¬ F db) (h3 : ¬ F g) : Fst w' fb db g cap L D B root :=
 ⟨h.file, h.fst.fr k h1, h.dec.fr k h2, h.byts.fr k h3, h.cap⟩
theorem meth_len (a : Addr) (w : World) : (method 373 184 (.pointer (some a)) "pub-traverser/pub/vellum.getLen").run Tryz.prog w = .ok (135, .pointer (some a)) w := by kernel_rfl
theorem nil_len (a : Addr) (w : World) : (nilAhead 373 184 (.pointer (some a)) "pub-traverser/pub/vellum.getLen").run Tryz.prog w = .ok (some false) w := by kernel_rfl
set_option maxHeartbeats 1000000 in
set_option maxRecDepth 100000 in
theorem newfst_calls {w : World} {g cap root : Nat} {L : Prs} {D B : List Nat} (hf : File codesN backN D L B root) (hb : Byts w g 0 D) (hc : D.length ≤ cap) (hm : cap ≤ maxLen) (hg : g < w.heap.size) :
  Calls Tryz.prog 43 #[.slice (some ⟨g, 0, none⟩) D.length cap, .nilIface] w fun e w' => ∃ fb db, e = .returned (.tuple #[.pointer (some ⟨fb, 0, none⟩), .nilIface]) ∧ Fst w' fb db g cap L D B root ∧ w.heap.size ≤ fb ∧ w.heap.size ≤ db ∧ Fr (fun _ => False) w w' := by
 obtain ⟨n, hn⟩ : ∃ n, Hid (D.length = n) := ⟨_, Lib.hid rfl⟩
 have h32 : 32 ≤ n := by rw [← hn.out, hf.dlen]; have := hf.h16; omega
 have hD : D = pk 1 8 ++ (pk 0 8 ++ D.drop 16) := by
  have h1 := hf.head
  have h2 : D.take 16 = header := by rw [hf.eq, List.take_append_of_le_length hf.h16]; exact h1
  calc D = D.take 16 ++ D.drop 16 := (List.take_append_drop 16 D).symm
   _ = _ := by rw [h2]; simp [header]
 have HH := Lib.hid (And.intro hf (And.intro hb (And.intro hc (And.intro hm (And.intro hg hD)))))
 rw [hn.out] at hc ⊢
 obtain ⟨fb, hfb⟩ : ∃ fb, Hid (w.heap.size = fb) := ⟨_, Lib.hid rfl⟩
 have hF1 : Fr (fun _ => False) w (w.alloc (.cells [.nilIface, .int .i64 0, .int .i64 0, .int .i64 0, .slice (some ⟨g, 0, none⟩) n cap, .nilIface].toArray 134)) := (Fr.refl _ w).alloc _
 have hb1 : Blk (w.alloc (.cells [.nilIface, .int .i64 0, .int .i64 0, .int .i64 0, .slice (some ⟨g, 0, none⟩) n cap, .nilIface].toArray 134)) fb [.nilIface, .int .i64 0, .int .i64 0, .int .i64 0, .slice (some ⟨g, 0, none⟩) n cap, .nilIface] 134 := Blk.newAt w _ _ _ hfb.out
 have hd1 := hb.fr hF1 (fun h => h)
 rw [hD] at hd1
 have hh := header_calls (n := n) (cap := cap) hd1 (by omega) (by omega) (by omega) hc hm
 clear hf hb hm hg hD hd1
 go_enter Tryz.func43, Tryz.ntmps43
 go_wp2_with fail
 rw [hfb.out]
 refine hh.mono ?_
 rintro e w2 ⟨rfl, hF2⟩
 have hb2 := hb1.fr hF2 (fun h => h)
 have z1 := hb2.frz 1
 have z3 := hb2.frz 3
 have x1 := hb2.cell 1 rfl
 have x3 := hb2.cell 3 rfl
 have HE := Lib.hid (hF1.trans hF2 (fun _ _ h => h))
 clear hF1 hF2 hb1 hh
 go_wp2_with fail
 have hb3 := (hb2.set 1 (.int .i64 1)).set 3 (.int .i64 0)
 have hF3 : Fr (fun k => k = fb) w2 ((w2.setCell ⟨fb, 1, none⟩ (.int .i64 1)).setCell ⟨fb, 3, none⟩ (.int .i64 0)) := ((Fr.refl _ w2).put1 1 _).put1 3 _
 generalize (w2.setCell ⟨fb, 1, none⟩ (.int .i64 1)).setCell ⟨fb, 3, none⟩ (.int .i64 0) = w3 at *
 have y1 := hb3.cell 1 rfl
 have y4 := hb3.cell 4 rfl
 have hld := loaddec_calls (w := w3.drew) (g := g) (n := n) (c := cap)
 have HG := Lib.hid (And.intro hb2 hF3)
 clear hb2 z1 z3 x1 x3 hF3
 refine wp_region_seqV (fun W => W.cell? ⟨fb, 1, none⟩ = some (.int .i64 1) ∧ W.cell? ⟨fb, 4, none⟩ = some (.slice (some ⟨g, 0, none⟩) n cap)) (fun i => decide (i ≠ 9 ∧ i ≠ 15)) (fun i => ![4, 8].contains i && decide (i ≠ 9 ∧ i ≠ 15)) (fun i => decide (i = 15)) [0, 1, 2, 3, 4, 5, 6, 7, 8, 9, 10, 11, 12, 13, 14, 15, 16] (by kernel_rfl) (by kernel_rfl) (fun c a d v w h => by cases d <;> exact h) ⟨y1, y4⟩ ?_
 iterate 3 (apply seqV_pure (ho := rfl) (hr := rfl) (hg := rfl); (intro w'; go_simp; rfl))
 go_simp
 iterate 1 (apply seqV_pure (ho := rfl) (hr := rfl) (hg := rfl); (intro w'; go_simp; rfl))
 (apply seqV_read (ho := rfl) (hr := rfl) (hp := rfl) (hg := rfl); (rintro w' ⟨q0, q1⟩; go_simp; rfl))
 go_simp
 iterate 3 (apply seqV_pure (ho := rfl) (hr := rfl) (hg := rfl); (intro w'; go_simp; rfl))
 (apply seqV_read (ho := rfl) (hr := rfl) (hp := rfl) (hg := rfl); (rintro w' ⟨q0, q1⟩; go_simp; rfl))
 go_simp
 refine seqV_do rfl rfl fun K hK => ?_
 go_simp
 refine hld.mono ?_
 rintro e w4 ⟨rfl, rfl⟩
 have hb4 := (Blk.drew hb3).alloc (.cells [.slice (some ⟨g, 0, none⟩) n cap].toArray 204)
 refine hK _ _ (fun _ => ⟨hb4.cell 1 rfl, hb4.cell 4 rfl⟩) ?_
 clear hK K
 have hd4 := Blk.new w3.drew [.slice (some ⟨g, 0, none⟩) n cap] 204
 have hF4 : Fr (fun _ => False) w3 (w3.drew.alloc (.cells [.slice (some ⟨g, 0, none⟩) n cap].toArray 204)) := (Fr.refl _ w3).drew.alloc _
 obtain ⟨db, hdb⟩ : ∃ db, Hid (w3.heap.size = db) := ⟨_, Lib.hid rfl⟩
 rw [show w3.drew.heap.size = db from hdb.out] at hd4 ⊢
 generalize w3.drew.alloc (.cells [.slice (some ⟨g, 0, none⟩) n cap].toArray 204) = w4 at *
 have y5 := hb4.frz 5
 have x5 := hb4.cell 5 rfl
 go_simp
 iterate 3 (apply seqV_pure (ho := rfl) (hr := rfl) (hg := rfl); (intro w'; go_simp; rfl))
 go_simp
 iterate 2 (apply seqV_pure (ho := rfl) (hr := rfl) (hg := rfl); (intro w'; go_simp; rfl))
 refine seqV_do rfl rfl fun K hK => ?_
 go_simp
 refine hK _ _ (fun h => by cases h) ?_
 clear hK K
 go_simp
 iterate 1 (apply seqV_pure (ho := rfl) (hr := rfl) (hg := rfl); (intro w'; go_simp; rfl))
 unfold seqV
 go_simp
 have hb5 := hb4.set 5 (.iface 184 (.pointer (some ⟨db, 0, none⟩)))
 have hne : db ≠ fb := fun e => by
  have := hb3.lt
  rw [hdb.out, e] at this
  omega
 have hd5 := hd4.set_ne (a := ⟨fb, 5, none⟩) hne (.iface 184 (.pointer (some ⟨db, 0, none⟩)))
 have hF5 : Fr (fun k => k = fb) w3 (w4.setCell ⟨fb, 5, none⟩ (.iface 184 (.pointer (some ⟨db, 0, none⟩)))) := (hF4.mono fun _ _ h => h.elim).put1 5 _
 generalize w4.setCell ⟨fb, 5, none⟩ (.iface 184 (.pointer (some ⟨db, 0, none⟩))) = w5 at *
 obtain ⟨hf, hb, hc', hm, hg, hD⟩ := HH.out
 have hgf : ¬ g = fb := by rw [← hfb.out]; omega
 have hbb : Byts w5 g 0 D := ((hb.fr HE.out (fun h => h)).fr HG.out.2 hgf).fr hF5 hgf
 have hbb' := hbb
 rw [hf.eq] at hbb'
 have hcn := hf.cnt
 have hlen := getlen_calls (n := n) (cap := cap) (hd5.cell 0 rfl) hbb' (by rw [← hn.out, hf.dlen]) (by omega) hc hm
 have x5' := hb5.cell 5 rfl
 have x2 := hb5.cell 2 rfl
 have hm1 := meth_len ⟨db, 0, none⟩
 have hm2 := nil_len ⟨db, 0, none⟩
 have HI := Lib.hid (And.intro hb5 (And.intro hd5 (And.intro hF5 (And.intro hbb hdb))))
 clear hb3 hb4 hd4 y1 y4 y5 x5 hld hne hd5 hF4 hF5 hb hc' hm hg hD hgf hbb hbb' hb5
 clear hdb
 go_wp2_with fail
 refine hlen.mono ?_
 rintro e w6 ⟨rfl, hF6⟩
 obtain ⟨hb5, hd5, hF5, hbb, hdb⟩ := HI.out
 have hb6 := hb5.fr hF6 (fun h => h)
 have z2 := hb6.frz 2
 have w2' := hb6.cell 2 rfl
 have HJ := Lib.hid (And.intro hF6 (And.intro hb6 (hd5.fr hF6 (fun h => h))))
 clear hF6 hb6 hb5 hd5 hF5 hbb hlen x2 x5' hm1 hm2 hdb
 go_wp2_with fail
 go_ret2
 obtain ⟨hF6, hb6, hd6⟩ := HJ.out
 obtain ⟨hb5, hd5, hF5, hbb, hdb⟩ := HI.out
 obtain ⟨hf, hb, hc', hm, hg, hD⟩ := HH.out
 have hgf : ¬ g = fb := by rw [← hfb.out]; omega
 have h1 := HG.out.1.lt
 have h2 := HG.out.2.size
 have h3 := HE.out.size
 have h4 := hdb.out
 have h5 := hfb.out
 refine ⟨fb, db, rfl, ⟨hf, by rw [hn.out]; exact hb6.set 2 _, by rw [hn.out]; exact hd6.set_ne (by intro e; simp at e; omega) _, (hbb.fr hF6 (fun h => h)).fr ((Fr.refl (fun k => k = fb) w6).put1 2 _) hgf, hc', hm⟩, by omega, by omega, ?_⟩
 have hall := (((HE.out.mono (G := fun k => k = fb) (fun _ _ h => h.elim)).trans HG.out.2 (fun _ _ h => h)).trans hF5 (fun _ _ h => h)).trans (hF6.mono (G := fun k => k = fb) (fun _ _ h => h.elim)) (fun _ _ h => h)
 exact (hall.put1 2 _).mono fun k hk e => by omega
set_option maxHeartbeats 1000000 in
set_option maxRecDepth 100000 in
theorem load_calls {w : World} {g cap root : Nat} {L : Prs} {D B : List Nat} (hf : File codesN backN D L B root) (hb : Byts w g 0 D) (hc : D.length ≤ cap) (hm : cap ≤ maxLen) (hg : g < w.heap.size) :
  Calls Tryz.prog 27 #[.slice (some ⟨g, 0, none⟩) D.length cap] w fun e w' => ∃ fb db, e = .returned (.tuple #[.pointer (some ⟨fb, 0, none⟩), .nilIface]) ∧ Fst w' fb db g cap L D B root ∧ w.heap.size ≤ fb ∧ w.heap.size ≤ db ∧ Fr (fun _ => False) w w' := by
 have hn := newfst_calls hf hb hc hm hg
 obtain ⟨n, hn'⟩ : ∃ n, Hid (D.length = n) := ⟨_, Lib.hid rfl⟩
 rw [hn'.out] at hn ⊢
 clear hf hb hc hm hg
 go_enter Tryz.func27, Tryz.ntmps27
 go_wp2_with fail
 refine hn.mono ?_
 rintro e w2 ⟨fb, db, rfl, h1⟩
 have HE := Lib.hid h1
 clear h1 hn
 go_wp2_with fail
 go_ret2
 exact ⟨fb, db, rfl, HE.out⟩
end
section
open Go.RowKit Fmt
theorem and64 : ∀ x, x < 256 → x &&& 64 = x / 64 % 2 * 64 := by decide +kernel
theorem and15_u8 {x : Nat} (hx : x < 256) : bits .and .u8 (x : Int) 15 = ((x % 16 : Nat) : Int) := by
 have h1 : (BitVec.ofInt 8 (x : Int)).toNat = x := bv_nat (by omega)
 show IntKind.u8.wrap (((BitVec.ofInt 8 (x : Int)) &&& (BitVec.ofInt 8 15)).toNat : Int) = _
 rw [BitVec.toNat_and, h1, show (BitVec.ofInt 8 15).toNat = 2 ^ 4 - 1 from rfl, Nat.and_two_pow_sub_one_eq_mod]
 exact u8_wrap (by omega)
theorem and64_u8 {x : Nat} (hx : x < 256) : bits .and .u8 (x : Int) 64 = ((x / 64 % 2 * 64 : Nat) : Int) := by
 have h1 : (BitVec.ofInt 8 (x : Int)).toNat = x := bv_nat (by omega)
 show IntKind.u8.wrap (((BitVec.ofInt 8 (x : Int)) &&& (BitVec.ofInt 8 64)).toNat : Int) = _
 rw [BitVec.toNat_and, h1, show (BitVec.ofInt 8 64).toNat = 64 from rfl, and64 x hx]
 exact u8_wrap (by omega)
theorem unp_snoc (x : Nat) : ∀ l : List Nat, unp (l ++ [x]) = unp l + 256 ^ l.length * x
 | [] => by simp [unp]
 | b :: l => by
  simp only [List.cons_append, unp, unp_snoc x l, List.length_cons, Nat.pow_succ]
  rw [Nat.mul_add, Nat.mul_comm (256 ^ l.length) 256, ← Nat.mul_assoc]
  omega
theorem or_next {u x i : Nat} (hu : u < 256 ^ i) (hx : x < 256) (hi : i < 8) : bits .or .u64 (u : Int) (IntKind.u64.wrap ((x : Int) * 2 ^ (i * 8))) = ((u + 256 ^ i * x : Nat) : Int) := by
 have hp : 256 ^ i = 2 ^ (i * 8) := by rw [Nat.mul_comm, Nat.pow_mul]
 have hb : 256 ^ i * x + u < 2 ^ 64 := by
  have h1 : 256 ^ i * x + u < 256 ^ i * 256 := by
   have : 256 ^ i * (x + 1) ≤ 256 ^ i * 256 := Nat.mul_le_mul_left _ (by omega)
   rw [Nat.mul_add] at this
   omega
  have h2 : 256 ^ i * 256 ≤ 2 ^ 64 := by
   rw [← Nat.pow_succ, show (2 : Nat) ^ 64 = 256 ^ 8 by decide]
   exact Nat.pow_le_pow_right (by decide) (by omega)
  omega
 have e1 : ((x : Int) * 2 ^ (i * 8)) = ((256 ^ i * x : Nat) : Int) := by rw [hp]; push_cast; rw [Int.mul_comm]
 rw [e1, IntWalk.u64_in _ (by omega)]
 have h1 : (BitVec.ofInt 64 (u : Int)).toNat = u := bv_nat (by omega)
 have h2 : (BitVec.ofInt 64 ((256 ^ i * x : Nat) : Int)).toNat = 256 ^ i * x := bv_nat (by omega)
 show IntKind.u64.wrap (((BitVec.ofInt 64 (u : Int)) ||| (BitVec.ofInt 64 ((256 ^ i * x : Nat) : Int))).toNat : Int) = _
 rw [BitVec.toNat_or, h1, h2, Nat.or_comm, hp, ← Nat.two_pow_add_eq_or_of_lt (by rw [← hp]; exact hu), ← hp, Nat.add_comm]
 exact IntWalk.u64_in _ (by omega)
set_option maxHeartbeats 1000000 in
set_option maxRecDepth 100000 in
theorem upack_calls {w : World} {b o n c : Nat} {l : List Nat} (h : Byts w b o l) (hn : l.length = n) (hlb : ∀ x, x ∈ l → x < 256) (h8 : n ≤ 8) :
  Calls Tryz.prog 145 #[.slice (some ⟨b, o, none⟩) n c] w fun e w' => e = .returned (.int .u64 (unp l : Int)) ∧ w' = w := by
 have HH := Lib.hid (And.intro h (And.intro hn (And.intro hlb h8)))
 obtain ⟨V, hV⟩ : ∃ V, Hid (unp l = V) := ⟨_, Lib.hid rfl⟩
 rw [hV.out]
 clear h hn hlb h8
 go_enter Tryz.func145, Tryz.ntmps145
 go_wp2_with fail
 go_loopg [2, 7] (n + 1) (fun g a2 a7 wx => ∃ i : Nat, g = n - i + 1 ∧ i ≤ n ∧ a7 = .int .i64 (i : Int) ∧ a2 = .int .u64 (unp (l.take i) : Int) ∧ wx = w)
 case atStart => exact ⟨0, rfl, by omega, rfl, by simp [unp], rfl⟩
 case round =>
  obtain ⟨i, rfl, hi, rfl, rfl, rfl⟩ := hrel
  by_cases hin : i < n
  ·have e1 : (i : Int) < (n : Int) := by omega
   obtain ⟨h, hn, hlb, h8⟩ := HH.out
   obtain ⟨x, hx⟩ : ∃ x, l[i]? = some x := ⟨_, List.getElem?_eq_getElem (by omega)⟩
   have c0 := h.1 i x hx
   have hx2 := hlb x (List.mem_of_getElem? hx)
   obtain ⟨u, hu⟩ : ∃ u, Hid (unp (l.take i) = u) := ⟨_, Lib.hid rfl⟩
   have hul : u < 256 ^ i := by
    rw [← hu.out]
    have := unp_lt (l.take i) fun y hy => hlb y (List.mem_of_mem_take hy)
    rw [List.length_take, Nat.min_eq_left (by omega)] at this
    exact this
   have eor := or_next hul hx2 (by omega : i < 8)
   have hun : Hid (unp (l.take (i + 1)) = u + 256 ^ i * x) := Lib.hid (by
    rw [List.take_add_one, hx, Option.toList, unp_snoc, hu.out, List.length_take, Nat.min_eq_left (by omega)])
   rw [hu.out]
   have e9 : IntKind.i64.wrap ((i : Int) + 1) = (i : Int) + 1 := IntWalk.i64_in _ (by omega)
   have e8 : IntKind.i64.wrap ((i : Int) * 8) = (i : Int) * 8 := IntWalk.i64_in _ (by omega)
   have e7 : IntKind.u64.wrap ((i : Int) * 8) = (i : Int) * 8 := IntWalk.u64_in _ (by omega)
   have e6 : IntKind.u64.wrap (x : Int) = (x : Int) := IntWalk.u64_in _ (by omega)
   have e5 : ¬ (i : Int) * 8 < 0 := by omega
   have hi8 : i < 8 := by omega
   have HG := Lib.hid eor
   clear eor hul h hn hlb h8 hx hu
   go_wp2_with fail
   rw [HG.out]
   go_roundg (n - (i + 1) + 1)
   case measure => omega
   case rel => exact ⟨i + 1, rfl, by omega, by simp, by rw [hun.out], rfl⟩
  ·have e1 : ¬ (i : Int) < (n : Int) := by omega
   rw [List.take_of_length_le (by have := HH.out.2.1; omega), hV.out]
   go_wp2_with fail
   go_ret
   exact ⟨rfl, rfl⟩
theorem sizes_calls (w : World) {t u : Nat} (ht : t ≤ 8) (hu : u ≤ 8) : Calls Tryz.prog 144 #[.int .u8 ((t * 16 + u : Nat) : Int)] w fun e w' => e = .returned (.tuple #[.int .i64 (t : Int), .int .i64 (u : Int)]) ∧ w' = w := by
 have e1 := and15_u8 (x := t * 16 + u) (by omega)
 rw [show (t * 16 + u) % 16 = u by omega] at e1
 have e3 : ((t * 16 + u : Nat) : Int) / 16 = (t : Int) := by omega
 have e2 : IntKind.i64.wrap (u : Int) = (u : Int) := IntWalk.i64_in _ (by omega)
 have e4 : IntKind.i64.wrap (t : Int) = (t : Int) := IntWalk.i64_in _ (by omega)
 obtain ⟨x, hx⟩ : ∃ x, Hid (t * 16 + u = x) := ⟨_, Lib.hid rfl⟩
 have hx2 : x < 256 := by have := hx.out; omega
 rw [hx.out] at e1 e3 ⊢
 go_enter Tryz.func144, Tryz.ntmps144
 go_wp2_with fail
 go_ret2
 exact ⟨rfl, rfl⟩
end
end Go.Proofs.YtmhlnijpimjjaaaGreatDoor
