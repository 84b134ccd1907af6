/- A state with many transitions, read. Condition: it was written so. The reference: values put together, two lists compared. No condition. -/
import Derived.Test.YtmhlnijpimjjaaaGreatDoorM19
import Derived.Test.YtmhlnijpimjjaaaGreatDoorM20
import Derived.Deep.QuietTactic
import Derived.BigQuiet
set_option linter.unusedSimpArgs false
set_option linter.unusedVariables false
namespace Go.Proofs.YtmhlnijpimjjaaaGreatDoor
section
open Go.RowKit Fmt
def ManyPost (w : World) (db g n cap addr start N t u k P1 P2 P3 : Nat) (fin : Bool) (w' : World) : Prop :=
 ∃ ot ob fo : Nat, Blk w' db (scells g n cap addr start N 0 false 0 0 t u fin k P1 P1 P2 ot ob fo) 257 ∧ Fr (fun k => k = db) w w' ∧ (u = 0 → ot = 0 ∧ ob = 0) ∧ (0 < u → ot = P2 ∧ ob = P3 ∧ (fin = true → fo = start))
set_option maxHeartbeats 8000000 in
set_option maxRecDepth 100000 in
theorem at_many {w : World} {db g n cap addr h k t u start N P1 P2 P3 : Nat} {fin : Bool} (hb : Blk w db (scells g n cap addr addr 0 0 false 0 0 0 0 false 0 0 0 0 0 0 0) 257) (hgd : ¬ g = db)
  (hh : w.cell? ⟨g, addr, none⟩ = some (.int .u8 (h : Int))) (hn : addr < n) (h256 : h < 256) (hfin : h / 64 % 2 = 1 ↔ fin = true)
  (hi : h % 64 = N ∧ N ≠ 0 ∧ k + 1 = addr ∨ h % 64 = 0 ∧ k + 2 = addr ∧ ∃ x : Nat, w.cell? ⟨g, k + 1, none⟩ = some (.int .u8 (x : Int)) ∧ x < 256 ∧ N = if x = 1 then 256 else x)
  (hx : w.cell? ⟨g, k, none⟩ = some (.int .u8 ((t * 16 + u : Nat) : Int))) (ht : t ≤ 8) (hu : u ≤ 8) (h1 : P1 + N = k) (h2 : P2 + N * t = P1) (h3 : P3 + N * u = P2) (h4 : start + (if fin = true then u else 0) = P3) (hm : n < 9223372036854775808) :
  Calls Tryz.prog 143 #[.pointer (some ⟨db, 0, none⟩), .slice (some ⟨g, 0, none⟩) n cap, .int .i64 (addr : Int)] w fun e w' => e = .returned .nilIface ∧ ManyPost w db g n cap addr start N t u k P1 P2 P3 fin w' := by
 have ho := other_cell (fun e => hgd e.symm : db ≠ g)
 obtain ⟨f, hf⟩ : ∃ f, Hid (h / 64 % 2 * 64 = f) := ⟨_, Lib.hid rfl⟩
 have e1 := and64_u8 h256
 rw [hf.out] at e1
 have ef : decide (0 < f) = fin := by
  have h2 : h / 64 % 2 < 2 := Nat.mod_lt _ (by decide)
  have := hf.out
  cases fin
  ·have : ¬ h / 64 % 2 = 1 := fun e => by cases hfin.1 e
   rw [decide_eq_false_iff_not]; omega
  ·have := hfin.2 rfl
   rw [decide_eq_true_eq]; omega
 have e2 := and_u8 h256
 have en : (addr : Int) < (n : Int) := by omega
 have hka : k < addr := by omega
 have en2 : (k : Int) < (n : Int) := by omega
 obtain ⟨x, hxn⟩ : ∃ x, Hid (t * 16 + u = x) := ⟨_, Lib.hid rfl⟩
 have hsz := fun w => sizes_calls w ht hu
 simp only [hxn.out] at hsz
 rw [hxn.out] at hx
 have hNt : N * t ≤ k := by omega
 have hNu : N * u ≤ k := by omega
 have hNk : N ≤ k := by omega
 have f1 : IntKind.i64.wrap ((k : Int) - (N : Int)) = (P1 : Int) := by rw [IntWalk.i64_in _ (by omega)]; omega
 obtain ⟨A, hA⟩ : ∃ A, Hid (N * t = A) := ⟨_, Lib.hid rfl⟩
 obtain ⟨B, hB⟩ : ∃ B, Hid (N * u = B) := ⟨_, Lib.hid rfl⟩
 have f2 : IntKind.i64.wrap ((N : Int) * (t : Int)) = (A : Int) := by rw [← Int.natCast_mul, hA.out]; exact IntWalk.i64_in _ (by have := hA.out; omega)
 have f3 : IntKind.i64.wrap ((N : Int) * (u : Int)) = (B : Int) := by rw [← Int.natCast_mul, hB.out]; exact IntWalk.i64_in _ (by have := hB.out; omega)
 rw [hA.out] at h2
 rw [hB.out] at h3
 have f4 : IntKind.i64.wrap ((P1 : Int) - (A : Int)) = (P2 : Int) := by rw [IntWalk.i64_in _ (by omega)]; omega
 have f5 : IntKind.i64.wrap ((P2 : Int) - (B : Int)) = (P3 : Int) := by rw [IntWalk.i64_in _ (by omega)]; omega
 have f6 : fin = true → IntKind.i64.wrap ((P3 : Int) - (u : Int)) = (start : Int) := fun e => by
  rw [if_pos e] at h4
  rw [IntWalk.i64_in _ (by omega)]; omega
 have f7 : u = 0 → P2 = start := fun e => by
  have : B = 0 := by rw [← hB.out, e]; rfl
  have : (if fin = true then u else 0) = 0 := by split <;> omega
  omega
 have f8 : fin = false → P3 = start := fun e => by
  rw [e, if_neg (by decide)] at h4; omega
 have HZ := Lib.hid (And.intro f7 (And.intro f8 f6))
 have eN : IntKind.i64.wrap (N : Int) = (N : Int) := IntWalk.i64_in _ (by omega)
 have r1 := hb.cell 1 rfl
 have z1 := hb.frz 1
 have r2 := hb.cell 2 rfl
 have z2 := hb.frz 2
 have r3 := hb.cell 3 rfl
 have z3 := hb.frz 3
 have r8 := hb.cell 8 rfl
 have z8 := hb.frz 8
 have r9 := hb.cell 9 rfl
 have z9 := hb.frz 9
 have r10 := hb.cell 10 rfl
 have z10 := hb.frz 10
 have r11 := hb.cell 11 rfl
 have z11 := hb.frz 11
 have H0 := Lib.hid (And.intro hb (Fr.refl (fun k => k = db) w))
 have hmm := Lib.hid (And.intro hNk (And.intro hm hn))
 clear hfin h1 h2 h3 h4 hNt hNu hNk ht hu f7 f8 f6
 obtain ⟨m, hmd⟩ : ∃ m, Hid (k + 1 = m) := ⟨_, Lib.hid rfl⟩
 have hmd2 := hmd.out
 have e5 : IntKind.i64.wrap ((m : Int) - 1) = (k : Int) := by rw [IntWalk.i64_in _ (by omega)]; omega
 have HG := Lib.hid hgd
 go_enter Tryz.func143, Tryz.ntmps143
 go_upto_if 35 with fail
 go_cut [] (fun wx => Blk wx db (scells g n cap addr m N 0 false 0 0 0 0 fin 0 0 0 0 0 0 0) 257 ∧ Fr (fun k => k = db) w wx)
 case first =>
  rcases hi with ⟨h0, hN0, hk⟩ | ⟨h0, hk, y, hy, hy256, hN⟩
  ·have e2' : (h : Int) % 64 = (N : Int) := by omega
   rw [h0] at e2
   rw [e2']
   have e3 : ¬ (N : Int) = 0 := by omega
   obtain rfl : m = addr := by omega
   clear e2'
   clear h0 hN0 hk hm hn hka h256 hmd2
   clear hb
   go_wp2_with fail
   go_meet
   exact ⟨((H0.out.1.set 10 _).set 3 _), ((H0.out.2.put1 10 _).put1 3 _)⟩
  ·have e2' : (h : Int) % 64 = 0 := by omega
   rw [h0] at e2
   rw [e2']
   clear e2'
   rw [hmd.out] at hy
   have e4 : IntKind.i64.wrap ((addr : Int) - 1) = (m : Int) := by rw [IntWalk.i64_in _ (by omega)]; omega
   have en3 : (m : Int) < (n : Int) := by omega
   by_cases hy1 : y = 1
   ·subst hy1
    rw [if_pos rfl] at hN
    subst hN
    clear h0 hk hm hn hka h256 hmd2 hy256
    have q0 := ((((hb.set 10 (.bool fin)).set 3 (.int .i64 0)).set 2 (.int .i64 ((m : Nat) : Int))).set 3 (.int .i64 1)).cell 3 rfl
    clear hb
    go_wp2_with fail
    go_meet
    exact ⟨(((((H0.out.1.set 10 _).set 3 _).set 2 _).set 3 _).set 3 _), (((((H0.out.2.put1 10 _).put1 3 _).put1 2 _).put1 3 _).put1 3 _)⟩
   ·rw [if_neg hy1] at hN
    subst hN
    have e6 : ¬ (N : Int) = 1 := by omega
    clear h0 hk hm hn hka h256 hmd2 hy256 hy1
    have q0 := ((((hb.set 10 (.bool fin)).set 3 (.int .i64 0)).set 2 (.int .i64 ((m : Nat) : Int))).set 3 (.int .i64 ((N : Nat) : Int))).cell 3 rfl
    clear hb
    go_wp2_with fail
    go_meet
    exact ⟨((((H0.out.1.set 10 _).set 3 _).set 2 _).set 3 _), ((((H0.out.2.put1 10 _).put1 3 _).put1 2 _).put1 3 _)⟩
 case rest =>
 obtain ⟨hb1, hF1⟩ := hcut
 clear hb hi e1 e2 ef hh r1 z1 r2 z2 r3 z3 r8 z8 r9 z9 r10 z10 r11 z11 hmd2 hka h256 hm hn H0 ho
 have r1_2 := hb1.cell 2 rfl
 have z1_2 := hb1.frz 2
 have r1_8 := hb1.cell 8 rfl
 have z1_8 := hb1.frz 8
 have r1_9 := hb1.cell 9 rfl
 have z1_9 := hb1.frz 9
 have r1_11 := hb1.cell 11 rfl
 have z1_11 := hb1.frz 11
 have H1 := Lib.hid (And.intro hb1 hF1)
 have q0 := ((hb1.set 2 (.int .i64 (k : Int))).cell 2 rfl)
 have ox := other_cell (fun e => hgd e.symm : db ≠ g)
 have hx1 := hF1.cell hx hgd
 clear hb1 hF1
 go_wp2_with fail
 refine (hsz _).mono ?_
 rintro e w' ⟨rfl, rfl⟩
 go_wp2_with fail
 clear q0 ox hx1 r1_2 z1_2 r1_8 z1_8 r1_9 z1_9 r1_11 z1_11
 refine wp_named (fun X => Blk X db (scells g n cap addr k N 0 false 0 0 t u fin k 0 0 0 0 0 0) 257 ∧ Fr (fun k => k = db) w X) ⟨((((H1.out.1.set 2 _).set 8 _).set 9 _).set 11 _), ((((H1.out.2.put1 2 _).put1 8 _).put1 9 _).put1 11 _)⟩ ?_
 rintro w2 ⟨hb2, hF2⟩
 have r2_2 := hb2.cell 2 rfl
 have r2_3 := hb2.cell 3 rfl
 have r2_12 := hb2.cell 12 rfl
 have r2_13 := hb2.cell 13 rfl
 have z2_2 := hb2.frz 2
 have z2_12 := hb2.frz 12
 have z2_13 := hb2.frz 13
 have H2 := Lib.hid (And.intro hb2 hF2)
 clear hb2 hF2
 refine wp_region_seqV (fun W => W.cell? ⟨db, 2, none⟩ = some (.int .i64 ((k : Nat) : Int)) ∧ W.cell? ⟨db, 3, none⟩ = some (.int .i64 ((N : Nat) : Int))) (fun i => decide (i ≠ 11)) (fun i => ![3, 7].contains i && decide (i ≠ 11)) (fun i => decide (i = 11)) [0, 1, 2, 3, 4, 5, 6, 7, 8, 9, 10, 11] (by kernel_rfl) (by kernel_rfl) (fun c a d v w h => by cases d <;> exact h) ⟨r2_2, r2_3⟩ ?_
 iterate 3 (apply seqV_pure (ho := rfl) (hr := rfl) (hg := rfl); (intro w'; go_simp; rfl))
 (apply seqV_read (ho := rfl) (hr := rfl) (hp := rfl) (hg := rfl); (rintro w' ⟨q0, q1⟩; go_simp; rfl))
 go_simp
 iterate 3 (apply seqV_pure (ho := rfl) (hr := rfl) (hg := rfl); (intro w'; go_simp; rfl))
 (apply seqV_read (ho := rfl) (hr := rfl) (hp := rfl) (hg := rfl); (rintro w' ⟨q0, q1⟩; go_simp; rfl))
 go_simp
 iterate 3 (apply seqV_pure (ho := rfl) (hr := rfl) (hg := rfl); (intro w'; go_simp; rfl))
 refine seqV_do rfl rfl fun K hK => ?_
 go_simp
 refine hK _ _ (fun h => by cases h) ?_
 clear hK K
 unfold seqV
 go_simp
 go_wp2_with fail
 refine wp_named (fun X => Blk X db (scells g n cap addr P1 N 0 false 0 0 t u fin k P1 P1 0 0 0 0) 257 ∧ Fr (fun k => k = db) w X) (by first | exact ⟨((((Blk.drew H2.out.1).set 2 _).set 12 _).set 13 _), ((((Fr.drew H2.out.2).put1 2 _).put1 12 _).put1 13 _)⟩ | exact ⟨(Blk.drew (((H2.out.1.set 2 _).set 12 _).set 13 _)), (Fr.drew (((H2.out.2.put1 2 _).put1 12 _).put1 13 _))⟩) ?_
 rintro w3 ⟨hb3, hF3⟩
 have r3_2 := hb3.cell 2 rfl
 have r3_3 := hb3.cell 3 rfl
 have r3_8 := hb3.cell 8 rfl
 have r3_9 := hb3.cell 9 rfl
 have r3_14 := hb3.cell 14 rfl
 have r3_15 := hb3.cell 15 rfl
 have z3_2 := hb3.frz 2
 have z3_14 := hb3.frz 14
 have z3_15 := hb3.frz 15
 have H3 := Lib.hid (And.intro hb3 hF3)
 clear hb3 hF3
 refine wp_region_seqV (fun W => W.cell? ⟨db, 2, none⟩ = some (.int .i64 ((P1 : Nat) : Int)) ∧ W.cell? ⟨db, 3, none⟩ = some (.int .i64 ((N : Nat) : Int)) ∧ W.cell? ⟨db, 8, none⟩ = some (.int .i64 ((t : Nat) : Int))) (fun i => decide (i ≠ 16)) (fun i => ![3, 7, 11].contains i && decide (i ≠ 16)) (fun i => decide (i = 16)) [0, 1, 2, 3, 4, 5, 6, 7, 8, 9, 10, 11, 12, 13, 14, 15, 16] (by kernel_rfl) (by kernel_rfl) (fun c a d v w h => by cases d <;> exact h) ⟨r3_2, r3_3, r3_8⟩ ?_
 iterate 3 (apply seqV_pure (ho := rfl) (hr := rfl) (hg := rfl); (intro w'; go_simp; rfl))
 (apply seqV_read (ho := rfl) (hr := rfl) (hp := rfl) (hg := rfl); (rintro w' ⟨q0, q1, q2⟩; go_simp; rfl))
 go_simp
 iterate 3 (apply seqV_pure (ho := rfl) (hr := rfl) (hg := rfl); (intro w'; go_simp; rfl))
 (apply seqV_read (ho := rfl) (hr := rfl) (hp := rfl) (hg := rfl); (rintro w' ⟨q0, q1, q2⟩; go_simp; rfl))
 go_simp
 iterate 3 (apply seqV_pure (ho := rfl) (hr := rfl) (hg := rfl); (intro w'; go_simp; rfl))
 (apply seqV_read (ho := rfl) (hr := rfl) (hp := rfl) (hg := rfl); (rintro w' ⟨q0, q1, q2⟩; go_simp; rfl))
 go_simp
 iterate 3 (apply seqV_pure (ho := rfl) (hr := rfl) (hg := rfl); (intro w'; go_simp; rfl))
 go_simp
 iterate 1 (apply seqV_pure (ho := rfl) (hr := rfl) (hg := rfl); (intro w'; go_simp; rfl))
 refine seqV_do rfl rfl fun K hK => ?_
 go_simp
 refine hK _ _ (fun h => by cases h) ?_
 clear hK K
 unfold seqV
 go_simp
 rcases Nat.eq_zero_or_pos u with hu0 | hu0
 ·have eu : ¬ (0 : Int) < (u : Int) := by omega
  obtain rfl := HZ.out.1 hu0
  clear hu0
  go_wp2_with fail
  go_ret
  first
  | exact ⟨rfl, 0, 0, 0, (((Blk.drew H3.out.1).set 2 _).set 14 _), (((Fr.drew H3.out.2).put1 2 _).put1 14 _), fun _ => ⟨rfl, rfl⟩, fun h => absurd h (by omega)⟩
  | exact ⟨rfl, 0, 0, 0, (Blk.drew ((H3.out.1.set 2 _).set 14 _)), (Fr.drew ((H3.out.2.put1 2 _).put1 14 _)), fun _ => ⟨rfl, rfl⟩, fun h => absurd h (by omega)⟩
 ·have eu : (0 : Int) < (u : Int) := by omega
  go_wp2_with fail
  refine wp_named (fun X => Blk X db (scells g n cap addr P2 N 0 false 0 0 t u fin k P1 P1 P2 P2 0 0) 257 ∧ Fr (fun k => k = db) w X) (by first | exact ⟨((((Blk.drew H3.out.1).set 2 _).set 14 _).set 15 _), ((((Fr.drew H3.out.2).put1 2 _).put1 14 _).put1 15 _)⟩ | exact ⟨(Blk.drew (((H3.out.1.set 2 _).set 14 _).set 15 _)), (Fr.drew (((H3.out.2.put1 2 _).put1 14 _).put1 15 _))⟩) ?_
  rintro w4 ⟨hb4, hF4⟩
  have r4_2 := hb4.cell 2 rfl
  have r4_3 := hb4.cell 3 rfl
  have r4_9 := hb4.cell 9 rfl
  have r4_10 := hb4.cell 10 rfl
  have r4_16 := hb4.cell 16 rfl
  have z4_2 := hb4.frz 2
  have z4_16 := hb4.frz 16
  have H4 := Lib.hid (And.intro hb4 hF4)
  clear hb4 hF4
  refine wp_region_seqV (fun W => W.cell? ⟨db, 2, none⟩ = some (.int .i64 ((P2 : Nat) : Int)) ∧ W.cell? ⟨db, 3, none⟩ = some (.int .i64 ((N : Nat) : Int)) ∧ W.cell? ⟨db, 9, none⟩ = some (.int .i64 ((u : Nat) : Int))) (fun i => decide (i ≠ 16)) (fun i => ![3, 7, 11].contains i && decide (i ≠ 16)) (fun i => decide (i = 16)) [0, 1, 2, 3, 4, 5, 6, 7, 8, 9, 10, 11, 12, 13, 14, 15, 16] (by kernel_rfl) (by kernel_rfl) (fun c a d v w h => by cases d <;> exact h) ⟨r4_2, r4_3, r4_9⟩ ?_
  iterate 3 (apply seqV_pure (ho := rfl) (hr := rfl) (hg := rfl); (intro w'; go_simp; rfl))
  (apply seqV_read (ho := rfl) (hr := rfl) (hp := rfl) (hg := rfl); (rintro w' ⟨q0, q1, q2⟩; go_simp; rfl))
  go_simp
  iterate 3 (apply seqV_pure (ho := rfl) (hr := rfl) (hg := rfl); (intro w'; go_simp; rfl))
  (apply seqV_read (ho := rfl) (hr := rfl) (hp := rfl) (hg := rfl); (rintro w' ⟨q0, q1, q2⟩; go_simp; rfl))
  go_simp
  iterate 3 (apply seqV_pure (ho := rfl) (hr := rfl) (hg := rfl); (intro w'; go_simp; rfl))
  (apply seqV_read (ho := rfl) (hr := rfl) (hp := rfl) (hg := rfl); (rintro w' ⟨q0, q1, q2⟩; go_simp; rfl))
  go_simp
  iterate 3 (apply seqV_pure (ho := rfl) (hr := rfl) (hg := rfl); (intro w'; go_simp; rfl))
  go_simp
  iterate 1 (apply seqV_pure (ho := rfl) (hr := rfl) (hg := rfl); (intro w'; go_simp; rfl))
  refine seqV_do rfl rfl fun K hK => ?_
  go_simp
  refine hK _ _ (fun h => by cases h) ?_
  clear hK K
  unfold seqV
  go_simp
  cases fin
  ·obtain rfl := HZ.out.2.1 rfl
   go_wp2_with fail
   go_ret
   first
   | exact ⟨rfl, P2, _, 0, (((Blk.drew H4.out.1).set 2 _).set 16 _), (((Fr.drew H4.out.2).put1 2 _).put1 16 _), fun h => absurd h (by omega), fun _ => ⟨rfl, rfl, fun h => by cases h⟩⟩
   | exact ⟨rfl, P2, _, 0, (Blk.drew ((H4.out.1.set 2 _).set 16 _)), (Fr.drew ((H4.out.2.put1 2 _).put1 16 _)), fun h => absurd h (by omega), fun _ => ⟨rfl, rfl, fun h => by cases h⟩⟩
  ·have g4 := HZ.out.2.2 rfl
   go_wp2_with fail
   refine wp_named (fun X => Blk X db (scells g n cap addr P3 N 0 false 0 0 t u true k P1 P1 P2 P2 P3 0) 257 ∧ Fr (fun k => k = db) w X) (by first | exact ⟨(((Blk.drew H4.out.1).set 2 _).set 16 _), (((Fr.drew H4.out.2).put1 2 _).put1 16 _)⟩ | exact ⟨(Blk.drew ((H4.out.1.set 2 _).set 16 _)), (Fr.drew ((H4.out.2.put1 2 _).put1 16 _))⟩) ?_
   rintro w5 ⟨hb5, hF5⟩
   have r5_2 := hb5.cell 2 rfl
   have r5_9 := hb5.cell 9 rfl
   have r5_17 := hb5.cell 17 rfl
   have z5_2 := hb5.frz 2
   have z5_17 := hb5.frz 17
   have H5 := Lib.hid (And.intro hb5 hF5)
   clear hb5 hF5
   refine wp_region_seqV (fun W => W.cell? ⟨db, 2, none⟩ = some (.int .i64 ((P3 : Nat) : Int)) ∧ W.cell? ⟨db, 9, none⟩ = some (.int .i64 ((u : Nat) : Int))) (fun i => decide (i ≠ 11)) (fun i => ![3, 7].contains i && decide (i ≠ 11)) (fun i => decide (i = 11)) [0, 1, 2, 3, 4, 5, 6, 7, 8, 9, 10, 11] (by kernel_rfl) (by kernel_rfl) (fun c a d v w h => by cases d <;> exact h) ⟨r5_2, r5_9⟩ ?_
   iterate 3 (apply seqV_pure (ho := rfl) (hr := rfl) (hg := rfl); (intro w'; go_simp; rfl))
   (apply seqV_read (ho := rfl) (hr := rfl) (hp := rfl) (hg := rfl); (rintro w' ⟨q0, q1⟩; go_simp; rfl))
   go_simp
   iterate 3 (apply seqV_pure (ho := rfl) (hr := rfl) (hg := rfl); (intro w'; go_simp; rfl))
   (apply seqV_read (ho := rfl) (hr := rfl) (hp := rfl) (hg := rfl); (rintro w' ⟨q0, q1⟩; go_simp; rfl))
   go_simp
   iterate 3 (apply seqV_pure (ho := rfl) (hr := rfl) (hg := rfl); (intro w'; go_simp; rfl))
   refine seqV_do rfl rfl fun K hK => ?_
   go_simp
   refine hK _ _ (fun h => by cases h) ?_
   clear hK K
   unfold seqV
   go_simp
   go_wp2_with fail
   go_ret
   first
   | exact ⟨rfl, P2, P3, start, (((Blk.drew H5.out.1).set 2 _).set 17 _), (((Fr.drew H5.out.2).put1 2 _).put1 17 _), fun h => absurd h (by omega), fun _ => ⟨rfl, rfl, fun _ => rfl⟩⟩
   | exact ⟨rfl, P2, P3, start, (Blk.drew ((H5.out.1.set 2 _).set 17 _)), (Fr.drew ((H5.out.2.put1 2 _).put1 17 _)), fun h => absurd h (by omega), fun _ => ⟨rfl, rfl, fun _ => rfl⟩⟩
end
section
open Go.RowKit Fmt
/-- A slice of numbers, or nil. -/
def NumsV (w : World) (v : Value) (l : List Nat) : Prop := (∃ b o c, v = .slice (some ⟨b, o, none⟩) l.length c ∧ (∀ (i x : Nat), l[i]? = some x → w.cell? ⟨b, o + i, none⟩ = some (.int .u64 (x : Int))) ∧ b < w.heap.size ∧ l.length ≤ c ∧ c ≤ maxLen) ∨ (l = [] ∧ v = .slice none 0 0)
theorem jn_take (how : Nat) {l : List Nat} {k x : Nat} (h0 : 0 < k) (hx : l[k]? = some x) : jn how (l.take (k + 1)) = jop how (jn how (l.take k)) x := by
 rw [List.take_add_one, hx]
 cases l with
 | nil => simp at hx
 | cons a l =>
  obtain ⟨j, rfl⟩ : ∃ j, k = j + 1 := ⟨k - 1, by omega⟩
  simp [jn, List.take_succ_cons, List.foldl_append]
set_option maxHeartbeats 1000000 in
set_option maxRecDepth 100000 in
theorem joined_calls {w : World} {v : Value} {l : List Nat} {how : Nat} (h : NumsV w v l) (h0 : l ≠ []) (hl : l.length ≤ 1099511627776) (hlt : ∀ x, x ∈ l → x < 2 ^ 64) (hh : how ≤ 2) : Calls Tryz.prog 16 #[v, .int .i64 (how : Int)] w fun e w' => e = .returned (.int .u64 (jn how l : Int)) ∧ w' = w := by
 rcases h with ⟨b, o, c, rfl, hc, hb, hcap, hcm⟩ | ⟨h1, _⟩
 ·have hn0 : 0 < l.length := List.length_pos_iff.2 h0
  obtain ⟨y, hy⟩ : ∃ y, l[0]? = some y := ⟨_, List.getElem?_eq_getElem hn0⟩
  have c0 := hc 0 y hy
  rw [Nat.add_zero] at c0
  have HC := Lib.hid hc
  have HL := Lib.hid hlt
  have HJ : Hid (jn how (l.take 1) = y) := Lib.hid (by
   cases l with
   | nil => simp at hy
   | cons a l => simp at hy; subst hy; rfl)
  obtain ⟨n, hn⟩ : ∃ n, Hid (l.length = n) := ⟨_, Lib.hid rfl⟩
  rw [hn.out] at hn0 hl hcap ⊢
  have e0 : (0 : Int) < (n : Int) := by omega
  clear hc hlt hb hcm h0 hy
  go_enter Tryz.func16, Tryz.ntmps16
  go_wp2_with fail
  clear c0
  go_loopg [6, 5] n (fun g i u wx => ∃ k : Nat, 1 ≤ k ∧ k ≤ n ∧ g = n - k + 1 ∧ i = .int .i64 (k : Int) ∧ u = .int .u64 (jn how (l.take k) : Int) ∧ wx = w)
  case atStart => exact ⟨1, by omega, by omega, by omega, rfl, by rw [HJ.out], rfl⟩
  case round =>
   obtain ⟨k, hk0, hk, rfl, rfl, rfl, rfl⟩ := hrel
   by_cases hkn : k < n
   ·obtain ⟨x, hx⟩ : ∃ x, l[k]? = some x := ⟨_, List.getElem?_eq_getElem (by rw [hn.out]; exact hkn)⟩
    have ck := HC.out k x hx
    have e1 : (k : Int) < (n : Int) := by omega
    have e4 : IntKind.i64.wrap ((k : Int) + 1) = ((k + 1 : Nat) : Int) := by rw [IntWalk.i64_in _ (by omega)]; omega
    have hj := jn_take how hk0 hx
    have hlx := HL.out x (List.mem_of_getElem? hx)
    have hlj := jn_lt (how := how) (l := l.take k) (fun y hy => HL.out y (List.mem_of_mem_take hy))
    have HK := Lib.hid hj
    obtain ⟨u, hu⟩ : ∃ u, Hid (jn how (l.take k) = u) := ⟨_, Lib.hid rfl⟩
    rw [hu.out] at hj hlj ⊢
    unfold jop at hj
    rcases (by omega : how = 0 ∨ how = 1 ∨ how = 2) with rfl | rfl | rfl
    ·simp only [if_true] at hj
     by_cases hlt : x < u
     ·rw [if_pos hlt] at hj
      have e5 : (x : Int) < (u : Int) := by omega
      have HR := Lib.hid hj
      clear hj hx hlx hlj
      go_wp2_with fail
      go_roundg (n - (k + 1) + 1)
      case measure => omega
      case rel => exact ⟨k + 1, by omega, by omega, rfl, by simp, by rw [HR.out], rfl⟩
     ·rw [if_neg hlt] at hj
      have e5 : ¬ (x : Int) < (u : Int) := by omega
      have HR := Lib.hid hj
      clear hj hx hlx hlj
      go_wp2_with fail
      go_roundg (n - (k + 1) + 1)
      case measure => omega
      case rel => exact ⟨k + 1, by omega, by omega, rfl, by simp, by rw [HR.out], rfl⟩
    ·rw [if_neg (by decide), if_pos rfl] at hj
     by_cases hlt : u < x
     ·rw [if_pos hlt] at hj
      have e5 : (u : Int) < (x : Int) := by omega
      have HR := Lib.hid hj
      clear hj hx hlx hlj
      go_wp2_with fail
      go_roundg (n - (k + 1) + 1)
      case measure => omega
      case rel => exact ⟨k + 1, by omega, by omega, rfl, by simp, by rw [HR.out], rfl⟩
     ·rw [if_neg hlt] at hj
      have e5 : ¬ (u : Int) < (x : Int) := by omega
      have HR := Lib.hid hj
      clear hj hx hlx hlj
      go_wp2_with fail
      go_roundg (n - (k + 1) + 1)
      case measure => omega
      case rel => exact ⟨k + 1, by omega, by omega, rfl, by simp, by rw [HR.out], rfl⟩
    ·rw [if_neg (by decide), if_neg (by decide)] at hj
     obtain ⟨z, hz⟩ : ∃ z, Hid ((u + x) % 18446744073709551616 = z) := ⟨_, Lib.hid rfl⟩
     rw [hz.out] at hj
     have e5 : IntKind.u64.wrap ((u : Int) + (x : Int)) = (z : Int) := by
      have := hz.out
      rw [IntKind.wrap_u64]; omega
     have HR := Lib.hid hj
     clear hj hx hlx hlj
     go_wp2_with fail
     go_roundg (n - (k + 1) + 1)
     case measure => omega
     case rel => exact ⟨k + 1, by omega, by omega, rfl, by simp, by rw [HR.out], rfl⟩
   ·obtain rfl : k = n := by omega
    have e1 : ¬ (k : Int) < (k : Int) := by omega
    have HR : Hid (l.take k = l) := Lib.hid (List.take_of_length_le (by rw [hn.out]; exact Nat.le_refl _))
    go_wp2_with fail
    go_ret
    refine ⟨?_, rfl⟩
    rw [HR.out]; rfl
 ·exact absurd h1 h0
set_option maxHeartbeats 1000000 in
set_option maxRecDepth 100000 in
theorem same_calls {w : World} {v1 v2 : Value} {L : Prs} (h1 : PrV w v1 L) (h2 : PrV w v2 L) (hl : L.length ≤ 1099511627776) : Calls Tryz.prog 11 #[v1, v2] w fun e w' => e = .returned (.bool true) ∧ Fr (fun _ => False) w w' := by
 obtain ⟨A, c, rfl, hc, hm⟩ := h1.len
 obtain ⟨A2, c2, rfl, hc2, hm2⟩ := h2.len
 have HH := Lib.hid (And.intro h1 h2)
 have HE := Lib.hid (Fr.refl (fun _ => False) w)
 generalize hn : L.length = n at *
 clear h1 h2
 go_enter Tryz.func11, Tryz.ntmps11
 go_wp2_with fail
 go_loopg [5] (n + 1) (fun g i wx => ∃ k : Nat, k ≤ n ∧ g = n - k + 1 ∧ i = .int .i64 (k : Int) ∧ Fr (fun _ => False) w wx)
 case atStart => exact ⟨0, by omega, by omega, rfl, HE.out⟩
 case round =>
  obtain ⟨k, hk, rfl, rfl, hF⟩ := hrel
  by_cases hkn : k < n
  ·have e1 : (k : Int) < (n : Int) := by omega
   obtain ⟨p, hp⟩ : ∃ p, L[k]? = some p := ⟨_, List.getElem?_eq_getElem (by omega)⟩
   obtain ⟨b1, o1, c1', s, k1, k2, k3, k4⟩ := (HH.out.1.fr hF).at_ hp
   obtain ⟨b2, o2, c2', s2, j1, j2, j3, j4⟩ := (HH.out.2.fr hF).at_ hp
   injection k1 with k1 k1b k1c
   subst k1 k1c
   injection j1 with j1 j1b j1c
   subst j1 j1c
   obtain rfl : s = s2 := bytesOf_inj (k3.trans j3.symm)
   clear k1b j1b k3 j3
   have e4 : IntKind.i64.wrap ((k : Int) + 1) = ((k + 1 : Nat) : Int) := by rw [IntWalk.i64_in _ (by omega)]; omega
   have HF := Lib.hid hF
   clear hF hp hm hc hn hm2 hc2
   generalize p.2 = z at *
   go_wp2_with fail
   go_quiet (fail)
   rename_i nq
   go_wp2_with fail
   go_roundg (n - (k + 1) + 1)
   case measure => omega
   case rel => exact ⟨k + 1, by omega, rfl, by simp, HF.out.drewN nq⟩
  ·have e1 : ¬ (k : Int) < (n : Int) := by omega
   have HF := Lib.hid hF
   clear hm hc hF hn hm2 hc2
   go_wp2_with fail
   go_ret
   exact ⟨rfl, HF.out⟩
end
end Go.Proofs.YtmhlnijpimjjaaaGreatDoor
