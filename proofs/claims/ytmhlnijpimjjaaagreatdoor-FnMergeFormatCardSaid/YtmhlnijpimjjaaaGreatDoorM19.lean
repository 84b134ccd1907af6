/- A state with one transition, read. Condition: it was written so. -/
import Derived.Test.YtmhlnijpimjjaaaGreatDoorM18
set_option linter.unusedSimpArgs false
set_option linter.unusedVariables false
namespace Go.Proofs.YtmhlnijpimjjaaaGreatDoor
open Go.RowKit Fmt
theorem wp_named {c : Code} {Q : Exit → Act → World → Prop} {a : Act} {w' : World} (Φ : World → Prop) (h : Φ w') (k : ∀ W, Φ W → Code.wp Tryz.prog c Q a W) : Code.wp Tryz.prog c Q a w' := k _ h
/-- The cells of a state: data, top, bottom, transitions; of the single one: byte, whether the next one, address, output; sizes; final; places of transitions, destinations, outputs, the final output. -/
def scells (g n cap top bot nt sc : Nat) (nx : Bool) (sa so ts os : Nat) (fin : Bool) (tt tb dt db ot ob fo : Nat) : List Value :=
 [.slice (some ⟨g, 0, none⟩) n cap, .int .i64 (top : Int), .int .i64 (bot : Int), .int .i64 (nt : Int), .int .u8 (sc : Int), .bool nx, .int .u64 (sa : Int), .int .u64 (so : Int), .int .i64 (ts : Int), .int .i64 (os : Int), .bool fin, .int .i64 (tt : Int), .int .i64 (tb : Int), .int .i64 (dt : Int), .int .i64 (db : Int), .int .i64 (ot : Int), .int .i64 (ob : Int), .int .i64 (fo : Int)]
theorem other_cell {b g : Nat} (hne : b ≠ g) (W : World) (j k : Nat) (v : Value) : (W.setCell ⟨b, j, none⟩ v).cell? ⟨g, k, none⟩ = W.cell? ⟨g, k, none⟩ := World.cell?_setCell_other W _ _ _ (fun e => hne (congrArg Addr.block e))
set_option maxHeartbeats 2000000 in
set_option maxRecDepth 100000 in
theorem at_next {w : World} {col : Col} {db g n cap addr h i k : Nat} (hb : Blk w db (scells g n cap addr addr 0 0 false 0 0 0 0 false 0 0 0 0 0 0 0) 257) (hT : Tabs w col) (hdb : col db ≠ 0) (hgd : ¬ g = db)
  (hh : w.cell? ⟨g, addr, none⟩ = some (.int .u8 (h : Int))) (hn : addr < n) (h256 : h < 256) (hi : h % 64 = 0 ∧ k + 1 = addr ∧ w.cell? ⟨g, k, none⟩ = some (.int .u8 (i : Int)) ∨ h % 64 ≠ 0 ∧ k = addr ∧ backN (h % 64) = i) (h64 : h / 64 % 2 = 1) (hk : 16 ≤ k) (hm : n < 9223372036854775808) :
  Calls Tryz.prog 142 #[.pointer (some ⟨db, 0, none⟩), .slice (some ⟨g, 0, none⟩) n cap, .int .i64 (addr : Int)] w fun e w' => e = .returned .nilIface ∧ Blk w' db (scells g n cap addr k 1 i true (k - 1) 0 0 0 false 0 0 0 0 0 0 0) 257 ∧ Fr (fun k => k = db) w w' := by
 have ho := other_cell (fun e => hgd e.symm : db ≠ g)
 have e1 := and64_u8 h256
 have e2 := and_u8 h256
 rw [h64] at e1
 have en : (addr : Int) < (n : Int) := by omega
 have r1 := hb.cell 1 rfl
 have z1 := hb.frz 1
 have r2 := hb.cell 2 rfl
 have z2 := hb.frz 2
 have r3 := hb.cell 3 rfl
 have z3 := hb.frz 3
 have r4 := hb.cell 4 rfl
 have z4 := hb.frz 4
 have r5 := hb.cell 5 rfl
 have z5 := hb.frz 5
 have r6 := hb.cell 6 rfl
 have z6 := hb.frz 6
 have r7 := hb.cell 7 rfl
 have z7 := hb.frz 7
 have HH := Lib.hid (And.intro hb hT)
 rcases hi with ⟨h0, rfl, hi⟩ | ⟨h0, rfl, hi⟩
 ·rw [h0] at e2
  have e3 : IntKind.i64.wrap (((k + 1 : Nat) : Int) - 1) = (k : Int) := by rw [IntWalk.i64_in _ (by omega)]; omega
  have e4 : IntKind.i64.wrap ((k : Int) - 1) = ((k - 1 : Nat) : Int) := by rw [IntWalk.i64_in _ (by omega)]; omega
  have e5 : IntKind.u64.wrap ((k - 1 : Nat) : Int) = ((k - 1 : Nat) : Int) := IntWalk.u64_in _ (by omega)
  have en2 : (k : Int) < (n : Int) := by omega
  obtain ⟨q, hq⟩ : ∃ q, Hid (k - 1 = q) := ⟨_, Lib.hid rfl⟩
  obtain ⟨ad, had⟩ : ∃ ad, Hid (k + 1 = ad) := ⟨_, Lib.hid rfl⟩
  rw [hq.out] at e4 e5 ⊢
  rw [had.out] at hh en e3 r1 r2 HH ⊢
  clear hb hT
  go_enter Tryz.func142, Tryz.ntmps142
  go_wp2_with fail
  go_ret
  exact ⟨rfl, ((((((HH.out.1.set 3 _).set 5 _).set 4 _).set 2 _).set 4 _).set 6 _).set 7 _, (((((((Fr.refl (fun k => k = db) w).put1 3 _).put1 5 _).put1 4 _).put1 2 _).put1 4 _).put1 6 _).put1 7 _⟩
 ·obtain ⟨c, hc⟩ : ∃ c, Hid (h % 64 = c) := ⟨_, Lib.hid rfl⟩
  rw [hc.out] at e2 hi h0
  have hc64 : c < 64 := by rw [← hc.out]; omega
  have e4 : IntKind.i64.wrap ((k : Int) - 1) = ((k - 1 : Nat) : Int) := by rw [IntWalk.i64_in _ (by omega)]; omega
  have e5 : IntKind.u64.wrap ((k - 1 : Nat) : Int) = ((k - 1 : Nat) : Int) := IntWalk.u64_in _ (by omega)
  have e6 : ¬ (c : Int) = 0 := by omega
  obtain ⟨q, hq⟩ : ∃ q, Hid (k - 1 = q) := ⟨_, Lib.hid rfl⟩
  rw [hq.out] at e4 e5 ⊢
  have hb3 := ((hb.set 3 (.int .i64 1)).set 5 (.bool true)).set 4 (.int .u8 (c : Int))
  have hF3 := (((Fr.refl (fun k => k = db) w).put1 3 (.int .i64 1)).put1 5 (.bool true)).put1 4 (.int .u8 (c : Int))
  have hdec := decCommon_calls (hT.kp (Kp.of (C := fun d => d ≠ 0) (col := col) hF3 1 (fun k _ e => by rw [e]; exact hdb) (by decide)) (fun e => e rfl)) (by omega : 1 ≤ c) (by omega)
  rw [hi] at hdec
  clear hb3 hF3 hb hT
  go_enter Tryz.func142, Tryz.ntmps142
  go_wp2_with fail
  refine hdec.mono ?_
  rintro e w' ⟨rfl, rfl⟩
  go_wp2_with fail
  go_ret
  exact ⟨rfl, (((((HH.out.1.set 3 _).set 5 _).set 4 _).set 4 _).set 6 _).set 7 _, ((((((Fr.refl (fun k => k = db) w).put1 3 _).put1 5 _).put1 4 _).put1 4 _).put1 6 _).put1 7 _⟩
set_option maxHeartbeats 4000000 in
set_option maxRecDepth 100000 in
theorem at_far {w : World} {col : Col} {db g n cap addr h i k t u start d a o : Nat} {X Y : List Nat} (hb : Blk w db (scells g n cap addr addr 0 0 false 0 0 0 0 false 0 0 0 0 0 0 0) 257) (hT : Tabs w col) (hdb : col db ≠ 0) (hgd : ¬ g = db)
  (hh : w.cell? ⟨g, addr, none⟩ = some (.int .u8 (h : Int))) (hn : addr < n) (h256 : h < 256) (hi : h % 64 = 0 ∧ k + 1 = addr ∧ w.cell? ⟨g, k, none⟩ = some (.int .u8 (i : Int)) ∨ h % 64 ≠ 0 ∧ k = addr ∧ backN (h % 64) = i) (h64 : h / 64 % 2 = 0)
  (ht : t ≤ 8) (hu : u ≤ 8) (hst : start + u + t + 1 = k) (h16 : 16 ≤ start) (hx : w.cell? ⟨g, start + u + t, none⟩ = some (.int .u8 ((t * 16 + u : Nat) : Int))) (hX : Byts w g (start + u) X) (hXl : X.length = t) (hXb : ∀ x, x ∈ X → x < 256) (hXd : unp X = d) (hY : Byts w g start Y) (hYl : Y.length = u) (hYb : ∀ x, x ∈ Y → x < 256) (hYo : unp Y = o) (hda : d = 0 ∧ a = 0 ∨ d ≠ 0 ∧ d + a = start) (hnc : n ≤ cap) (hm : n < 9223372036854775808) :
  Calls Tryz.prog 142 #[.pointer (some ⟨db, 0, none⟩), .slice (some ⟨g, 0, none⟩) n cap, .int .i64 (addr : Int)] w fun e w' => e = .returned .nilIface ∧ Blk w' db (scells g n cap addr start 1 i false a o t u false 0 0 0 0 0 0 0) 257 ∧ Fr (fun k => k = db) w w' := by
 have ho := other_cell (fun e => hgd e.symm : db ≠ g)
 have e1 := and64_u8 h256
 have e2 := and_u8 h256
 rw [h64] at e1
 have hkn : k ≤ addr := by omega
 have en : (addr : Int) < (n : Int) := by omega
 obtain ⟨x, hxn⟩ : ∃ x, Hid (t * 16 + u = x) := ⟨_, Lib.hid rfl⟩
 have hsz := fun w => sizes_calls w ht hu
 simp only [hxn.out] at hsz
 rw [hxn.out] at hx
 obtain ⟨p, hp⟩ : ∃ p, Hid (start + u = p) := ⟨_, Lib.hid rfl⟩
 obtain ⟨m, hmm⟩ : ∃ m, Hid (p + t = m) := ⟨_, Lib.hid rfl⟩
 rw [hp.out, hmm.out] at hx
 rw [hp.out] at hX
 have hpm : start + u = p ∧ p + t = m ∧ m + 1 = k := ⟨hp.out, hmm.out, by rw [← hmm.out, ← hp.out]; omega⟩
 have f1 : IntKind.i64.wrap ((k : Int) - 1) = (m : Int) := by rw [IntWalk.i64_in _ (by omega)]; omega
 have f2 : (m : Int) < (n : Int) := by omega
 have f3 : IntKind.i64.wrap ((m : Int) - (t : Int)) = (p : Int) := by rw [IntWalk.i64_in _ (by omega)]; omega
 have f4 : IntKind.i64.wrap ((p : Int) + (t : Int)) = (m : Int) := by rw [IntWalk.i64_in _ (by omega)]; omega
 have f5 : (p : Int) ≤ (m : Int) := by omega
 have f6 : (m : Int) ≤ (cap : Int) := by omega
 have f7 : ¬ cap = p := by omega
 have f8 : m - p = t := by omega
 have f9 : IntKind.i64.wrap ((p : Int) - (u : Int)) = (start : Int) := by rw [IntWalk.i64_in _ (by omega)]; omega
 have f10 : IntKind.i64.wrap ((start : Int) + (u : Int)) = (p : Int) := by rw [IntWalk.i64_in _ (by omega)]; omega
 have f11 : (start : Int) ≤ (p : Int) := by omega
 have f12 : (p : Int) ≤ (cap : Int) := by omega
 have f13 : ¬ cap = start := by omega
 have f14 : p - start = u := by omega
 have f15 : IntKind.u64.wrap (start : Int) = (start : Int) := IntWalk.u64_in _ (by omega)
 have f16 : d ≠ 0 → IntKind.u64.wrap ((start : Int) - (d : Int)) = (a : Int) := fun hd => by
  have : d + a = start := by omega
  rw [IntWalk.u64_in _ (by omega)]; omega
 have hps : u = 0 → p = start := fun hu0 => by omega
 have ho0 : u = 0 → o = 0 := fun hu0 => by rw [← hYo, List.length_eq_zero_iff.1 (by omega : Y.length = 0)]; rfl
 have HZ := Lib.hid (And.intro f16 (And.intro hps (And.intro ho0 (And.intro hda (And.intro ht hu)))))
 have HX := Lib.hid (And.intro hX (And.intro hXl (And.intro hXb hXd)))
 have HY := Lib.hid (And.intro hY (And.intro hYl (And.intro hYb hYo)))
 have H0 := Lib.hid (And.intro hb (Fr.refl (fun k => k = db) w))
 have r1 := hb.cell 1 rfl
 have z1 := hb.frz 1
 have r2 := hb.cell 2 rfl
 have z2 := hb.frz 2
 have r3 := hb.cell 3 rfl
 have z3 := hb.frz 3
 have r4 := hb.cell 4 rfl
 have z4 := hb.frz 4
 have r5 := hb.cell 5 rfl
 have z5 := hb.frz 5
 have r6 := hb.cell 6 rfl
 have z6 := hb.frz 6
 have r7 := hb.cell 7 rfl
 have z7 := hb.frz 7
 have r8 := hb.cell 8 rfl
 have z8 := hb.frz 8
 have r9 := hb.cell 9 rfl
 have z9 := hb.frz 9
 have HH := Lib.hid hT
 have H16 := Lib.hid h16
 clear hst hX hY hXl hXb hXd hYl hYb hYo hda hpm f16 hps ho0 h16 ht hu
 rcases hi with ⟨h0, hka, hi⟩ | ⟨h0, rfl, hi⟩
 ·rw [h0] at e2
  have e3 : IntKind.i64.wrap ((addr : Int) - 1) = (k : Int) := by rw [IntWalk.i64_in _ (by omega)]; omega
  have en2 : (k : Int) < (n : Int) := by omega
  have q2 := ((((((hb.set 3 (.int .i64 1)).set 5 (.bool false)).set 4 (.int .u8 0)).set 2 (.int .i64 (k : Int))).set 4 (.int .u8 (i : Int))).set 2 (.int .i64 (m : Int))).cell 2 rfl
  clear hb hT h0 hka
  go_enter Tryz.func142, Tryz.ntmps142
  go_wp2_with fail
  refine (hsz _).mono ?_
  rintro e w' ⟨rfl, rfl⟩
  go_wp2_with fail
  clear q2
  clear r1 z1 r2 z2 r3 z3 r4 z4 r5 z5 r6 z6 r7 z7 r8 z8 r9 z9
  refine wp_named (fun X => Blk X db (scells g n cap addr m 1 i false 0 0 t u false 0 0 0 0 0 0 0) 257 ∧ Fr (fun k => k = db) w X) ⟨((((((((H0.out.1.set 3 _).set 5 _).set 4 _).set 2 _).set 4 _).set 2 _).set 8 _).set 9 _), ((((((((H0.out.2.put1 3 _).put1 5 _).put1 4 _).put1 2 _).put1 4 _).put1 2 _).put1 8 _).put1 9 _)⟩ ?_
  rintro w1 ⟨hb1, hF1⟩
  have r1_2 := hb1.cell 2 rfl
  have r1_8 := hb1.cell 8 rfl
  have z1_2 := hb1.frz 2
  have H1 := Lib.hid (And.intro hb1 hF1)
  clear hb1 hF1
  refine wp_region_seqV (fun W => W.cell? ⟨db, 2, none⟩ = some (.int .i64 ((m : Nat) : Int)) ∧ W.cell? ⟨db, 8, none⟩ = some (.int .i64 ((t : Nat) : Int))) (fun i => decide (i ≠ 11)) (fun i => ![3, 7].contains i && decide (i ≠ 11)) (fun i => decide (i = 11)) [0, 1, 2, 3, 4, 5, 6, 7, 8, 9, 10, 11] (by kernel_rfl) (by kernel_rfl) (fun c a d v w h => by cases d <;> exact h) ⟨r1_2, r1_8⟩ ?_
  iterate 3 (apply seqV_pure (ho := rfl) (hr := rfl) (hg := rfl); (intro w'; go_simp; rfl))
  (apply seqV_read (ho := rfl) (hr := rfl) (hp := rfl) (hg := rfl); (rintro w' ⟨q0, q1⟩; go_simp; rfl))
  go_simp
  iterate 3 (apply seqV_pure (ho := rfl) (hr := rfl) (hg := rfl); (intro w'; go_simp; rfl))
  (apply seqV_read (ho := rfl) (hr := rfl) (hp := rfl) (hg := rfl); (rintro w' ⟨q0, q1⟩; go_simp; rfl))
  go_simp
  iterate 3 (apply seqV_pure (ho := rfl) (hr := rfl) (hg := rfl); (intro w'; go_simp; rfl))
  refine seqV_do rfl rfl fun K hK => ?_
  go_simp
  refine hK _ _ (fun h => by cases h) ?_
  clear hK K
  unfold seqV
  go_simp
  go_wp2_with fail
  refine wp_named (fun X => Blk X db (scells g n cap addr p 1 i false 0 0 t u false 0 0 0 0 0 0 0) 257 ∧ Fr (fun k => k = db) w X) ⟨((Blk.drew H1.out.1).set 2 _), (H1.out.2.drew.put1 2 _)⟩ ?_
  rintro w2 ⟨hb2, hF2⟩
  have r2_2 := hb2.cell 2 rfl
  have r2_8 := hb2.cell 8 rfl
  have r2_6 := hb2.cell 6 rfl
  have r2_9 := hb2.cell 9 rfl
  have z2_6 := hb2.frz 6
  have H2 := Lib.hid (And.intro hb2 hF2)
  clear hb2 hF2
  have hup := upack_calls (n := t) (c := cap - p) ((HX.out.1.fr H2.out.2 hgd).drew) HX.out.2.1 HX.out.2.2.1 (by have := HZ.out.2.2.2.2; omega)
  rw [HX.out.2.2.2] at hup
  refine wp_region_seqV (fun W => W.cell? ⟨db, 2, none⟩ = some (.int .i64 ((p : Nat) : Int)) ∧ W.cell? ⟨db, 8, none⟩ = some (.int .i64 ((t : Nat) : Int))) (fun i => decide (i ≠ 16 ∧ i ≠ 19)) (fun i => ![5, 9, 13].contains i && decide (i ≠ 16 ∧ i ≠ 19)) (fun i => decide (i = 19)) [0, 1, 2, 3, 4, 5, 6, 7, 8, 9, 10, 11, 12, 13, 14, 15, 16, 17, 18, 19] (by kernel_rfl) (by kernel_rfl) (fun c a d v w h => by cases d <;> exact h) ⟨r2_2, r2_8⟩ ?_
  iterate 3 (apply seqV_pure (ho := rfl) (hr := rfl) (hg := rfl); (intro w'; go_simp; rfl))
  go_simp
  iterate 2 (apply seqV_pure (ho := rfl) (hr := rfl) (hg := rfl); (intro w'; go_simp; rfl))
  (apply seqV_read (ho := rfl) (hr := rfl) (hp := rfl) (hg := rfl); (rintro w' ⟨q0, q1⟩; go_simp; rfl))
  go_simp
  iterate 3 (apply seqV_pure (ho := rfl) (hr := rfl) (hg := rfl); (intro w'; go_simp; rfl))
  (apply seqV_read (ho := rfl) (hr := rfl) (hp := rfl) (hg := rfl); (rintro w' ⟨q0, q1⟩; go_simp; rfl))
  go_simp
  iterate 3 (apply seqV_pure (ho := rfl) (hr := rfl) (hg := rfl); (intro w'; go_simp; rfl))
  (apply seqV_read (ho := rfl) (hr := rfl) (hp := rfl) (hg := rfl); (rintro w' ⟨q0, q1⟩; go_simp; rfl))
  go_simp
  iterate 2 (apply seqV_pure (ho := rfl) (hr := rfl) (hg := rfl); (intro w'; go_simp; rfl))
  refine seqV_do rfl rfl fun K hK => ?_
  go_simp
  refine hup.mono ?_
  rintro e w' ⟨rfl, rfl⟩
  refine hK _ _ (fun _ => ⟨r2_2, r2_8⟩) ?_
  clear hK K
  go_simp
  iterate 2 (apply seqV_pure (ho := rfl) (hr := rfl) (hg := rfl); (intro w'; go_simp; rfl))
  refine seqV_do rfl rfl fun K hK => ?_
  go_simp
  refine hK _ _ (fun h => by cases h) ?_
  clear hK K
  unfold seqV
  go_simp
  clear hup
  rcases Nat.eq_zero_or_pos u with hu0 | hu0
  ·have eu : ¬ (0 : Int) < (u : Int) := by omega
   obtain rfl := HZ.out.2.1 hu0
   obtain rfl := HZ.out.2.2.1 hu0
   have z7 := H2.out.1.frz 7
   have r7 := H2.out.1.cell 7 rfl
   clear hu0
   rcases HZ.out.2.2.2.1 with ⟨hd, ha⟩ | ⟨hd, ha⟩
   ·subst hd
    subst ha
    go_wp2_with fail
    go_ret
    first
    | exact ⟨rfl, (((Blk.drew H2.out.1).set 6 _).set 7 _), ((H2.out.2.drew.put1 6 _).put1 7 _)⟩
    | exact ⟨rfl, Blk.drew ((H2.out.1.set 6 _).set 7 _), Fr.drew ((H2.out.2.put1 6 _).put1 7 _)⟩
   ·have ed : ¬ (d : Int) = 0 := by omega
    have eda := HZ.out.1 hd
    go_wp2_with fail
    refine wp_named (fun X => Blk X db (scells g n cap addr p 1 i false d 0 t u false 0 0 0 0 0 0 0) 257 ∧ Fr (fun k => k = db) w X) ⟨(((Blk.drew H2.out.1).set 6 _).set 7 _), ((H2.out.2.drew.put1 6 _).put1 7 _)⟩ ?_
    rintro w3 ⟨hb3, hF3⟩
    have r3_2 := hb3.cell 2 rfl
    have r3_6 := hb3.cell 6 rfl
    have z3_6 := hb3.frz 6
    have H3 := Lib.hid (And.intro hb3 hF3)
    clear hb3 hF3
    refine wp_region_seqV (fun W => W.cell? ⟨db, 2, none⟩ = some (.int .i64 ((p : Nat) : Int)) ∧ W.cell? ⟨db, 6, none⟩ = some (.int .u64 ((d : Nat) : Int))) (fun i => decide (i ≠ 13)) (fun i => ![4, 9].contains i && decide (i ≠ 13)) (fun i => decide (i = 13)) [0, 1, 2, 3, 4, 5, 6, 7, 8, 9, 10, 11, 12, 13] (by kernel_rfl) (by kernel_rfl) (fun c a d v w h => by cases d <;> exact h) ⟨r3_2, r3_6⟩ ?_
    iterate 3 (apply seqV_pure (ho := rfl) (hr := rfl) (hg := rfl); (intro w'; go_simp; rfl))
    go_simp
    iterate 1 (apply seqV_pure (ho := rfl) (hr := rfl) (hg := rfl); (intro w'; go_simp; rfl))
    (apply seqV_read (ho := rfl) (hr := rfl) (hp := rfl) (hg := rfl); (rintro w' ⟨q0, q1⟩; go_simp; rfl))
    go_simp
    iterate 3 (apply seqV_pure (ho := rfl) (hr := rfl) (hg := rfl); (intro w'; go_simp; rfl))
    go_simp
    iterate 1 (apply seqV_pure (ho := rfl) (hr := rfl) (hg := rfl); (intro w'; go_simp; rfl))
    (apply seqV_read (ho := rfl) (hr := rfl) (hp := rfl) (hg := rfl); (rintro w' ⟨q0, q1⟩; go_simp; rfl))
    go_simp
    iterate 3 (apply seqV_pure (ho := rfl) (hr := rfl) (hg := rfl); (intro w'; go_simp; rfl))
    refine seqV_do rfl rfl fun K hK => ?_
    go_simp
    refine hK _ _ (fun h => by cases h) ?_
    clear hK K
    unfold seqV
    go_simp
    go_wp2_with fail
    go_ret
    exact ⟨rfl, (Blk.drew H3.out.1).set 6 _, H3.out.2.drew.put1 6 _⟩
  ·have eu : (0 : Int) < (u : Int) := by omega
   go_wp2_with fail
   refine wp_named (fun X => Blk X db (scells g n cap addr p 1 i false d 0 t u false 0 0 0 0 0 0 0) 257 ∧ Fr (fun k => k = db) w X) ⟨((Blk.drew H2.out.1).set 6 _), (H2.out.2.drew.put1 6 _)⟩ ?_
   rintro w3 ⟨hb3, hF3⟩
   have r3_2 := hb3.cell 2 rfl
   have r3_9 := hb3.cell 9 rfl
   have z3_2 := hb3.frz 2
   have H3 := Lib.hid (And.intro hb3 hF3)
   clear hb3 hF3
   refine wp_region_seqV (fun W => W.cell? ⟨db, 2, none⟩ = some (.int .i64 ((p : Nat) : Int)) ∧ W.cell? ⟨db, 9, none⟩ = some (.int .i64 ((u : Nat) : Int))) (fun i => decide (i ≠ 11)) (fun i => ![3, 7].contains i && decide (i ≠ 11)) (fun i => decide (i = 11)) [0, 1, 2, 3, 4, 5, 6, 7, 8, 9, 10, 11] (by kernel_rfl) (by kernel_rfl) (fun c a d v w h => by cases d <;> exact h) ⟨r3_2, r3_9⟩ ?_
   iterate 3 (apply seqV_pure (ho := rfl) (hr := rfl) (hg := rfl); (intro w'; go_simp; rfl))
   (apply seqV_read (ho := rfl) (hr := rfl) (hp := rfl) (hg := rfl); (rintro w' ⟨q0, q1⟩; go_simp; rfl))
   go_simp
   iterate 3 (apply seqV_pure (ho := rfl) (hr := rfl) (hg := rfl); (intro w'; go_simp; rfl))
   (apply seqV_read (ho := rfl) (hr := rfl) (hp := rfl) (hg := rfl); (rintro w' ⟨q0, q1⟩; go_simp; rfl))
   go_simp
   iterate 3 (apply seqV_pure (ho := rfl) (hr := rfl) (hg := rfl); (intro w'; go_simp; rfl))
   refine seqV_do rfl rfl fun K hK => ?_
   go_simp
   refine hK _ _ (fun h => by cases h) ?_
   clear hK K
   unfold seqV
   go_simp
   go_wp2_with fail
   refine wp_named (fun X => Blk X db (scells g n cap addr start 1 i false d 0 t u false 0 0 0 0 0 0 0) 257 ∧ Fr (fun k => k = db) w X) ⟨((Blk.drew H3.out.1).set 2 _), (H3.out.2.drew.put1 2 _)⟩ ?_
   rintro w4 ⟨hb4, hF4⟩
   have r4_2 := hb4.cell 2 rfl
   have r4_9 := hb4.cell 9 rfl
   have r4_7 := hb4.cell 7 rfl
   have r4_6 := hb4.cell 6 rfl
   have z4_7 := hb4.frz 7
   have H4 := Lib.hid (And.intro hb4 hF4)
   clear hb4 hF4
   have hup := upack_calls (n := u) (c := cap - start) ((HY.out.1.fr H4.out.2 hgd).drew) HY.out.2.1 HY.out.2.2.1 (by have := HZ.out.2.2.2.2; omega)
   rw [HY.out.2.2.2] at hup
   refine wp_region_seqV (fun W => W.cell? ⟨db, 2, none⟩ = some (.int .i64 ((start : Nat) : Int)) ∧ W.cell? ⟨db, 9, none⟩ = some (.int .i64 ((u : Nat) : Int))) (fun i => decide (i ≠ 16 ∧ i ≠ 19)) (fun i => ![5, 9, 13].contains i && decide (i ≠ 16 ∧ i ≠ 19)) (fun i => decide (i = 19)) [0, 1, 2, 3, 4, 5, 6, 7, 8, 9, 10, 11, 12, 13, 14, 15, 16, 17, 18, 19] (by kernel_rfl) (by kernel_rfl) (fun c a d v w h => by cases d <;> exact h) ⟨r4_2, r4_9⟩ ?_
   iterate 3 (apply seqV_pure (ho := rfl) (hr := rfl) (hg := rfl); (intro w'; go_simp; rfl))
   go_simp
   iterate 2 (apply seqV_pure (ho := rfl) (hr := rfl) (hg := rfl); (intro w'; go_simp; rfl))
   (apply seqV_read (ho := rfl) (hr := rfl) (hp := rfl) (hg := rfl); (rintro w' ⟨q0, q1⟩; go_simp; rfl))
   go_simp
   iterate 3 (apply seqV_pure (ho := rfl) (hr := rfl) (hg := rfl); (intro w'; go_simp; rfl))
   (apply seqV_read (ho := rfl) (hr := rfl) (hp := rfl) (hg := rfl); (rintro w' ⟨q0, q1⟩; go_simp; rfl))
   go_simp
   iterate 3 (apply seqV_pure (ho := rfl) (hr := rfl) (hg := rfl); (intro w'; go_simp; rfl))
   (apply seqV_read (ho := rfl) (hr := rfl) (hp := rfl) (hg := rfl); (rintro w' ⟨q0, q1⟩; go_simp; rfl))
   go_simp
   iterate 2 (apply seqV_pure (ho := rfl) (hr := rfl) (hg := rfl); (intro w'; go_simp; rfl))
   refine seqV_do rfl rfl fun K hK => ?_
   go_simp
   refine hup.mono ?_
   rintro e w' ⟨rfl, rfl⟩
   refine hK _ _ (fun _ => ⟨r4_2, r4_9⟩) ?_
   clear hK K
   go_simp
   iterate 2 (apply seqV_pure (ho := rfl) (hr := rfl) (hg := rfl); (intro w'; go_simp; rfl))
   refine seqV_do rfl rfl fun K hK => ?_
   go_simp
   refine hK _ _ (fun h => by cases h) ?_
   clear hK K
   unfold seqV
   go_simp
   clear hup
   rcases HZ.out.2.2.2.1 with ⟨hd, ha⟩ | ⟨hd, ha⟩
   ·subst hd
    subst ha
    go_wp2_with fail
    go_ret
    first
    | exact ⟨rfl, ((Blk.drew H4.out.1).set 7 _), (H4.out.2.drew.put1 7 _)⟩
    | exact ⟨rfl, Blk.drew (H4.out.1.set 7 _), Fr.drew (H4.out.2.put1 7 _)⟩
   ·have ed : ¬ (d : Int) = 0 := by omega
    have eda := HZ.out.1 hd
    go_wp2_with fail
    refine wp_named (fun X => Blk X db (scells g n cap addr start 1 i false d o t u false 0 0 0 0 0 0 0) 257 ∧ Fr (fun k => k = db) w X) ⟨((Blk.drew H4.out.1).set 7 _), (H4.out.2.drew.put1 7 _)⟩ ?_
    rintro w5 ⟨hb5, hF5⟩
    have r5_2 := hb5.cell 2 rfl
    have r5_6 := hb5.cell 6 rfl
    have z5_6 := hb5.frz 6
    have H5 := Lib.hid (And.intro hb5 hF5)
    clear hb5 hF5
    refine wp_region_seqV (fun W => W.cell? ⟨db, 2, none⟩ = some (.int .i64 ((start : Nat) : Int)) ∧ W.cell? ⟨db, 6, none⟩ = some (.int .u64 ((d : Nat) : Int))) (fun i => decide (i ≠ 13)) (fun i => ![4, 9].contains i && decide (i ≠ 13)) (fun i => decide (i = 13)) [0, 1, 2, 3, 4, 5, 6, 7, 8, 9, 10, 11, 12, 13] (by kernel_rfl) (by kernel_rfl) (fun c a d v w h => by cases d <;> exact h) ⟨r5_2, r5_6⟩ ?_
    iterate 3 (apply seqV_pure (ho := rfl) (hr := rfl) (hg := rfl); (intro w'; go_simp; rfl))
    go_simp
    iterate 1 (apply seqV_pure (ho := rfl) (hr := rfl) (hg := rfl); (intro w'; go_simp; rfl))
    (apply seqV_read (ho := rfl) (hr := rfl) (hp := rfl) (hg := rfl); (rintro w' ⟨q0, q1⟩; go_simp; rfl))
    go_simp
    iterate 3 (apply seqV_pure (ho := rfl) (hr := rfl) (hg := rfl); (intro w'; go_simp; rfl))
    go_simp
    iterate 1 (apply seqV_pure (ho := rfl) (hr := rfl) (hg := rfl); (intro w'; go_simp; rfl))
    (apply seqV_read (ho := rfl) (hr := rfl) (hp := rfl) (hg := rfl); (rintro w' ⟨q0, q1⟩; go_simp; rfl))
    go_simp
    iterate 3 (apply seqV_pure (ho := rfl) (hr := rfl) (hg := rfl); (intro w'; go_simp; rfl))
    refine seqV_do rfl rfl fun K hK => ?_
    go_simp
    refine hK _ _ (fun h => by cases h) ?_
    clear hK K
    unfold seqV
    go_simp
    go_wp2_with fail
    go_ret
    exact ⟨rfl, (Blk.drew H5.out.1).set 6 _, H5.out.2.drew.put1 6 _⟩
 ·obtain ⟨c, hc⟩ : ∃ c, Hid (h % 64 = c) := ⟨_, Lib.hid rfl⟩
  rw [hc.out] at e2 hi h0
  have hc64 : c < 64 := by rw [← hc.out]; omega
  have e6 : ¬ (c : Int) = 0 := by omega
  have hb3 := ((hb.set 3 (.int .i64 1)).set 5 (.bool false)).set 4 (.int .u8 (c : Int))
  have hF3 := (((Fr.refl (fun k => k = db) w).put1 3 (.int .i64 1)).put1 5 (.bool false)).put1 4 (.int .u8 (c : Int))
  have hdec := decCommon_calls (hT.kp (Kp.of (C := fun d => d ≠ 0) (col := col) hF3 1 (fun k _ e => by rw [e]; exact hdb) (by decide)) (fun e => e rfl)) (by omega : 1 ≤ c) (by omega)
  rw [hi] at hdec
  clear hb3 hF3 hb hT
  go_enter Tryz.func142, Tryz.ntmps142
  go_wp2_with fail
  refine hdec.mono ?_
  rintro e w' ⟨rfl, rfl⟩
  clear hdec
  go_wp2_with fail
  refine (hsz _).mono ?_
  rintro e w' ⟨rfl, rfl⟩
  go_wp2_with fail
  clear r1 z1 r2 z2 r3 z3 r4 z4 r5 z5 r6 z6 r7 z7 r8 z8 r9 z9
  refine wp_named (fun X => Blk X db (scells g n cap k m 1 i false 0 0 t u false 0 0 0 0 0 0 0) 257 ∧ Fr (fun k => k = db) w X) ⟨(((((((H0.out.1.set 3 _).set 5 _).set 4 _).set 4 _).set 2 _).set 8 _).set 9 _), (((((((H0.out.2.put1 3 _).put1 5 _).put1 4 _).put1 4 _).put1 2 _).put1 8 _).put1 9 _)⟩ ?_
  rintro w1 ⟨hb1, hF1⟩
  have r1_2 := hb1.cell 2 rfl
  have r1_8 := hb1.cell 8 rfl
  have z1_2 := hb1.frz 2
  have H1 := Lib.hid (And.intro hb1 hF1)
  clear hb1 hF1
  refine wp_region_seqV (fun W => W.cell? ⟨db, 2, none⟩ = some (.int .i64 ((m : Nat) : Int)) ∧ W.cell? ⟨db, 8, none⟩ = some (.int .i64 ((t : Nat) : Int))) (fun i => decide (i ≠ 11)) (fun i => ![3, 7].contains i && decide (i ≠ 11)) (fun i => decide (i = 11)) [0, 1, 2, 3, 4, 5, 6, 7, 8, 9, 10, 11] (by kernel_rfl) (by kernel_rfl) (fun c a d v w h => by cases d <;> exact h) ⟨r1_2, r1_8⟩ ?_
  iterate 3 (apply seqV_pure (ho := rfl) (hr := rfl) (hg := rfl); (intro w'; go_simp; rfl))
  (apply seqV_read (ho := rfl) (hr := rfl) (hp := rfl) (hg := rfl); (rintro w' ⟨q0, q1⟩; go_simp; rfl))
  go_simp
  iterate 3 (apply seqV_pure (ho := rfl) (hr := rfl) (hg := rfl); (intro w'; go_simp; rfl))
  (apply seqV_read (ho := rfl) (hr := rfl) (hp := rfl) (hg := rfl); (rintro w' ⟨q0, q1⟩; go_simp; rfl))
  go_simp
  iterate 3 (apply seqV_pure (ho := rfl) (hr := rfl) (hg := rfl); (intro w'; go_simp; rfl))
  refine seqV_do rfl rfl fun K hK => ?_
  go_simp
  refine hK _ _ (fun h => by cases h) ?_
  clear hK K
  unfold seqV
  go_simp
  go_wp2_with fail
  refine wp_named (fun X => Blk X db (scells g n cap k p 1 i false 0 0 t u false 0 0 0 0 0 0 0) 257 ∧ Fr (fun k => k = db) w X) ⟨((Blk.drew H1.out.1).set 2 _), (H1.out.2.drew.put1 2 _)⟩ ?_
  rintro w2 ⟨hb2, hF2⟩
  have r2_2 := hb2.cell 2 rfl
  have r2_8 := hb2.cell 8 rfl
  have r2_6 := hb2.cell 6 rfl
  have r2_9 := hb2.cell 9 rfl
  have z2_6 := hb2.frz 6
  have H2 := Lib.hid (And.intro hb2 hF2)
  clear hb2 hF2
  have hup := upack_calls (n := t) (c := cap - p) ((HX.out.1.fr H2.out.2 hgd).drew) HX.out.2.1 HX.out.2.2.1 (by have := HZ.out.2.2.2.2; omega)
  rw [HX.out.2.2.2] at hup
  refine wp_region_seqV (fun W => W.cell? ⟨db, 2, none⟩ = some (.int .i64 ((p : Nat) : Int)) ∧ W.cell? ⟨db, 8, none⟩ = some (.int .i64 ((t : Nat) : Int))) (fun i => decide (i ≠ 16 ∧ i ≠ 19)) (fun i => ![5, 9, 13].contains i && decide (i ≠ 16 ∧ i ≠ 19)) (fun i => decide (i = 19)) [0, 1, 2, 3, 4, 5, 6, 7, 8, 9, 10, 11, 12, 13, 14, 15, 16, 17, 18, 19] (by kernel_rfl) (by kernel_rfl) (fun c a d v w h => by cases d <;> exact h) ⟨r2_2, r2_8⟩ ?_
  iterate 3 (apply seqV_pure (ho := rfl) (hr := rfl) (hg := rfl); (intro w'; go_simp; rfl))
  go_simp
  iterate 2 (apply seqV_pure (ho := rfl) (hr := rfl) (hg := rfl); (intro w'; go_simp; rfl))
  (apply seqV_read (ho := rfl) (hr := rfl) (hp := rfl) (hg := rfl); (rintro w' ⟨q0, q1⟩; go_simp; rfl))
  go_simp
  iterate 3 (apply seqV_pure (ho := rfl) (hr := rfl) (hg := rfl); (intro w'; go_simp; rfl))
  (apply seqV_read (ho := rfl) (hr := rfl) (hp := rfl) (hg := rfl); (rintro w' ⟨q0, q1⟩; go_simp; rfl))
  go_simp
  iterate 3 (apply seqV_pure (ho := rfl) (hr := rfl) (hg := rfl); (intro w'; go_simp; rfl))
  (apply seqV_read (ho := rfl) (hr := rfl) (hp := rfl) (hg := rfl); (rintro w' ⟨q0, q1⟩; go_simp; rfl))
  go_simp
  iterate 2 (apply seqV_pure (ho := rfl) (hr := rfl) (hg := rfl); (intro w'; go_simp; rfl))
  refine seqV_do rfl rfl fun K hK => ?_
  go_simp
  refine hup.mono ?_
  rintro e w' ⟨rfl, rfl⟩
  refine hK _ _ (fun _ => ⟨r2_2, r2_8⟩) ?_
  clear hK K
  go_simp
  iterate 2 (apply seqV_pure (ho := rfl) (hr := rfl) (hg := rfl); (intro w'; go_simp; rfl))
  refine seqV_do rfl rfl fun K hK => ?_
  go_simp
  refine hK _ _ (fun h => by cases h) ?_
  clear hK K
  unfold seqV
  go_simp
  clear hup
  rcases Nat.eq_zero_or_pos u with hu0 | hu0
  ·have eu : ¬ (0 : Int) < (u : Int) := by omega
   obtain rfl := HZ.out.2.1 hu0
   obtain rfl := HZ.out.2.2.1 hu0
   have z7 := H2.out.1.frz 7
   have r7 := H2.out.1.cell 7 rfl
   clear hu0
   rcases HZ.out.2.2.2.1 with ⟨hd, ha⟩ | ⟨hd, ha⟩
   ·subst hd
    subst ha
    go_wp2_with fail
    go_ret
    first
    | exact ⟨rfl, (((Blk.drew H2.out.1).set 6 _).set 7 _), ((H2.out.2.drew.put1 6 _).put1 7 _)⟩
    | exact ⟨rfl, Blk.drew ((H2.out.1.set 6 _).set 7 _), Fr.drew ((H2.out.2.put1 6 _).put1 7 _)⟩
   ·have ed : ¬ (d : Int) = 0 := by omega
    have eda := HZ.out.1 hd
    go_wp2_with fail
    refine wp_named (fun X => Blk X db (scells g n cap k p 1 i false d 0 t u false 0 0 0 0 0 0 0) 257 ∧ Fr (fun k => k = db) w X) ⟨(((Blk.drew H2.out.1).set 6 _).set 7 _), ((H2.out.2.drew.put1 6 _).put1 7 _)⟩ ?_
    rintro w3 ⟨hb3, hF3⟩
    have r3_2 := hb3.cell 2 rfl
    have r3_6 := hb3.cell 6 rfl
    have z3_6 := hb3.frz 6
    have H3 := Lib.hid (And.intro hb3 hF3)
    clear hb3 hF3
    refine wp_region_seqV (fun W => W.cell? ⟨db, 2, none⟩ = some (.int .i64 ((p : Nat) : Int)) ∧ W.cell? ⟨db, 6, none⟩ = some (.int .u64 ((d : Nat) : Int))) (fun i => decide (i ≠ 13)) (fun i => ![4, 9].contains i && decide (i ≠ 13)) (fun i => decide (i = 13)) [0, 1, 2, 3, 4, 5, 6, 7, 8, 9, 10, 11, 12, 13] (by kernel_rfl) (by kernel_rfl) (fun c a d v w h => by cases d <;> exact h) ⟨r3_2, r3_6⟩ ?_
    iterate 3 (apply seqV_pure (ho := rfl) (hr := rfl) (hg := rfl); (intro w'; go_simp; rfl))
    go_simp
    iterate 1 (apply seqV_pure (ho := rfl) (hr := rfl) (hg := rfl); (intro w'; go_simp; rfl))
    (apply seqV_read (ho := rfl) (hr := rfl) (hp := rfl) (hg := rfl); (rintro w' ⟨q0, q1⟩; go_simp; rfl))
    go_simp
    iterate 3 (apply seqV_pure (ho := rfl) (hr := rfl) (hg := rfl); (intro w'; go_simp; rfl))
    go_simp
    iterate 1 (apply seqV_pure (ho := rfl) (hr := rfl) (hg := rfl); (intro w'; go_simp; rfl))
    (apply seqV_read (ho := rfl) (hr := rfl) (hp := rfl) (hg := rfl); (rintro w' ⟨q0, q1⟩; go_simp; rfl))
    go_simp
    iterate 3 (apply seqV_pure (ho := rfl) (hr := rfl) (hg := rfl); (intro w'; go_simp; rfl))
    refine seqV_do rfl rfl fun K hK => ?_
    go_simp
    refine hK _ _ (fun h => by cases h) ?_
    clear hK K
    unfold seqV
    go_simp
    go_wp2_with fail
    go_ret
    exact ⟨rfl, (Blk.drew H3.out.1).set 6 _, H3.out.2.drew.put1 6 _⟩
  ·have eu : (0 : Int) < (u : Int) := by omega
   go_wp2_with fail
   refine wp_named (fun X => Blk X db (scells g n cap k p 1 i false d 0 t u false 0 0 0 0 0 0 0) 257 ∧ Fr (fun k => k = db) w X) ⟨((Blk.drew H2.out.1).set 6 _), (H2.out.2.drew.put1 6 _)⟩ ?_
   rintro w3 ⟨hb3, hF3⟩
   have r3_2 := hb3.cell 2 rfl
   have r3_9 := hb3.cell 9 rfl
   have z3_2 := hb3.frz 2
   have H3 := Lib.hid (And.intro hb3 hF3)
   clear hb3 hF3
   refine wp_region_seqV (fun W => W.cell? ⟨db, 2, none⟩ = some (.int .i64 ((p : Nat) : Int)) ∧ W.cell? ⟨db, 9, none⟩ = some (.int .i64 ((u : Nat) : Int))) (fun i => decide (i ≠ 11)) (fun i => ![3, 7].contains i && decide (i ≠ 11)) (fun i => decide (i = 11)) [0, 1, 2, 3, 4, 5, 6, 7, 8, 9, 10, 11] (by kernel_rfl) (by kernel_rfl) (fun c a d v w h => by cases d <;> exact h) ⟨r3_2, r3_9⟩ ?_
   iterate 3 (apply seqV_pure (ho := rfl) (hr := rfl) (hg := rfl); (intro w'; go_simp; rfl))
   (apply seqV_read (ho := rfl) (hr := rfl) (hp := rfl) (hg := rfl); (rintro w' ⟨q0, q1⟩; go_simp; rfl))
   go_simp
   iterate 3 (apply seqV_pure (ho := rfl) (hr := rfl) (hg := rfl); (intro w'; go_simp; rfl))
   (apply seqV_read (ho := rfl) (hr := rfl) (hp := rfl) (hg := rfl); (rintro w' ⟨q0, q1⟩; go_simp; rfl))
   go_simp
   iterate 3 (apply seqV_pure (ho := rfl) (hr := rfl) (hg := rfl); (intro w'; go_simp; rfl))
   refine seqV_do rfl rfl fun K hK => ?_
   go_simp
   refine hK _ _ (fun h => by cases h) ?_
   clear hK K
   unfold seqV
   go_simp
   go_wp2_with fail
   refine wp_named (fun X => Blk X db (scells g n cap k start 1 i false d 0 t u false 0 0 0 0 0 0 0) 257 ∧ Fr (fun k => k = db) w X) ⟨((Blk.drew H3.out.1).set 2 _), (H3.out.2.drew.put1 2 _)⟩ ?_
   rintro w4 ⟨hb4, hF4⟩
   have r4_2 := hb4.cell 2 rfl
   have r4_9 := hb4.cell 9 rfl
   have r4_7 := hb4.cell 7 rfl
   have r4_6 := hb4.cell 6 rfl
   have z4_7 := hb4.frz 7
   have H4 := Lib.hid (And.intro hb4 hF4)
   clear hb4 hF4
   have hup := upack_calls (n := u) (c := cap - start) ((HY.out.1.fr H4.out.2 hgd).drew) HY.out.2.1 HY.out.2.2.1 (by have := HZ.out.2.2.2.2; omega)
   rw [HY.out.2.2.2] at hup
   refine wp_region_seqV (fun W => W.cell? ⟨db, 2, none⟩ = some (.int .i64 ((start : Nat) : Int)) ∧ W.cell? ⟨db, 9, none⟩ = some (.int .i64 ((u : Nat) : Int))) (fun i => decide (i ≠ 16 ∧ i ≠ 19)) (fun i => ![5, 9, 13].contains i && decide (i ≠ 16 ∧ i ≠ 19)) (fun i => decide (i = 19)) [0, 1, 2, 3, 4, 5, 6, 7, 8, 9, 10, 11, 12, 13, 14, 15, 16, 17, 18, 19] (by kernel_rfl) (by kernel_rfl) (fun c a d v w h => by cases d <;> exact h) ⟨r4_2, r4_9⟩ ?_
   iterate 3 (apply seqV_pure (ho := rfl) (hr := rfl) (hg := rfl); (intro w'; go_simp; rfl))
   go_simp
   iterate 2 (apply seqV_pure (ho := rfl) (hr := rfl) (hg := rfl); (intro w'; go_simp; rfl))
   (apply seqV_read (ho := rfl) (hr := rfl) (hp := rfl) (hg := rfl); (rintro w' ⟨q0, q1⟩; go_simp; rfl))
   go_simp
   iterate 3 (apply seqV_pure (ho := rfl) (hr := rfl) (hg := rfl); (intro w'; go_simp; rfl))
   (apply seqV_read (ho := rfl) (hr := rfl) (hp := rfl) (hg := rfl); (rintro w' ⟨q0, q1⟩; go_simp; rfl))
   go_simp
   iterate 3 (apply seqV_pure (ho := rfl) (hr := rfl) (hg := rfl); (intro w'; go_simp; rfl))
   (apply seqV_read (ho := rfl) (hr := rfl) (hp := rfl) (hg := rfl); (rintro w' ⟨q0, q1⟩; go_simp; rfl))
   go_simp
   iterate 2 (apply seqV_pure (ho := rfl) (hr := rfl) (hg := rfl); (intro w'; go_simp; rfl))
   refine seqV_do rfl rfl fun K hK => ?_
   go_simp
   refine hup.mono ?_
   rintro e w' ⟨rfl, rfl⟩
   refine hK _ _ (fun _ => ⟨r4_2, r4_9⟩) ?_
   clear hK K
   go_simp
   iterate 2 (apply seqV_pure (ho := rfl) (hr := rfl) (hg := rfl); (intro w'; go_simp; rfl))
   refine seqV_do rfl rfl fun K hK => ?_
   go_simp
   refine hK _ _ (fun h => by cases h) ?_
   clear hK K
   unfold seqV
   go_simp
   clear hup
   rcases HZ.out.2.2.2.1 with ⟨hd, ha⟩ | ⟨hd, ha⟩
   ·subst hd
    subst ha
    go_wp2_with fail
    go_ret
    first
    | exact ⟨rfl, ((Blk.drew H4.out.1).set 7 _), (H4.out.2.drew.put1 7 _)⟩
    | exact ⟨rfl, Blk.drew (H4.out.1.set 7 _), Fr.drew (H4.out.2.put1 7 _)⟩
   ·have ed : ¬ (d : Int) = 0 := by omega
    have eda := HZ.out.1 hd
    go_wp2_with fail
    refine wp_named (fun X => Blk X db (scells g n cap k start 1 i false d o t u false 0 0 0 0 0 0 0) 257 ∧ Fr (fun k => k = db) w X) ⟨((Blk.drew H4.out.1).set 7 _), (H4.out.2.drew.put1 7 _)⟩ ?_
    rintro w5 ⟨hb5, hF5⟩
    have r5_2 := hb5.cell 2 rfl
    have r5_6 := hb5.cell 6 rfl
    have z5_6 := hb5.frz 6
    have H5 := Lib.hid (And.intro hb5 hF5)
    clear hb5 hF5
    refine wp_region_seqV (fun W => W.cell? ⟨db, 2, none⟩ = some (.int .i64 ((start : Nat) : Int)) ∧ W.cell? ⟨db, 6, none⟩ = some (.int .u64 ((d : Nat) : Int))) (fun i => decide (i ≠ 13)) (fun i => ![4, 9].contains i && decide (i ≠ 13)) (fun i => decide (i = 13)) [0, 1, 2, 3, 4, 5, 6, 7, 8, 9, 10, 11, 12, 13] (by kernel_rfl) (by kernel_rfl) (fun c a d v w h => by cases d <;> exact h) ⟨r5_2, r5_6⟩ ?_
    iterate 3 (apply seqV_pure (ho := rfl) (hr := rfl) (hg := rfl); (intro w'; go_simp; rfl))
    go_simp
    iterate 1 (apply seqV_pure (ho := rfl) (hr := rfl) (hg := rfl); (intro w'; go_simp; rfl))
    (apply seqV_read (ho := rfl) (hr := rfl) (hp := rfl) (hg := rfl); (rintro w' ⟨q0, q1⟩; go_simp; rfl))
    go_simp
    iterate 3 (apply seqV_pure (ho := rfl) (hr := rfl) (hg := rfl); (intro w'; go_simp; rfl))
    go_simp
    iterate 1 (apply seqV_pure (ho := rfl) (hr := rfl) (hg := rfl); (intro w'; go_simp; rfl))
    (apply seqV_read (ho := rfl) (hr := rfl) (hp := rfl) (hg := rfl); (rintro w' ⟨q0, q1⟩; go_simp; rfl))
    go_simp
    iterate 3 (apply seqV_pure (ho := rfl) (hr := rfl) (hg := rfl); (intro w'; go_simp; rfl))
    refine seqV_do rfl rfl fun K hK => ?_
    go_simp
    refine hK _ _ (fun h => by cases h) ?_
    clear hK K
    unfold seqV
    go_simp
    go_wp2_with fail
    go_ret
    exact ⟨rfl, (Blk.drew H5.out.1).set 6 _, H5.out.2.drew.put1 6 _⟩
end Go.Proofs.YtmhlnijpimjjaaaGreatDoor
