/- A state is read at an address: at, stateAt. Condition: the data were written by the builder. -/
import Derived.Test.YtmhlnijpimjjaaaGreatDoorM22
import Derived.Test.YtmhlnijpimjjaaaGreatDoorM14
set_option linter.unusedSimpArgs false
set_option linter.unusedVariables false
namespace Go.Proofs.YtmhlnijpimjjaaaGreatDoor
open Go.RowKit Fmt
/-- The cells of a state that was not read yet. -/
def zst : List Value := [.slice none 0 0, .int .i64 0, .int .i64 0, .int .i64 0, .int .u8 0, .bool false, .int .u64 0, .int .u64 0, .int .i64 0, .int .i64 0, .bool false, .int .i64 0, .int .i64 0, .int .i64 0, .int .i64 0, .int .i64 0, .int .i64 0, .int .i64 0]
/-- The reading of one transition. -/
theorem at_one {w : World} {col : Col} {sb g cap addr i o a S : Nat} {D : List Nat} (hb : Blk w sb (scells g D.length cap addr addr 0 0 false 0 0 0 0 false 0 0 0 0 0 0 0) 257) (hT : Tabs w col) (hcol : col sb ≠ 0) (hgs : ¬ g = sb) (hby : Byts w g 0 D) (hc : D.length ≤ cap) (hm : D.length < 9223372036854775808)
  (hlt : ∀ p x, S ≤ p → p ≤ addr → D[p]? = some x → x < 256) (hi : i < 256) (ho : o < 2 ^ 64) (ha : a < S) (hSa : S ≤ addr) (hview : OneAt codesN backN D S addr i o a) :
  Calls Tryz.prog 142 #[.pointer (some ⟨sb, 0, none⟩), .slice (some ⟨g, 0, none⟩) D.length cap, .int .i64 (addr : Int)] w fun e w' => e = .returned .nilIface ∧ StC w' sb D g cap addr ⟨false, 0, [(i, o, a)]⟩ ∧ Fr (fun k => k = sb) w w' := by
 obtain ⟨h, k, hh, h128, h256, hn, hik, hr⟩ := hview.ex
 clear hview
 have cell : ∀ (p x : Nat), D[p]? = some x → w.cell? ⟨g, p, none⟩ = some (.int .u8 (x : Int)) := fun p x hp => by simpa using hby.at_ p x hp
 have hik' : h % 64 = 0 ∧ k + 1 = addr ∧ w.cell? ⟨g, k, none⟩ = some (.int .u8 (i : Int)) ∨ h % 64 ≠ 0 ∧ k = addr ∧ backN (h % 64) = i := by
  rcases hik with ⟨h1, h2, h3⟩ | h
  ·exact .inl ⟨h1, h2, cell _ _ h3⟩
  ·exact .inr h
 rcases hr with ⟨r1, r2, r3, r4⟩ | ⟨r1, t, u, r2, r3, r4, r5, r6, r7, r8, r9, r10⟩
 ·refine (at_next hb hT hcol hgs (cell _ _ hh) hn h256 hik' r1 r4 hm).mono ?_
  rintro e w' ⟨h1, h2, h3⟩
  subst r2
  have : k - 1 = a := by omega
  rw [this] at h2
  exact ⟨h1, ⟨_, .one addr k h i a 0 0 0 true hh h128 h256 hi ho (by omega), h2⟩, h3⟩
 ·have hkl : k ≤ addr := by rcases hik with ⟨_, h2, _⟩ | ⟨_, h2, _⟩ <;> omega
  rw [show k - 1 = S + u + t by omega] at r7
  have hda : delta S a = 0 ∧ a = 0 ∨ delta S a ≠ 0 ∧ delta S a + a = S := by
   unfold delta
   by_cases h0 : a = 0
   ·left; rw [if_pos h0]; exact ⟨rfl, h0⟩
   ·right; rw [if_neg h0]; omega
  refine (at_far (X := cutN D (S + u) t) (Y := cutN D S u) hb hT hcol hgs (cell _ _ hh) hn h256 hik' r1 r2 r3 r5 r6 (cell _ _ r7) (hby.cut _ _ (by omega)) (cutN_len (by omega)) (cut_lt hlt (by omega) (by omega)) r8 (hby.cut _ _ (by omega)) (cutN_len (by omega)) (cut_lt hlt (by omega) (by omega)) r9 hda hc hm).mono ?_
  rintro e w' ⟨h1, h2, h3⟩
  exact ⟨h1, ⟨_, .one addr S h i a o t u false hh h128 h256 hi ho (by omega), h2⟩, h3⟩
theorem at_more {w : World} {sb g cap addr S : Nat} {D : List Nat} {s : Nd} (hb : Blk w sb (scells g D.length cap addr addr 0 0 false 0 0 0 0 false 0 0 0 0 0 0 0) 257) (hgs : ¬ g = sb) (hby : Byts w g 0 D) (hm : D.length < 9223372036854775808)
  (hlt : ∀ p x, S ≤ p → p ≤ addr → D[p]? = some x → x < 256) (hinc : (s.arcs.map fun t => t.1).Pairwise (· < ·)) (hab : ∀ t, t ∈ s.arcs → t.1 < 256 ∧ t.2.1 < 2 ^ 64) (h16 : 16 ≤ S) (hview : ManyAt D S addr s) :
  Calls Tryz.prog 143 #[.pointer (some ⟨sb, 0, none⟩), .slice (some ⟨g, 0, none⟩) D.length cap, .int .i64 (addr : Int)] w fun e w' => e = .returned .nilIface ∧ StC w' sb D g cap addr s ∧ Fr (fun k => k = sb) w w' := by
 obtain ⟨h, k, t, u, hh, h128, hn, hfin, hN, hx, ht, hu, _, hk, hks, hf⟩ := hview.ex
 clear hview
 have cell : ∀ (p x : Nat), D[p]? = some x → w.cell? ⟨g, p, none⟩ = some (.int .u8 (x : Int)) := fun p x hp => by simpa using hby.at_ p x hp
 have hkl : k < addr := by rcases hN with ⟨_, h2, _⟩ | ⟨_, h2, _⟩ <;> omega
 have hN' : h % 64 = s.arcs.length ∧ s.arcs.length ≠ 0 ∧ k + 1 = addr ∨ h % 64 = 0 ∧ k + 2 = addr ∧ ∃ x : Nat, w.cell? ⟨g, k + 1, none⟩ = some (.int .u8 (x : Int)) ∧ x < 256 ∧ s.arcs.length = if x = 1 then 256 else x := by
  rcases hN with ⟨h1, h2, h3⟩ | ⟨h1, h2, x, h3, h4, h5⟩
  ·exact .inl ⟨h3.symm, by omega, h2⟩
  ·exact .inr ⟨h1, h2, x, cell _ _ h3, h4, h5⟩
 refine (at_many (P1 := S + (if s.fin = true then u else 0) + s.arcs.length * u + s.arcs.length * t) (P2 := S + (if s.fin = true then u else 0) + s.arcs.length * u) (P3 := S + (if s.fin = true then u else 0)) (start := S) (fin := s.fin) hb hgs (cell _ _ hh) hn (by omega) hfin hN' (cell _ _ hx) ht hu hk.symm rfl rfl rfl hm).mono ?_
 rintro e w' ⟨h1, ot, ob, fo, h2, h3, h4, h5⟩
 exact ⟨h1, ⟨_, .many addr S s.arcs.length t u k _ _ _ h ot ob fo s hh h128 rfl hkl ht hu h16 hk.symm rfl rfl rfl hks hf hlt hinc hab h4 h5, h2⟩, h3⟩
set_option maxHeartbeats 1000000 in
set_option maxRecDepth 100000 in
theorem at_calls {w : World} {col : Col} {sb g cap a : Nat} {D : List Nat} {s : Nd} (hb : Blk w sb zst 257) (hT : Tabs w col) (hcol : col sb ≠ 0) (hgs : ¬ g = sb) (hby : Byts w g 0 D) (hc : D.length ≤ cap) (hm : D.length < 9223372036854775808) (hv : View D a s) :
  Calls Tryz.prog 138 #[.pointer (some ⟨sb, 0, none⟩), .slice (some ⟨g, 0, none⟩) D.length cap, .int .i64 (a : Int)] w fun e w' => e = .returned .nilIface ∧ StC w' sb D g cap a s ∧ Fr (fun k => k = sb) w w' := by
 have r0 := hb.cell 0 rfl
 have z0 := hb.frz 0
 have hb1 : Blk (w.setCell ⟨sb, 0, none⟩ (.slice (some ⟨g, 0, none⟩) D.length cap)) sb (scells g D.length cap 0 0 0 0 false 0 0 0 0 false 0 0 0 0 0 0 0) 257 := hb.set 0 _
 have F1 := (Fr.refl (fun k => k = sb) w).put1 0 (.slice (some ⟨g, 0, none⟩) D.length cap)
 rcases hv with ⟨rfl, rfl⟩ | ⟨ha0, S, s16, sa, san, hlt, hinc, hab, hfo, hf⟩
 ·have hz := zero_calls hb1
  have HF := Lib.hid F1
  have hD := Lib.hid (fun w' (h : Blk w' sb (scells g D.length cap 0 1 0 0 false 0 0 0 0 true 0 0 0 0 0 0 0) 257) => (⟨_, Sc.zero (D := D) (g := g) (cap := cap), h⟩ : StC w' sb D g cap 0 ⟨true, 0, []⟩))
  clear hb hb1 F1 hT hby
  generalize D.length = m at *
  go_enter Tryz.func138, Tryz.ntmps138
  go_wp2_with fail
  refine hz.mono ?_
  rintro e w' ⟨rfl, h2, h3⟩
  have HE := Lib.hid (And.intro (hD.out w' h2) (HF.out.trans h3 (fun _ _ h => h)))
  clear hz h2 h3
  go_wp2_with fail
  go_ret
  exact ⟨rfl, HE.out⟩
 ·have r1 := hb.cell 1 rfl
  have z1 := hb.frz 1
  have r2 := hb.cell 2 rfl
  have z2 := hb.frz 2
  have hb3 : Blk (((w.setCell ⟨sb, 0, none⟩ (.slice (some ⟨g, 0, none⟩) D.length cap)).setCell ⟨sb, 1, none⟩ (.int .i64 (a : Int))).setCell ⟨sb, 2, none⟩ (.int .i64 (a : Int))) sb (scells g D.length cap a a 0 0 false 0 0 0 0 false 0 0 0 0 0 0 0) 257 := (hb1.set 1 _).set 2 _
  have F3 := (F1.put1 1 (.int .i64 (a : Int))).put1 2 (.int .i64 (a : Int))
  obtain ⟨h, hh⟩ : ∃ h, D[a]? = some h := ⟨_, List.getElem?_eq_getElem (by omega)⟩
  have h256 := hlt a h sa (Nat.le_refl _) hh
  have hby3 := hby.fr F3 hgs
  have hen := enc_calls (hb3.cell 0 rfl) (hb3.cell 1 rfl) (by simpa using hby3.at_ a h hh) (by omega) h256
  have hone : ∀ w' i o b, Fr (fun _ => False) (((w.setCell ⟨sb, 0, none⟩ (.slice (some ⟨g, 0, none⟩) D.length cap)).setCell ⟨sb, 1, none⟩ (.int .i64 (a : Int))).setCell ⟨sb, 2, none⟩ (.int .i64 (a : Int))) w' → s = ⟨false, 0, [(i, o, b)]⟩ → OneAt codesN backN D S a i o b → Calls Tryz.prog 142 #[.pointer (some ⟨sb, 0, none⟩), .slice (some ⟨g, 0, none⟩) D.length cap, .int .i64 (a : Int)] w' fun e w'' => e = .returned .nilIface ∧ StC w'' sb D g cap a s ∧ Fr (fun k => k = sb) w w'' := by
   intro w' i o b hF hs h1
   subst hs
   obtain ⟨q1, q2, q3⟩ := hab (i, o, b) (by simp)
   have hF0 := F3.trans hF (fun _ _ h => h.elim)
   refine (at_one (hb3.fr hF (fun h => h)) (hT.kp (Kp.of (C := fun d => d ≠ 0) (col := col) hF0 1 (fun k _ e => by rw [e]; exact hcol) (by decide)) (fun e => e rfl)) (by rw [paint_lt hb.lt]; exact hcol) hgs (hby3.fr hF (fun h => h)) hc hm hlt q1 q2 q3 sa h1).mono ?_
   rintro e w'' ⟨e1, e2, e3⟩
   exact ⟨e1, e2, hF0.trans e3 (fun _ _ h => h)⟩
  have hmany : ∀ w', Fr (fun _ => False) (((w.setCell ⟨sb, 0, none⟩ (.slice (some ⟨g, 0, none⟩) D.length cap)).setCell ⟨sb, 1, none⟩ (.int .i64 (a : Int))).setCell ⟨sb, 2, none⟩ (.int .i64 (a : Int))) w' → ManyAt D S a s → Calls Tryz.prog 143 #[.pointer (some ⟨sb, 0, none⟩), .slice (some ⟨g, 0, none⟩) D.length cap, .int .i64 (a : Int)] w' fun e w'' => e = .returned .nilIface ∧ StC w'' sb D g cap a s ∧ Fr (fun k => k = sb) w w'' := by
   intro w' hF h1
   refine (at_more (hb3.fr hF (fun h => h)) hgs (hby3.fr hF (fun h => h)) hm hlt hinc (fun t ht => ⟨(hab t ht).1, (hab t ht).2.1⟩) s16 h1).mono ?_
   rintro e w'' ⟨e1, e2, e3⟩
   exact ⟨e1, e2, (F3.trans hF (fun _ _ h => h.elim)).trans e3 (fun _ _ h => h)⟩
  have ho := other_cell (fun e => hgs e.symm : sb ≠ g)
  have e1 : ¬ (a : Int) = 0 := by omega
  have e2 : ¬ (a : Int) = 1 := by omega
  have e3 : ¬ ((D.length : Nat) : Int) < (a : Int) := by omega
  have e4 : ¬ (a : Int) < 16 := by omega
  have hside : (∃ i o b, s = ⟨false, 0, [(i, o, b)]⟩ ∧ OneAt codesN backN D S a i o b) ∧ 128 ≤ h ∨ ManyAt D S a s ∧ ¬ 128 ≤ h := by
   rcases hf with ⟨i, o, b, k1, k2⟩ | k
   ·left
    obtain ⟨h', k, q1, q2, _⟩ := k2.ex
    rw [hh] at q1
    cases q1
    exact ⟨⟨i, o, b, k1, k2⟩, q2⟩
   ·right
    obtain ⟨h', k', t, u, q1, q2, _⟩ := k.ex
    rw [hh] at q1
    cases q1
    exact ⟨k, by omega⟩
  have HH := Lib.hid (And.intro hone (And.intro hmany hside))
  clear hb hb1 hb3 F1 F3 hT hby hby3 hone hmany hf hlt hab hinc hh h256 hside san sa s16 ha0 hm
  generalize D.length = m at *
  go_enter Tryz.func138, Tryz.ntmps138
  go_wp2_with fail
  refine hen.mono ?_
  rintro e w4 ⟨rfl, hF⟩
  clear hen
  obtain ⟨hone, hmany, hside⟩ := HH.out
  rcases hside with ⟨⟨i, o, b, k1, k2⟩, h128⟩ | ⟨k1, h128⟩
  ·rw [decide_eq_true h128]
   have hcl := hone w4 i o b hF k1 k2
   clear hone hmany hF k1 k2 HH r0 z0 r1 z1 r2 z2
   go_wp2_with fail
   refine hcl.mono ?_
   rintro e w5 ⟨rfl, h2, h3⟩
   have HE := Lib.hid (And.intro h2 h3)
   clear h2 h3 hcl
   go_wp2_with fail
   go_ret
   exact ⟨rfl, HE.out⟩
  ·rw [decide_eq_false h128]
   have hcl := hmany w4 hF k1
   clear hone hmany hF k1 HH r0 z0 r1 z1 r2 z2
   go_wp2_with fail
   refine hcl.mono ?_
   rintro e w5 ⟨rfl, h2, h3⟩
   have HE := Lib.hid (And.intro h2 h3)
   clear h2 h3 hcl
   go_wp2_with fail
   go_ret
   exact ⟨rfl, HE.out⟩
/-- A place of the row of states: none, or a state. -/
def slot : Option Nat → Value
 | none => .nilIface
 | some b => .iface 254 (.pointer (some ⟨b, 0, none⟩))
theorem ta_nil (w : World) : (Instr.typeAssert .nilIface 206 254 true).run Tryz.prog w = .ok (.tuple #[.pointer none, .bool false]) w := by kernel_rfl
theorem ta_st (a : Addr) (w : World) : (Instr.typeAssert (.iface 254 (.pointer (some a))) 206 254 true).run Tryz.prog w = .ok (.tuple #[.pointer (some a), .bool true]) w := by kernel_rfl
/-- What stateAt gives. -/
def StPost (w : World) (pre : Option Nat) (D : List Nat) (g cap a : Nat) (s : Nd) (e : Ending) (w' : World) : Prop :=
 ∃ sb, e = .returned (.tuple #[.iface 254 (.pointer (some ⟨sb, 0, none⟩)), .nilIface]) ∧ StC w' sb D g cap a s ∧ Fr (fun k => pre = some k) w w' ∧ (pre = some sb ∨ pre = none ∧ w.heap.size ≤ sb)
set_option maxHeartbeats 1000000 in
set_option maxRecDepth 100000 in
theorem stateAt_new {w : World} {col : Col} {db g cap a : Nat} {D : List Nat} {s : Nd} (hd : Blk w db [.slice (some ⟨g, 0, none⟩) D.length cap] 204) (hT : Tabs w col) (hgs : g < w.heap.size) (hby : Byts w g 0 D) (hc : D.length ≤ cap) (hm : D.length < 9223372036854775808) (hv : View D a s) :
  Calls Tryz.prog 137 #[.pointer (some ⟨db, 0, none⟩), .int .i64 (a : Int), .nilIface] w fun e w' => StPost w none D g cap a s e w' := by
 have F1 : Fr (fun _ => False) w (w.alloc (.cells zst.toArray 257)) := (Fr.refl _ w).alloc _
 have hbn := Blk.newAt w zst 257 _ rfl
 have hat := at_calls (col := paint w.heap.size 1 col) hbn (hT.kp (Kp.news F1 1 (C := fun d => d ≠ 0) (by decide)) (fun e => e rfl)) (by rw [paint_ge (Nat.le_refl _)]; decide) (by omega) (hby.fr F1 (fun h => h)) hc hm hv
 have hd0 : (w.alloc (.cells zst.toArray 257)).cell? ⟨db, 0, none⟩ = some (.slice (some ⟨g, 0, none⟩) D.length cap) := (hd.fr F1 (fun h => h)).cell 0 rfl
 have HF := Lib.hid (fun w' (h : Fr (fun k => k = w.heap.size) (w.alloc (.cells zst.toArray 257)) w') => (F1.trans h (fun i hi e => by omega : ∀ i, i < w.heap.size → i = w.heap.size → False) : Fr (fun _ => False) w w'))
 have hz : (zst.toArray : Array Value) = #[.slice none 0 0, .int .i64 0, .int .i64 0, .int .i64 0, .int .u8 0, .bool false, .int .u64 0, .int .u64 0, .int .i64 0, .int .i64 0, .bool false, .int .i64 0, .int .i64 0, .int .i64 0, .int .i64 0, .int .i64 0, .int .i64 0, .int .i64 0] := rfl
 rw [hz] at hat hd0 HF
 have hta := fun w => ta_nil w
 clear hd hT hby hbn F1 hz
 generalize D.length = m at *
 go_enter Tryz.func137, Tryz.ntmps137
 go_wp2_with fail
 refine hat.mono ?_
 rintro e w' ⟨rfl, h2, h3⟩
 have HE := Lib.hid (And.intro h2 (HF.out _ h3))
 clear h2 h3 hat HF hd0
 go_wp2_with fail
 go_ret2
 exact ⟨_, rfl, HE.out.1, HE.out.2.mono (fun _ _ h => h.elim), .inr ⟨rfl, Nat.le_refl _⟩⟩
set_option maxHeartbeats 1000000 in
set_option maxRecDepth 100000 in
theorem stateAt_old {w : World} {col : Col} {db g cap a sb : Nat} {D : List Nat} {s : Nd} {cs : List Value} (hd : Blk w db [.slice (some ⟨g, 0, none⟩) D.length cap] 204) (hT : Tabs w col) (hby : Byts w g 0 D) (hc : D.length ≤ cap) (hm : D.length < 9223372036854775808) (hv : View D a s)
  (hb : Blk w sb cs 257) (hl : cs.length = 18) (hcol : col sb ≠ 0) (hgs : ¬ g = sb) (hds : ¬ db = sb) :
  Calls Tryz.prog 137 #[.pointer (some ⟨db, 0, none⟩), .int .i64 (a : Int), .iface 254 (.pointer (some ⟨sb, 0, none⟩))] w fun e w' => StPost w (some sb) D g cap a s e w' := by
 have hbn : Blk (w.setCells sb 0 zst) sb zst 257 := by
  have := Blk.sets zst hb (o := 0) (by rw [hl]; decide)
  rwa [List.take_zero, List.nil_append, List.drop_of_length_le (by rw [hl]; decide), List.append_nil] at this
 have F1 : Fr (fun k => k = sb) w (w.setCells sb 0 zst) := Fr.sets zst w 0
 have hat := at_calls (col := paint w.heap.size 1 col) hbn (hT.kp (Kp.of (C := fun d => d ≠ 0) F1 1 (fun k _ e => by rw [e]; exact hcol) (by decide)) (fun e => e rfl)) (by rw [paint_lt hb.lt]; exact hcol) hgs (hby.fr F1 hgs) hc hm hv
 have hd0 : (w.setCells sb 0 zst).cell? ⟨db, 0, none⟩ = some (.slice (some ⟨g, 0, none⟩) D.length cap) := (hd.fr F1 hds).cell 0 rfl
 have HF := Lib.hid (fun w' (h : Fr (fun k => k = sb) (w.setCells sb 0 zst) w') => (F1.trans h (fun _ _ e => e) : Fr (fun k => k = sb) w w'))
 have hta := fun w => ta_st ⟨sb, 0, none⟩ w
 have hthere : w.there sb 0 18 := fun j hj => by
  obtain ⟨x, hx⟩ : ∃ x, cs[j]? = some x := ⟨_, List.getElem?_eq_getElem (by omega)⟩
  rw [Nat.zero_add, hb.cell j hx]
  exact ⟨rfl, hb.frz j⟩
 have HT := Lib.hid hthere
 obtain ⟨W, hW⟩ : ∃ W, Hid (W = w.setCells sb 0 zst) := ⟨_, Lib.hid rfl⟩
 rw [← hW.out] at hat hd0 HF
 clear hd hT hby hbn F1 hthere hb hv hl hcol hgs hds
 generalize D.length = m at *
 go_enter Tryz.func137, Tryz.ntmps137
 go_upto_region 3 with fail
 go_wp2_with (refine wpList_store_mid rfl 257 _ _ rfl sb 0 zst.toArray rfl rfl HT.out (by kernel_rfl) (all_oneCell_toArray (by decide)) ?_; change wpList _ _ _ _ _ (w.setCells sb 0 zst); rw [← hW.out])
 refine hat.mono ?_
 rintro e w' ⟨rfl, h2, h3⟩
 have HE := Lib.hid (And.intro h2 (HF.out _ h3))
 clear h2 h3 hat HF hd0
 go_wp2_with fail
 go_ret2
 exact ⟨_, rfl, HE.out.1, HE.out.2.mono (fun _ _ e => by rw [e]), .inl rfl⟩
end Go.Proofs.YtmhlnijpimjjaaaGreatDoor
