/- The reference reads a state of many transitions (f59). Condition: the data hold such a state. The reference reads a state (f41). Condition: the data hold it. The reference's Merged: what is appended and stored. No condition. -/
import Derived.Test.YtmhlnijpimjjaaaGreatDoorM35
import Derived.Test.YtmhlnijpimjjaaaGreatDoorM29
set_option linter.unusedSimpArgs false
set_option linter.unusedVariables false
namespace Go.Proofs.YtmhlnijpimjjaaaGreatDoor
section
open Go.RowKit Fmt
theorem lit123 (t : Array Value) (h : t.size = 123) : ∃ f : Nat → Value, t = #[f 0, f 1, f 2, f 3, f 4, f 5, f 6, f 7, f 8, f 9, f 10, f 11, f 12, f 13, f 14, f 15, f 16, f 17, f 18, f 19, f 20, f 21, f 22, f 23, f 24, f 25, f 26, f 27, f 28, f 29, f 30, f 31, f 32, f 33, f 34, f 35, f 36, f 37, f 38, f 39, f 40, f 41, f 42, f 43, f 44, f 45, f 46, f 47, f 48, f 49, f 50, f 51, f 52, f 53, f 54, f 55, f 56, f 57, f 58, f 59, f 60, f 61, f 62, f 63, f 64, f 65, f 66, f 67, f 68, f 69, f 70, f 71, f 72, f 73, f 74, f 75, f 76, f 77, f 78, f 79, f 80, f 81, f 82, f 83, f 84, f 85, f 86, f 87, f 88, f 89, f 90, f 91, f 92, f 93, f 94, f 95, f 96, f 97, f 98, f 99, f 100, f 101, f 102, f 103, f 104, f 105, f 106, f 107, f 108, f 109, f 110, f 111, f 112, f 113, f 114, f 115, f 116, f 117, f 118, f 119, f 120, f 121, f 122] := by
 obtain ⟨f, hf⟩ := litM t h
 exact ⟨f, hf.trans rfl⟩
def z0 (x : Nat × Nat × Nat) : Nat × Nat × Nat := (x.1, 0, 0)
def z1 (x : Nat × Nat × Nat) : Nat × Nat × Nat := (x.1, x.2.1, 0)
def Rm1 (w : World) (g n cap k N : Nat) (fin : Bool) (arcs : Arcs) (gg : Nat) (td ti : Value) (wx : World) : Prop := ∃ (i : Nat) (A : Value) (fa : List Value) (q : Nat), i ≤ N ∧ gg = N - i ∧ td = .slice none 0 0 ∧ ti = .int .i64 (i : Int) ∧ q + 1 + i = k ∧ RmS w g n cap q fin 0 A ((arcs.take i).map z0) fa (.slice none 0 0) [] [] wx
def Rm2 (w : World) (g n cap Q N t S : Nat) (fin : Bool) (arcs : Arcs) (A : Value) (fa : List Value) (gg : Nat) (td ti : Value) (wx : World) : Prop := ∃ (i : Nat) (V : Value) (fd : List Value) (q : Nat), i ≤ N ∧ gg = N - i ∧ td = V ∧ ti = .int .i64 (i : Int) ∧ q + 1 + i * t = Q ∧ RmS w g n cap q fin 0 A (arcs.map z0) fa V ((arcs.take i).map fun x => delta S x.2.2) fd wx
def Rm3 (w : World) (g n cap Q N u : Nat) (fin : Bool) (arcs : Arcs) (A V : Value) (dl : List Nat) (fd : List Value) (gg : Nat) (td ti : Value) (wx : World) : Prop := ∃ (i : Nat) (fa : List Value) (q : Nat), i ≤ N ∧ gg = N - i ∧ td = V ∧ ti = .int .i64 (i : Int) ∧ q + 1 + i * u = Q ∧ RmS w g n cap q fin 0 A (mix z1 z0 i arcs) fa V dl fd wx
def Rm4 (w : World) (g n cap q N : Nat) (fin : Bool) (fo : Nat) (arcs : Arcs) (A V : Value) (dl : List Nat) (fd : List Value) (gg : Nat) (td ti : Value) (wx : World) : Prop := ∃ (i : Nat) (fa : List Value), i ≤ N ∧ gg = N - i ∧ td = V ∧ ti = .int .i64 (i : Int) ∧ RmS w g n cap q fin fo A (mix id z1 i arcs) fa V dl fd wx
set_option maxHeartbeats 2000000 in
set_option maxRecDepth 100000 in
theorem rdmany_calls {w : World} {g n cap addr S : Nat} {D : List Nat} {s : Nd} (hD : Byts w g 0 D) (hn : D.length = n) (hg : g < w.heap.size) (hc : n ≤ cap) (hmx : cap ≤ maxLen) (h : ManyAt D S addr s) (hby : ∀ q x, S ≤ q → q ≤ addr → D[q]? = some x → x < 256) (hb : ∀ t, t ∈ s.arcs → t.1 < 256 ∧ t.2.1 < 2 ^ 64 ∧ t.2.2 < S) (h17 : addr + 3 ≤ n) :
  Calls Tryz.prog 59 #[.slice (some ⟨g, 0, none⟩) n cap, .int .i64 (addr : Int)] w fun e w' => RdPost w s e w' := by
 obtain ⟨fin, fout, arcs⟩ := s
 obtain ⟨h0, k, t, u, e0, h128, hal, hfin, hN, ek, ht8, hu8, h16, hk, hat, hfo⟩ := h.ex
 simp only at hfin hN hk hat hfo hb
 obtain ⟨N, hNe⟩ : ∃ N, Hid (arcs.length = N) := ⟨_, Lib.hid rfl⟩
 rw [hNe.out] at hN hk hat
 obtain ⟨Nt, hNt⟩ : ∃ v, Hid (N * t = v) := ⟨_, Lib.hid rfl⟩
 obtain ⟨Nu, hNu⟩ : ∃ v, Hid (N * u = v) := ⟨_, Lib.hid rfl⟩
 obtain ⟨fu, hfu⟩ : ∃ v, Hid ((if fin = true then u else 0) = v) := ⟨_, Lib.hid rfl⟩
 rw [hNt.out, hNu.out, hfu.out] at hk
 simp only [hNu.out, hfu.out] at hat
 have hN256 : N ≤ 256 := by
  rcases hN with ⟨_, _, e⟩ | ⟨_, _, x, _, hx, e⟩
  ·omega
  ·rw [e]; split <;> omega
 have ra := hD.at_ addr h0 e0
 rw [Nat.zero_add] at ra
 have rb : ∀ o1 o2, ((w.alloc o1).alloc o2).cell? ⟨g, addr, none⟩ = some (.int .u8 (h0 : Int)) := fun o1 o2 => (((Fr.refl (fun _ => False) w).alloc o1).alloc o2).cell ra (fun h => h)
 clear ra
 obtain ⟨q0, rfl⟩ : ∃ q, addr = q + 1 := ⟨addr - 1, by rcases hN with ⟨_, e, _⟩ | ⟨_, e, _⟩ <;> omega⟩
 have e1 : ((q0 + 1 : Nat) : Int) < (n : Int) := by omega
 have e2 : IntKind.i64.wrap (q0 : Int) = (q0 : Int) := by unfold maxLen at hmx; exact IntWalk.i64_in _ (by omega)
 obtain ⟨r, hr⟩ : ∃ r, Hid (h0 % 64 = r) := ⟨_, Lib.hid rfl⟩
 have e3 : (h0 : Int) % 64 = (r : Int) := by rw [← hr.out]; omega
 have e4 : ((h0 : Int) / 64 % 2 == 1) = fin := by
  cases fin with
  | true => have := hfin.2 rfl; simp; omega
  | false => have : ¬ h0 / 64 % 2 = 1 := fun e => by have := hfin.1 e; cases this
             simp; omega
 rw [hr.out] at hN
 have hgr : ¬ g = w.heap.size + 1 := by omega
 have hk16 : 16 ≤ k := by omega
 have hkq0 : k ≤ q0 := by rcases hN with ⟨_, e, _⟩ | ⟨_, e, _⟩ <;> omega
 obtain ⟨S1, rfl⟩ : ∃ S1, S = S1 + 1 := ⟨S - 1, by omega⟩
 have HH := Lib.hid (And.intro hD (And.intro hn (And.intro hg (And.intro hc (And.intro hmx (And.intro hby (And.intro hb (And.intro h17 (And.intro hNe.out hN256)))))))))
 have HM := Lib.hid (And.intro ek (And.intro ht8 (And.intro hu8 (And.intro h16 (And.intro hk (And.intro hat (And.intro hfo (And.intro hk16 (And.intro hal hkq0)))))))))
 clear hD hn hg hc hmx hby hb h17 h h128 ek ht8 hu8 h16 hk hat hfo hfin e0 hN256 hk16 hal hkq0
 go_enter Tryz.func59, Tryz.ntmps59
 go_upto_region 5 with fail
 clear rb
 refine wp_named (fun X => RmS w g n cap q0 fin 0 (.slice none 0 0) [] [] (.slice none 0 0) [] [] X) ⟨((Fr.refl _ w).alloc _).alloc _ |>.alloc _, ?_, ?_, ?_, .inl ⟨rfl, rfl, rfl⟩, rfl, fun b hb => by simp [Value.ownBlock] at hb, .inl ⟨rfl, rfl, rfl⟩, fun i x hx => by simp at hx, fun b hb => by simp [Value.ownBlock] at hb, fun b hb => by simp [Value.ownBlock] at hb⟩ ?_
 ·exact ((Blk.new w [.bool false, .int .u64 0, .slice none 0 0] 94).alloc _).alloc _
 ·exact (Blk.newAt (w.alloc _) (rdc g n cap q0) 177 (w.heap.size + 1) (by simp)).alloc _
 ·exact Blk.newAt _ [.bool fin, .int .u64 0, .slice none 0 0] 94 (w.heap.size + 2) (by simp)
 intro X1 hs
 have HS1 := Lib.hid hs
 clear hs e1 e2 e4
 rename_i Q' K1 hK1 K2 hK2
 have hgo : ∀ (a : Act) (X : World), a.defers = [] → a.tmps.size = 123 → a.tmps[4]? = some (.pointer (some ⟨w.heap.size, 0, none⟩)) → a.tmps[6]? = some (.pointer (some ⟨w.heap.size + 1, 0, none⟩)) → a.tmps[8]? = some (.pointer (some ⟨w.heap.size + 2, 0, none⟩)) → a.tmps[9]? = some (.int .i64 (N : Int)) → RmS w g n cap k fin 0 (.slice none 0 0) [] [] (.slice none 0 0) [] [] X → K1 a X := by
  rintro ⟨tm, df⟩ X2 hd hsz h4 h6 h8 h9 hs
  clear hK2 K2 hN e3
  simp only at hd hsz h4 h6 h8 h9
  subst hd
  obtain ⟨f, rfl⟩ := lit123 tm hsz
  have h4' : f 4 = .pointer (some ⟨w.heap.size, 0, none⟩) := Option.some.inj h4
  have h6' : f 6 = .pointer (some ⟨w.heap.size + 1, 0, none⟩) := Option.some.inj h6
  have h8' : f 8 = .pointer (some ⟨w.heap.size + 2, 0, none⟩) := Option.some.inj h8
  have h9' : f 9 = .int .i64 (N : Int) := Option.some.inj h9
  rw [h4', h6', h8', h9']
  clear h4 h6 h8 h9 h4' h6' h8' h9' hsz HS1
  have HS2 := Lib.hid hs
  clear hs
  apply hK1
  clear hK1
  obtain ⟨q1, rfl⟩ : ∃ q1, k = q1 + 1 := ⟨k - 1, by have := HM.out; omega⟩
  have hcall := rone_calls (a := q1) (x := t * 16 + u) HS2.out.rd (by have := HM.out; omega) (by have := HH.out; have := HM.out; omega) HH.out.2.2.2.2.1 hgr (by have h := (HH.out.1.fr HS2.out.fr (fun h => h)).at_ _ _ HM.out.1; rw [Nat.zero_add] at h; exact h)
  obtain ⟨y, hy⟩ : ∃ y, Hid (t * 16 + u = y) := ⟨_, Lib.hid rfl⟩
  rw [hy.out] at hcall
  go_wp2_with fail
  refine hcall.mono ?_
  rintro e w3 ⟨rfl, hb3, hF3⟩
  have HS3 := Lib.hid (HS2.out.move hb3 hF3)
  clear hcall hb3 hF3 HS2
  go_wp2_with fail
  refine wp_loop_ghost_k (fun gg A wx => A.defers = [] ∧ A.tmps.size = 123 ∧ A.tmps[4]? = some (.pointer (some ⟨w.heap.size, 0, none⟩)) ∧ A.tmps[6]? = some (.pointer (some ⟨w.heap.size + 1, 0, none⟩)) ∧ A.tmps[8]? = some (.pointer (some ⟨w.heap.size + 2, 0, none⟩)) ∧ A.tmps[9]? = some (.int .i64 (N : Int)) ∧ A.tmps[10]? = some (.int .u8 (y : Int)) ∧ ∃ td ti, A.tmps[11]? = some td ∧ A.tmps[12]? = some ti ∧ Rm1 w g n cap (q1 + 1) N fin arcs gg td ti wx) N ⟨rfl, rfl, rfl, rfl, rfl, rfl, rfl, _, _, rfl, rfl, ⟨0, _, [], q1, Nat.zero_le _, rfl, rfl, rfl, rfl, HS3.out⟩⟩ ?_
  clear HS3
  rintro gg ⟨tm, df⟩ wr ⟨hd, hsz, h4, h6, h8, h9, h10, td, ti, h11, hti, hrel⟩ J KO hJ hK'
  simp only at hd hsz h4 h6 h8 h9 h10 h11 hti
  subst hd
  obtain ⟨f, rfl⟩ := lit123 tm hsz
  have h4' : f 4 = .pointer (some ⟨w.heap.size, 0, none⟩) := Option.some.inj h4
  have h6' : f 6 = .pointer (some ⟨w.heap.size + 1, 0, none⟩) := Option.some.inj h6
  have h8' : f 8 = .pointer (some ⟨w.heap.size + 2, 0, none⟩) := Option.some.inj h8
  have h9' : f 9 = .int .i64 (N : Int) := Option.some.inj h9
  have h10' : f 10 = .int .u8 (y : Int) := Option.some.inj h10
  have h11' : f 11 = td := Option.some.inj h11
  have h12' : f 12 = ti := Option.some.inj hti
  rw [h4', h6', h8', h9', h10', h11', h12']
  clear h4 h6 h8 h9 h10 h11 hti h4' h6' h8' h9' h10' h11' h12' hsz
  obtain ⟨i, A, fa, q, hi, rfl, rfl, rfl, hq, hs⟩ := hrel
  obtain ⟨A1, c1, rfl⟩ := rowv hs.ar
  have HS3 := Lib.hid hs
  have hil : Hid (((arcs.take i).map z0).length = i) := Lib.hid (by have := hNe.out; simp; omega)
  have HI := Lib.hid (And.intro hi hq)
  by_cases hend : i = N
  ·have hta : arcs.take i = arcs := List.take_of_length_le (by have := hNe.out; omega)
   have d1 : ¬ (i : Int) < (N : Int) := by omega
   rw [hta] at hs
   have HS5 : Hid (RmS w g n cap q fin 0 (.slice A1 i c1) (arcs.map z0) fa (.slice none 0 0) [] [] wr) := Lib.hid (by rw [hta] at hil; rw [hil.out] at hs; exact hs)
   have HQ : Hid (q + 1 = S1 + 1 + fu + Nu + Nt) := Lib.hid (by have := HM.out; omega)
   clear hs hi hq hend hta HS3 HI hil
   go_wp2_with fail
   refine wp_loop_ghost_k (fun gg A wx => A.defers = [] ∧ A.tmps.size = 123 ∧ A.tmps[4]? = some (.pointer (some ⟨w.heap.size, 0, none⟩)) ∧ A.tmps[6]? = some (.pointer (some ⟨w.heap.size + 1, 0, none⟩)) ∧ A.tmps[8]? = some (.pointer (some ⟨w.heap.size + 2, 0, none⟩)) ∧ A.tmps[9]? = some (.int .i64 (N : Int)) ∧ A.tmps[10]? = some (.int .u8 (y : Int)) ∧ ∃ td ti, A.tmps[11]? = some td ∧ A.tmps[13]? = some ti ∧ Rm2 w g n cap (S1 + 1 + fu + Nu + Nt) N t (S1 + 1) fin arcs (.slice A1 i c1) fa gg td ti wx) N ⟨rfl, rfl, rfl, rfl, rfl, rfl, rfl, _, _, rfl, rfl, ⟨0, _, [], q, Nat.zero_le _, rfl, rfl, rfl, by have := HQ.out; omega, HS5.out⟩⟩ ?_
   clear HS5 HQ d1 hJ
   rintro gg ⟨tm, df⟩ wr ⟨hd, hsz, h4, h6, h8, h9, h10, td, ti, h11, hti, hrel⟩ J KO hJ hK'
   simp only at hd hsz h4 h6 h8 h9 h10 h11 hti
   subst hd
   obtain ⟨f, rfl⟩ := lit123 tm hsz
   have h4' : f 4 = .pointer (some ⟨w.heap.size, 0, none⟩) := Option.some.inj h4
   have h6' : f 6 = .pointer (some ⟨w.heap.size + 1, 0, none⟩) := Option.some.inj h6
   have h8' : f 8 = .pointer (some ⟨w.heap.size + 2, 0, none⟩) := Option.some.inj h8
   have h9' : f 9 = .int .i64 (N : Int) := Option.some.inj h9
   have h10' : f 10 = .int .u8 (y : Int) := Option.some.inj h10
   have h11' : f 11 = td := Option.some.inj h11
   have h13' : f 13 = ti := Option.some.inj hti
   rw [h4', h6', h8', h9', h10', h11', h13']
   clear h4 h6 h8 h9 h10 h11 hti h4' h6' h8' h9' h10' h11' h13' hsz
   rename_i hK0
   obtain ⟨i2, V, fd, q, hi, rfl, rfl, rfl, hq, hs⟩ := hrel
   obtain ⟨V1, c2, rfl⟩ := rowv hs.dr
   have HS6 := Lib.hid hs
   have hil : Hid (((arcs.take i2).map fun x => delta (S1 + 1) x.2.2).length = i2) := Lib.hid (by have := hNe.out; simp; omega)
   have HI := Lib.hid (And.intro hi hq)
   by_cases hend : i2 = N
   ·have hta : arcs.take i2 = arcs := List.take_of_length_le (by have := hNe.out; omega)
    have d1 : ¬ (i2 : Int) < (N : Int) := by omega
    rw [hta] at hs
    have HS8 : Hid (RmS w g n cap q fin 0 (.slice A1 i c1) (arcs.map z0) fa (.slice V1 i2 c2) (arcs.map fun x => delta (S1 + 1) x.2.2) fd wr) := Lib.hid (by rw [hta] at hil; rw [hil.out] at hs; exact hs)
    have HQ : Hid (q + 1 = S1 + 1 + fu + Nu) := Lib.hid (by have := hNt.out; rw [hend] at hq; omega)
    obtain ⟨dl, hdl⟩ : ∃ v, Hid ((arcs.map fun x => delta (S1 + 1) x.2.2) = v) := ⟨_, Lib.hid rfl⟩
    rw [hdl.out] at HS8
    rw [hil.out]
    have HE := Lib.hid hend
    clear hs hi hq hend hta HS6 HI hil hJ
    go_upto_region 19 with fail
    rename_i K2 hK2 K3 hK3 K4 hK4
    have hgo2 : ∀ (a : Act) (X : World) (fo : Nat) (fa' : List Value), a.defers = [] → a.tmps.size = 123 → a.tmps[4]? = some (.pointer (some ⟨w.heap.size, 0, none⟩)) → a.tmps[6]? = some (.pointer (some ⟨w.heap.size + 1, 0, none⟩)) → a.tmps[8]? = some (.pointer (some ⟨w.heap.size + 2, 0, none⟩)) → a.tmps[9]? = some (.int .i64 (N : Int)) → a.tmps[10]? = some (.int .u8 (y : Int)) → a.tmps[11]? = some (.slice V1 i2 c2) → RmS w g n cap S1 fin fo (.slice A1 i c1) (arcs.map z1) fa' (.slice V1 i2 c2) dl fd X → (fin = true → fo = fout) → K3 a X := by
     rintro ⟨tm, df⟩ X fo fa' hd hsz h4 h6 h8 h9 h10 h11 hs hfo2
     clear hK4 K4 hK2 K2
     simp only at hd hsz h4 h6 h8 h9 h10 h11
     subst hd
     obtain ⟨f, rfl⟩ := lit123 tm hsz
     have h4' : f 4 = .pointer (some ⟨w.heap.size, 0, none⟩) := Option.some.inj h4
     have h6' : f 6 = .pointer (some ⟨w.heap.size + 1, 0, none⟩) := Option.some.inj h6
     have h8' : f 8 = .pointer (some ⟨w.heap.size + 2, 0, none⟩) := Option.some.inj h8
     have h9' : f 9 = .int .i64 (N : Int) := Option.some.inj h9
     have h10' : f 10 = .int .u8 (y : Int) := Option.some.inj h10
     have h11' : f 11 = .slice V1 i2 c2 := Option.some.inj h11
     rw [h4', h6', h8', h9', h10', h11']
     clear h4 h6 h8 h9 h10 h11 h4' h6' h8' h9' h10' h11' hsz HS8 HQ d1
     have HS9 := Lib.hid hs
     clear hs
     apply hK3
     clear hK3
     go_wp2_with fail
     refine wp_loop_ghost_k (fun gg A wx => A.defers = [] ∧ A.tmps.size = 123 ∧ A.tmps[4]? = some (.pointer (some ⟨w.heap.size, 0, none⟩)) ∧ A.tmps[6]? = some (.pointer (some ⟨w.heap.size + 1, 0, none⟩)) ∧ A.tmps[8]? = some (.pointer (some ⟨w.heap.size + 2, 0, none⟩)) ∧ A.tmps[9]? = some (.int .i64 (N : Int)) ∧ A.tmps[10]? = some (.int .u8 (y : Int)) ∧ ∃ td ti, A.tmps[11]? = some td ∧ A.tmps[15]? = some ti ∧ Rm4 w g n cap S1 N fin fo arcs (.slice A1 i c1) (.slice V1 i2 c2) dl fd gg td ti wx) N ⟨rfl, rfl, rfl, rfl, rfl, rfl, rfl, _, _, rfl, rfl, ⟨0, fa', Nat.zero_le _, rfl, rfl, rfl, by rw [mix_zero]; exact HS9.out⟩⟩ ?_
     clear HS9
     rintro gg ⟨tm, df⟩ wr ⟨hd, hsz, h4, h6, h8, h9, h10, td, ti, h11, hti, hrel⟩ J KO hJ hK'
     simp only at hd hsz h4 h6 h8 h9 h10 h11 hti
     subst hd
     obtain ⟨f, rfl⟩ := lit123 tm hsz
     have h4' : f 4 = .pointer (some ⟨w.heap.size, 0, none⟩) := Option.some.inj h4
     have h6' : f 6 = .pointer (some ⟨w.heap.size + 1, 0, none⟩) := Option.some.inj h6
     have h8' : f 8 = .pointer (some ⟨w.heap.size + 2, 0, none⟩) := Option.some.inj h8
     have h9' : f 9 = .int .i64 (N : Int) := Option.some.inj h9
     have h10' : f 10 = .int .u8 (y : Int) := Option.some.inj h10
     have h11' : f 11 = td := Option.some.inj h11
     have h15' : f 15 = ti := Option.some.inj hti
     rw [h4', h6', h8', h9', h10', h11', h15']
     clear h4 h6 h8 h9 h10 h11 hti h4' h6' h8' h9' h10' h11' h15' hsz
     obtain ⟨i4, fa4, hi, rfl, rfl, rfl, hs⟩ := hrel
     have HS10 := Lib.hid hs
     by_cases hend : i4 = N
     ·have d1 : ¬ (i4 : Int) < (N : Int) := by omega
      have HS11 : Hid (RmS w g n cap S1 fin fo (.slice A1 i c1) arcs fa4 (.slice V1 i2 c2) dl fd wr) := Lib.hid (by rw [hend, ← hNe.out, mix_all, List.map_id] at hs; exact hs)
      clear hs hi hend HS10 hJ
      have k0 := HS11.out.st.cell 0 rfl
      have k1 := HS11.out.st.cell 1 rfl
      have k2 := HS11.out.st.cell 2 rfl
      have b2 := HS11.out.rd.cell 2 rfl
      have o0 := HS11.out.b0.cell 0 rfl
      have o1 := HS11.out.b0.cell 1 rfl
      have o2 := HS11.out.b0.cell 2 rfl
      have p0 := HS11.out.b0.frz 0
      have p1 := HS11.out.b0.frz 1
      have p2 := HS11.out.b0.frz 2
      go_wp2_with fail
      refine wp_region_seqV (fun W => W.cell? ⟨w.heap.size + 2, 0, none⟩ = some (.bool fin) ∧ W.cell? ⟨w.heap.size + 2, 1, none⟩ = some (.int .u64 (fo : Int)) ∧ W.cell? ⟨w.heap.size + 2, 2, none⟩ = some (.slice A1 i c1) ∧ W.cell? ⟨w.heap.size + 1, 2, none⟩ = some (.bool false)) (fun i => decide (i ≠ 6)) (fun i => ![0, 4].contains i && decide (i ≠ 6)) (fun i => false) [0, 1, 2, 3, 4, 5, 6, 7] (by kernel_rfl) (by kernel_rfl) (fun c a d v w h => by cases d <;> exact h) ⟨k0, k1, k2, b2⟩ ?_
      (apply seqV_read (ho := rfl) (hr := rfl) (hp := rfl) (hg := rfl); (rintro w' ⟨q0, q1, q2, q3⟩; go_simp; rfl))
      go_simp
      iterate 3 (apply seqV_pure (ho := rfl) (hr := rfl) (hg := rfl); (intro w'; go_simp; rfl))
      (apply seqV_read (ho := rfl) (hr := rfl) (hp := rfl) (hg := rfl); (rintro w' ⟨q0, q1, q2, q3⟩; go_simp; rfl))
      go_simp
      iterate 1 (apply seqV_pure (ho := rfl) (hr := rfl) (hg := rfl); (intro w'; go_simp; rfl))
      refine seqV_do rfl rfl fun K hK => ?_
      go_simp
      refine hK _ _ (fun _ => HS11.out.after _ _ _) ?_
      clear hK K
      go_simp
      iterate 1 (apply seqV_pure (ho := rfl) (hr := rfl) (hg := rfl); (intro w'; go_simp; rfl))
      unfold seqV
      go_simp
      go_wp2_with fail
      obtain ⟨hb, hp⟩ := HS11.out.post fout hfo2 _ rfl
      refine bodyPost_ret_by (res_cell rfl _ _ w.heap.size 94 _ (0, 0) rfl hb (by kernel_rfl) (by kernel_rfl)) rfl ?_
      exact hp
     ·obtain ⟨x, hx⟩ : ∃ x, arcs[i4]? = some x := ⟨_, List.getElem?_eq_getElem (by have := hNe.out; omega)⟩
      obtain ⟨hm1, hm2⟩ := mix_at (f := id) (g := z1) hx
      have hca := acells_at hm1
      have hlm : (mix id z1 i4 arcs).length = N := (mix_len _ _ _ _).trans hNe.out
      obtain ⟨ga, ca, eA, -, -, -, -, ck0, zk0⟩ := hs.ar.at_ (j := i4 * 3 + 2) (u := .int .i64 0) (by
       have h1 := hs.ac
       rw [hlm] at h1
       have h2 := hca.2.2
       rw [← h1, List.getElem?_take_of_lt (by omega)] at h2
       exact h2)
      rw [hlm] at eA
      injection eA with eA1 eA2 eA3
      obtain ⟨gv, cv, eV, -, -, -, -, cd0, -⟩ := hs.dr.at_ (hs.dc i4 (delta (S1 + 1) x.2.2) (by rw [← hdl.out, List.getElem?_map, hx]; rfl))
      injection eV with eV1 eV2 eV3
      subst eA1 eA3 eV1
      have hNi := Lib.hid eA2
      clear eA2 eV2 eV3
      obtain ⟨dx, hdx⟩ : ∃ v, Hid (delta (S1 + 1) x.2.2 = v) := ⟨_, Lib.hid rfl⟩
      rw [hdx.out] at cd0
      have hxx := (HM.out.2.2.2.2.2.1 i4 x hx).2.2.2
      have htg := target_calls wr.drew (f := S1 + 1) (d := dx) (by rw [← hdx.out]; unfold delta; split <;> omega) (by have h5 := HH.out.2.2.2.2.1; unfold maxLen at h5; have := HH.out; have := HM.out; omega)
      obtain ⟨tx, htx⟩ : ∃ v, Hid (x.2.2 = v) := ⟨_, Lib.hid rfl⟩
      rw [show (if dx = 0 then 0 else S1 + 1 - dx) = tx by rw [← hdx.out, ← htx.out]; unfold delta; (repeat' split) <;> omega] at htg
      have d1 : (i4 : Int) < (N : Int) := by omega
      have d3 : (i4 : Int) < (i2 : Int) := by have := HE.out; omega
      have d4 : (i4 : Int) < (i : Int) := by have := hNi.out; omega
      have d2 : IntKind.i64.wrap ((i4 : Int) + 1) = ((i4 + 1 : Nat) : Int) := by have := HH.out.2.2.2.2.2.2.2.2.2; rw [IntWalk.i64_in _ (by omega)]; omega
      have e7 : IntKind.i64.wrap ((S1 : Int) + 1) = ((S1 + 1 : Nat) : Int) := by have h5 := HH.out.2.2.2.2.1; unfold maxLen at h5; have := HH.out; have := HM.out; rw [IntWalk.i64_in _ (by omega)]; omega
      have s0 : wr.cell? ⟨w.heap.size + 2, 2, none⟩ = some (.slice (some ⟨ga, 0, none⟩) i c1) := hs.st.cell 2 rfl
      have s1 : wr.cell? ⟨w.heap.size + 1, 1, none⟩ = some (.int .i64 (S1 : Int)) := hs.rd.cell 1 rfl
      have HX := Lib.hid (And.intro hx (And.intro hm1 (And.intro hm2 hlm)))
      clear hs hi hend hx hm1 hm2 hca hlm hxx
      go_wp2_with fail
      refine wp_region_seqV (fun W => W.cell? ⟨w.heap.size + 2, 2, none⟩ = some (.slice (some ⟨ga, 0, none⟩) i c1) ∧ W.cell? ⟨w.heap.size + 1, 1, none⟩ = some (.int .i64 (S1 : Int)) ∧ W.cell? ⟨gv, i4, none⟩ = some (.int .u64 (dx : Int))) (fun i => decide (i ≠ 12 ∧ i ≠ 15)) (fun i => ![1, 6, 11].contains i && decide (i ≠ 12 ∧ i ≠ 15)) (fun i => decide (i = 15)) [0, 1, 2, 3, 4, 5, 6, 7, 8, 9, 10, 11, 12, 13, 14, 15] (by kernel_rfl) (by kernel_rfl) (fun c a d v w h => by cases d <;> exact h) ⟨s0, s1, cd0⟩ ?_
      iterate 1 (apply seqV_pure (ho := rfl) (hr := rfl) (hg := rfl); (intro w'; go_simp; rfl))
      (apply seqV_read (ho := rfl) (hr := rfl) (hp := rfl) (hg := rfl); (rintro w' ⟨q0, q1, q2⟩; go_simp; rfl))
      go_simp
      iterate 3 (apply seqV_pure (ho := rfl) (hr := rfl) (hg := rfl); (intro w'; go_simp; rfl))
      go_simp
      iterate 1 (apply seqV_pure (ho := rfl) (hr := rfl) (hg := rfl); (intro w'; go_simp; rfl))
      (apply seqV_read (ho := rfl) (hr := rfl) (hp := rfl) (hg := rfl); (rintro w' ⟨q0, q1, q2⟩; go_simp; rfl))
      go_simp
      iterate 3 (apply seqV_pure (ho := rfl) (hr := rfl) (hg := rfl); (intro w'; go_simp; rfl))
      go_simp
      iterate 1 (apply seqV_pure (ho := rfl) (hr := rfl) (hg := rfl); (intro w'; go_simp; rfl))
      (apply seqV_read (ho := rfl) (hr := rfl) (hp := rfl) (hg := rfl); (rintro w' ⟨q0, q1, q2⟩; go_simp; rfl))
      go_simp
      refine seqV_do rfl rfl fun K hK => ?_
      go_simp
      refine htg.mono ?_
      rintro e w4 ⟨rfl, rfl⟩
      clear htg
      refine hK _ _ (fun _ => ⟨s0, s1, cd0⟩) ?_
      clear hK K
      go_simp
      iterate 2 (apply seqV_pure (ho := rfl) (hr := rfl) (hg := rfl); (intro w'; go_simp; rfl))
      refine seqV_do rfl rfl fun K hK => ?_
      go_simp
      refine hK _ _ (fun h => by cases h) ?_
      clear hK K
      unfold seqV
      go_simp
      go_wp2_with fail
      have hset := RmS.setA HS10.out (ga := ga) (ca := c1) (j := i4 * 3 + 2) (by rw [HX.out.2.2.2, hNi.out]) (.int .i64 (tx : Int)) (l' := mix id z1 (i4 + 1) arcs) (by rw [mix_len, mix_len]) (by rw [HX.out.2.2.2]; omega) (by rw [← HX.out.2.2.1, (acells_set HX.out.2.1 0 tx).2, ← htx.out]; rfl)
      exact Handed.intro (N - (i4 + 1)) (by omega) (hJ _ _ _ ⟨rfl, rfl, rfl, rfl, rfl, rfl, rfl, _, _, rfl, rfl, i4 + 1, _, by omega, rfl, rfl, rfl, hset.drew⟩)
    clear hK3 hK2 K2
    have e6 : (y : Int) % 16 = (u : Int) := by have := hy.out; have := HM.out; omega
    by_cases hu0 : u = 0
    ·subst hu0
     have hz : arcs.map z0 = arcs.map z1 := List.map_congr_left fun x hx => by
      obtain ⟨j, hj⟩ := List.getElem?_of_mem hx
      have h1 := (HM.out.2.2.2.2.2.1 j x hj).2.2.1
      unfold z0 z1
      rw [← h1]
      simp [cutN, unp]
     have hq1 : q = S1 := by have h1 := HQ.out; have h2 := hNu.out; have h3 := hfu.out; have : (if fin = true then 0 else 0) = 0 := by split <;> rfl
                             omega
     subst hq1
     have HS9 := HS8.out
     rw [hz] at HS9
     have HS10 := Lib.hid HS9
     clear HS9 hz
     go_wp2_with fail
     exact hgo2 _ _ 0 _ rfl rfl rfl rfl rfl rfl rfl rfl HS10.out (fun h => by have h1 := HM.out.2.2.2.2.2.2.1 h; rw [← h1]; simp [cutN, unp])
    ·have f1 : ¬ (u : Int) = 0 := by omega
     go_wp2_with fail
     refine wp_loop_ghost_k (fun gg A wx => A.defers = [] ∧ A.tmps.size = 123 ∧ A.tmps[4]? = some (.pointer (some ⟨w.heap.size, 0, none⟩)) ∧ A.tmps[6]? = some (.pointer (some ⟨w.heap.size + 1, 0, none⟩)) ∧ A.tmps[8]? = some (.pointer (some ⟨w.heap.size + 2, 0, none⟩)) ∧ A.tmps[9]? = some (.int .i64 (N : Int)) ∧ A.tmps[10]? = some (.int .u8 (y : Int)) ∧ ∃ td ti, A.tmps[11]? = some td ∧ A.tmps[14]? = some ti ∧ Rm3 w g n cap (S1 + 1 + fu + Nu) N u fin arcs (.slice A1 i c1) (.slice V1 i2 c2) dl fd gg td ti wx) N ⟨rfl, rfl, rfl, rfl, rfl, rfl, rfl, _, _, rfl, rfl, ⟨0, fa, q, Nat.zero_le _, rfl, rfl, rfl, by have := HQ.out; omega, by rw [mix_zero]; exact HS8.out⟩⟩ ?_
     clear HS8 HQ d1
     rintro gg ⟨tm, df⟩ wr ⟨hd, hsz, h4, h6, h8, h9, h10, td, ti, h11, hti, hrel⟩ J KO hJ hK'
     simp only at hd hsz h4 h6 h8 h9 h10 h11 hti
     subst hd
     obtain ⟨f, rfl⟩ := lit123 tm hsz
     have h4' : f 4 = .pointer (some ⟨w.heap.size, 0, none⟩) := Option.some.inj h4
     have h6' : f 6 = .pointer (some ⟨w.heap.size + 1, 0, none⟩) := Option.some.inj h6
     have h8' : f 8 = .pointer (some ⟨w.heap.size + 2, 0, none⟩) := Option.some.inj h8
     have h9' : f 9 = .int .i64 (N : Int) := Option.some.inj h9
     have h10' : f 10 = .int .u8 (y : Int) := Option.some.inj h10
     have h11' : f 11 = td := Option.some.inj h11
     have h14' : f 14 = ti := Option.some.inj hti
     rw [h4', h6', h8', h9', h10', h11', h14']
     clear h4 h6 h8 h9 h10 h11 hti h4' h6' h8' h9' h10' h11' h14' hsz
     obtain ⟨i3, fa3, q3, hi, rfl, rfl, rfl, hq, hs⟩ := hrel
     have HS11 := Lib.hid hs
     have HI := Lib.hid (And.intro hi hq)
     by_cases hend : i3 = N
     ·have d1 : ¬ (i3 : Int) < (N : Int) := by omega
      have HS12 : Hid (RmS w g n cap q3 fin 0 (.slice A1 i c1) (arcs.map z1) fa3 (.slice V1 i2 c2) dl fd wr) := Lib.hid (by rw [hend, ← hNe.out, mix_all] at hs; exact hs)
      have HQ : Hid (q3 = S1 + fu) := Lib.hid (by have := hNu.out; rw [hend] at hq; omega)
      have r0 := HS12.out.st.cell 0 rfl
      clear hs hi hq hend HS11 HI hJ
      cases fin with
      | false =>
       have hq1 : q3 = S1 := by have h1 := HQ.out; have h3 := hfu.out; simp at h3; omega
       subst hq1
       go_wp2_with fail
       exact hgo2 _ _ 0 _ rfl rfl rfl rfl rfl rfl rfl rfl HS12.out (fun h => by cases h)
      | true =>
       have hq1 : q3 = S1 + u := by have h1 := HQ.out; have h3 := hfu.out; simp at h3; omega
       subst hq1
       have h1 := num_take (a := S1) (m := u) (S := S1 + 1) (ad := q0 + 1) (HH.out.1.fr HS12.out.fr (fun h => h)) HS12.out.rd (by have := HM.out; omega) HM.out.2.2.1 (by have := HH.out; omega) (by have := HM.out; have := hfu.out; simp at this; omega) (by have := HM.out; omega) HH.out.2.2.2.2.1 hgr (by omega) HH.out.2.2.2.2.2.1
       rw [HM.out.2.2.2.2.2.2.1 rfl] at h1
       have e8 : (u : Int) % 256 = (u : Int) := by have := HM.out; omega
       go_wp2_with fail
       refine h1.mono ?_
       rintro e W4 ⟨⟨rfl, hu⟩, hb4, hF4⟩
       have HS13 := Lib.hid (HS12.out.move hb4 hF4)
       have hu' := hu W4 (Fr.refl _ _)
       clear h1 hb4 hF4 hu r0
       go_wp2_with fail
       refine hu'.mono ?_
       rintro e W5 ⟨rfl, rfl⟩
       clear hu'
       have c1' := HS13.out.st.cell 1 rfl
       have z1' := HS13.out.st.frz 1
       go_wp2_with fail
       exact hgo2 _ _ fout _ rfl rfl rfl rfl rfl rfl rfl rfl (HS13.out.setF fout) (fun _ => rfl)
     ·obtain ⟨x, hx⟩ : ∃ x, arcs[i3]? = some x := ⟨_, List.getElem?_eq_getElem (by have := hNe.out; omega)⟩
      obtain ⟨hm1, hm2⟩ := mix_at (f := z1) (g := z0) hx
      have hca := acells_at hm1
      have hlm : (mix z1 z0 i3 arcs).length = N := (mix_len _ _ _ _).trans hNe.out
      obtain ⟨ga, ca, eA, -, -, -, -, ck0, -⟩ := hs.ar.at_ (j := i3 * 3 + 1) (u := .int .u64 0) (by
       have h1 := hs.ac
       rw [hlm] at h1
       have h2 := hca.2.1
       rw [← h1, List.getElem?_take_of_lt (by omega)] at h2
       exact h2)
      rw [hlm] at eA
      injection eA with eA1 eA2 eA3
      subst eA1 eA2 eA3
      obtain ⟨r1, hr1⟩ : ∃ v, Hid ((i - 1 - i3) * u = v) := ⟨_, Lib.hid rfl⟩
      obtain ⟨it, hit⟩ : ∃ v, Hid (i3 * u = v) := ⟨_, Lib.hid rfl⟩
      have hsum : r1 + (it + u) = Nu := by rw [← hr1.out, ← hit.out, ← hNu.out, ← Nat.succ_mul, ← Nat.add_mul]; congr 1; omega
      have hxx := (HM.out.2.2.2.2.2.1 i3 x hx).2.2.1
      rw [hr1.out] at hxx
      rw [hit.out] at hq
      obtain rfl : q3 = S1 + fu + r1 + u := by omega
      have h1 := num_take (a := S1 + fu + r1) (m := u) (S := S1 + 1) (ad := q0 + 1) (HH.out.1.fr hs.drew.fr (fun h => h)) hs.drew.rd (by have := HM.out; omega) HM.out.2.2.1 (by have := HH.out; omega) (by have := HM.out; omega) (by have := HM.out; omega) HH.out.2.2.2.2.1 hgr (by omega) HH.out.2.2.2.2.2.1
      obtain ⟨ox, hox⟩ : ∃ v, Hid (x.2.1 = v) := ⟨_, Lib.hid rfl⟩
      rw [show S1 + fu + r1 + 1 = S1 + 1 + fu + r1 by omega, hxx, hox.out] at h1
      have e8 : (u : Int) % 256 = (u : Int) := by have := HM.out; omega
      have e7 : IntKind.i64.wrap ((y : Int).tmod 16) = (u : Int) := by have := HM.out.2.2.1; rw [Int.tmod_eq_emod_of_nonneg (by omega), e6, IntWalk.i64_in _ (by omega)]
      have d1 : (i3 : Int) < (i : Int) := by omega
      have d2 : IntKind.i64.wrap ((i3 : Int) + 1) = ((i3 + 1 : Nat) : Int) := by have := HH.out.2.2.2.2.2.2.2.2.2; rw [IntWalk.i64_in _ (by omega)]; omega
      have s0 : wr.cell? ⟨w.heap.size + 2, 2, none⟩ = some (.slice (some ⟨ga, 0, none⟩) i c1) := hs.st.cell 2 rfl
      have HX := Lib.hid (And.intro hx (And.intro hsum (And.intro hm1 (And.intro hm2 hlm))))
      clear hs hi hq hend hx hxx hsum hm1 hm2 hca hlm
      go_wp2_with fail
      refine wp_region_seqV (fun W => W.cell? ⟨w.heap.size + 2, 2, none⟩ = some (.slice (some ⟨ga, 0, none⟩) i c1)) (fun i => decide (i ≠ 7 ∧ i ≠ 8 ∧ i ≠ 11)) (fun i => ![1].contains i && decide (i ≠ 7 ∧ i ≠ 8 ∧ i ≠ 11)) (fun i => decide (i = 11)) [0, 1, 2, 3, 4, 5, 6, 7, 8, 9, 10, 11] (by kernel_rfl) (by kernel_rfl) (fun c a d v w h => by cases d <;> exact h) s0 ?_
      iterate 1 (apply seqV_pure (ho := rfl) (hr := rfl) (hg := rfl); (intro w'; go_simp; rfl))
      (apply seqV_read (ho := rfl) (hr := rfl) (hp := rfl) (hg := rfl); (rintro w' q0; go_simp; rfl))
      go_simp
      iterate 3 (apply seqV_pure (ho := rfl) (hr := rfl) (hg := rfl); (intro w'; go_simp; rfl))
      go_simp
      iterate 2 (apply seqV_pure (ho := rfl) (hr := rfl) (hg := rfl); (intro w'; go_simp; rfl))
      refine seqV_do rfl rfl fun K hK => ?_
      go_simp
      refine h1.mono ?_
      rintro e w4 ⟨⟨rfl, hu⟩, hb4, hF4⟩
      have HS7 := Lib.hid (HS11.out.drew.move hb4 hF4)
      have hu' := hu w4 (Fr.refl _ _)
      have s1 : w4.cell? ⟨w.heap.size + 2, 2, none⟩ = some (.slice (some ⟨ga, 0, none⟩) i c1) := HS7.out.st.cell 2 rfl
      have ck : w4.cell? ⟨ga, i3 * 3 + 1, none⟩ = some (.int .u64 0) := hF4.cell ck0 (fun e => by have := HS11.out.ao ga rfl; simp only at e; omega)
      have zk : w4.frozen? ⟨ga, i3 * 3 + 1, none⟩ = false := by
       rcases HS7.out.ar with ⟨e, _⟩ | ⟨g', cap', e, hb, -⟩
       ·cases e
       ·injection e with e
        injection e with e
        injection e with e
        subst e
        exact hb.frz _
      refine hK _ _ (fun _ => s1) ?_
      clear hK K hb4 hF4 hu h1
      go_simp
      refine seqV_do rfl rfl fun K hK => ?_
      go_simp
      refine hu'.mono ?_
      rintro e w5 ⟨rfl, rfl⟩
      clear hu'
      refine hK _ _ (fun _ => s1) ?_
      clear hK K
      go_simp
      iterate 2 (apply seqV_pure (ho := rfl) (hr := rfl) (hg := rfl); (intro w'; go_simp; rfl))
      refine seqV_do rfl rfl fun K hK => ?_
      go_simp
      refine hK _ _ (fun h => by cases h) ?_
      clear hK K
      unfold seqV
      go_simp
      go_wp2_with fail
      have hset := RmS.setA HS7.out (ga := ga) (ca := c1) (j := i3 * 3 + 1) (by rw [HX.out.2.2.2.2]) (.int .u64 (ox : Int)) (l' := mix z1 z0 (i3 + 1) arcs) (by rw [mix_len, mix_len]) (by rw [HX.out.2.2.2.2]; omega) (by rw [← HX.out.2.2.2.1, (acells_set HX.out.2.2.1 ox 0).1, ← hox.out]; rfl)
      exact Handed.intro (i - (i3 + 1)) (by omega) (hJ _ _ _ ⟨rfl, rfl, rfl, rfl, rfl, rfl, rfl, _, _, rfl, rfl, i3 + 1, _, S1 + fu + r1, by omega, rfl, rfl, rfl, by have := HX.out.2.1; have := hit.out; rw [Nat.succ_mul]; omega, hset⟩)
   ·obtain ⟨x, hx⟩ : ∃ x, arcs[i2]? = some x := ⟨_, List.getElem?_eq_getElem (by have := hNe.out; omega)⟩
    obtain ⟨r1, hr1⟩ : ∃ v, Hid ((N - 1 - i2) * t = v) := ⟨_, Lib.hid rfl⟩
    obtain ⟨it, hit⟩ : ∃ v, Hid (i2 * t = v) := ⟨_, Lib.hid rfl⟩
    have hsum : r1 + (it + t) = Nt := by rw [← hr1.out, ← hit.out, ← hNt.out, ← Nat.succ_mul, ← Nat.add_mul]; congr 1; omega
    have hxx := (HM.out.2.2.2.2.2.1 i2 x hx).2.1
    rw [hr1.out] at hxx
    rw [hit.out] at hq
    obtain rfl : q = S1 + fu + Nu + r1 + t := by omega
    have h1 := num_take (a := S1 + fu + Nu + r1) (m := t) (S := S1 + 1) (ad := q0 + 1) (HH.out.1.fr hs.fr (fun h => h)) hs.rd (by have := HM.out; omega) HM.out.2.1 (by have := HH.out; omega) (by have := HM.out; omega) (by have := HM.out; omega) HH.out.2.2.2.2.1 hgr (by omega) HH.out.2.2.2.2.2.1
    obtain ⟨dx, hdx⟩ : ∃ v, Hid (delta (S1 + 1) x.2.2 = v) := ⟨_, Lib.hid rfl⟩
    rw [show S1 + fu + Nu + r1 + 1 = S1 + 1 + fu + Nu + r1 by omega, hxx, hdx.out] at h1
    have e5 : (y : Int) / 16 = (t : Int) := by have := hy.out; have := HM.out; omega
    have e8 : (t : Int) % 256 = (t : Int) := by have := HM.out; omega
    have d1 : (i2 : Int) < (N : Int) := by omega
    have d2 : IntKind.i64.wrap ((i2 : Int) + 1) = ((i2 + 1 : Nat) : Int) := by have := HH.out.2.2.2.2.2.2.2.2.2; rw [IntWalk.i64_in _ (by omega)]; omega
    have HX := Lib.hid (And.intro hx hsum)
    clear hs hi hq hend hx hxx hsum
    rw [hil.out]
    go_wp2_with fail
    refine h1.mono ?_
    rintro e W4 ⟨⟨rfl, hu⟩, hb4, hF4⟩
    have HS7 := Lib.hid (HS6.out.move hb4 hF4)
    have hu' := hu W4 (Fr.refl _ _)
    clear h1 hb4 hF4 hu
    go_wp2_with fail
    refine hu'.mono ?_
    rintro e W5 ⟨rfl, rfl⟩
    clear hu'
    have hrow : RowF W5 40 1 (.slice V1 i2 c2) i2 fd := by have h := HS7.out.dr; rw [hil.out] at h; exact h
    go_wp2_with (at_builtin; (refine app1f W5 W5.heap.size rfl rfl _ _ 43 rfl 40 (.int .u64 0) 1 8 (by kernel_rfl) (by kernel_rfl) rfl (.slice V1 i2 c2) i2 fd [.int .u64 (dx : Int)] rfl rfl hrow rfl (by simp [Value.oneCell']) (by have := HH.out.2.2.2.2.2.2.2.2.2; omega) (by decide) ?_); intro v5 w5 full5 hr5 hF5 hc5)
    have happ := RmS.appD (V := .slice V1 ((arcs.take i2).map fun x => delta (S1 + 1) x.2.2).length c2) HS7.out dx (by rw [hil.out]; exact hr5) (by rw [hil.out]; exact hF5) (by rw [hil.out]; exact hc5)
    have e9 : ((arcs.take i2).map fun x => delta (S1 + 1) x.2.2) ++ [dx] = (arcs.take (i2 + 1)).map fun x => delta (S1 + 1) x.2.2 := by rw [take_snoc HX.out.1, List.map_append, ← hdx.out]; rfl
    rw [e9] at happ
    exact Handed.intro (N - (i2 + 1)) (by omega) (hJ _ _ _ ⟨rfl, rfl, rfl, rfl, rfl, rfl, rfl, _, _, rfl, rfl, i2 + 1, _, full5, S1 + fu + Nu + r1, by omega, rfl, rfl, rfl, by have := HX.out.2; have := hit.out; rw [Nat.succ_mul]; omega, happ⟩)
  ·obtain ⟨x, hx⟩ : ∃ x, arcs[i]? = some x := ⟨_, List.getElem?_eq_getElem (by have := hNe.out; omega)⟩
   obtain ⟨q', rfl⟩ : ∃ q', q = q' + 1 := ⟨q - 1, by have := HM.out; omega⟩
   have hxx := (HM.out.2.2.2.2.2.1 i x hx).1
   have hcall := rone_calls (a := q') (x := x.1) (hs.drew).rd (by have := HM.out; omega) (by have := HH.out; have := HM.out; omega) HH.out.2.2.2.2.1 hgr (by have h := (HH.out.1.fr hs.drew.fr (fun h => h)).at_ (q' + 1) x.1 (by rw [← hxx]; congr 1; omega); rw [Nat.zero_add] at h; exact h)
   obtain ⟨x1, hx1⟩ : ∃ y, Hid (x.1 = y) := ⟨_, Lib.hid rfl⟩
   rw [hx1.out] at hcall
   have s0 : wr.cell? ⟨w.heap.size + 2, 2, none⟩ = some (.slice A1 i c1) := by have h := hs.st.cell 2 rfl; rw [hil.out] at h; exact h
   have d1 : (i : Int) < (N : Int) := by omega
   have d2 : IntKind.i64.wrap ((i : Int) + 1) = ((i + 1 : Nat) : Int) := by have := HH.out.2.2.2.2.2.2.2.2.2; rw [IntWalk.i64_in _ (by omega)]; omega
   have HX := Lib.hid (And.intro hx hxx)
   clear hs hi hq hend hx hxx
   go_wp2_with fail
   refine wp_region_seqV (fun W => W.cell? ⟨w.heap.size + 2, 2, none⟩ = some (.slice A1 i c1)) (fun i => decide (i ≠ 3 ∧ i ≠ 5 ∧ i ≠ 6 ∧ i ≠ 8)) (fun i => ![1].contains i && decide (i ≠ 3 ∧ i ≠ 5 ∧ i ≠ 6 ∧ i ≠ 8)) (fun i => decide (i = 6 ∨ i = 8)) [0, 1, 2, 3, 4, 5, 6, 7, 8] (by kernel_rfl) (by kernel_rfl) (fun c a d v w h => by cases d <;> exact h) s0 ?_
   iterate 1 (apply seqV_pure (ho := rfl) (hr := rfl) (hg := rfl); (intro w'; go_simp; rfl))
   (apply seqV_read (ho := rfl) (hr := rfl) (hp := rfl) (hg := rfl); (rintro w' q0; go_simp; rfl))
   go_simp
   iterate 1 (apply seqV_pure (ho := rfl) (hr := rfl) (hg := rfl); (intro w'; go_simp; rfl))
   refine seqV_do rfl rfl fun K hK => ?_
   go_simp
   refine hcall.mono ?_
   rintro e w2 ⟨rfl, hb2, hF2⟩
   have HS4 := Lib.hid (HS3.out.drew.move hb2 hF2)
   have s1 : w2.cell? ⟨w.heap.size + 2, 2, none⟩ = some (.slice A1 i c1) := by have h := HS4.out.st.cell 2 rfl; rw [hil.out] at h; exact h
   have sA : ∀ ob, (w2.alloc ob).cell? ⟨w.heap.size + 2, 2, none⟩ = some (.slice A1 i c1) := fun ob => ((Fr.refl (fun _ => False) w2).alloc ob).cell s1 (fun h => h)
   have hrow : RowF w2 98 3 (.slice A1 i c1) i fa := by have h := HS4.out.ar; rw [hil.out] at h; exact h
   refine hK _ _ (fun _ => s1) ?_
   clear hK K hb2 hF2 hcall
   go_simp
   iterate 1 (apply seqV_pure (ho := rfl) (hr := rfl) (hg := rfl); (intro w'; go_simp; rfl))
   refine seqV_do rfl rfl fun K hK => ?_
   go_simp
   refine hK _ _ (fun _ => sA _) ?_
   clear hK K
   go_simp
   refine seqV_do rfl rfl fun K hK => ?_
   rw [if_pos (show Region.wanted _ _ = true from rfl)]
   refine step_app1f w2 rfl _ _ 92 rfl 98 (.agg #[.int .u8 0, .int .u64 0, .int .i64 0]) 3 24 (by kernel_rfl) (by kernel_rfl) rfl (.slice A1 i c1) i fa [.int .u8 (x1 : Int), .int .u64 0, .int .i64 0] rfl rfl hrow rfl (by simp [Value.oneCell']) (by have := HH.out.2.2.2.2.2.2.2.2.2; omega) (by decide) ?_
   intro v5 w5 full5 hr5 hF5 hc5
   obtain ⟨A5n, cap5n, rfl⟩ := rowv hr5
   have hno : ¬ (Value.slice A1 i c1).ownBlock = some (w.heap.size + 2) := fun e => by have := HS4.out.ao _ (by rw [hil.out]; exact e); omega
   have d5 : w5.cell? ⟨w.heap.size + 2, 2, none⟩ = some (.slice A1 i c1) := hF5.cell s1 hno
   have z5 := (HS4.out.st.fr hF5 hno).frz 2
   refine hK _ _ (fun h => by cases h) ?_
   clear hK K sA s1
   go_simp
   go_simp
   iterate 1 (apply seqV_pure (ho := rfl) (hr := rfl) (hg := rfl); (intro w'; go_simp; rfl))
   refine seqV_do rfl rfl fun K hK => ?_
   go_simp
   refine hK _ _ (fun h => by cases h) ?_
   clear hK K
   unfold seqV
   go_simp
   go_wp2_with fail
   have happ := RmS.appA (A := .slice A1 ((arcs.take i).map z0).length c1) HS4.out (x1, 0, 0) (by rw [hil.out]; exact hr5) (by rw [hil.out]; exact hF5) (by rw [hil.out]; exact hc5)
   have e9 : [x].map z0 = [(x1, 0, 0)] := by rw [← hx1.out]; rfl
   have e8 : (arcs.take i).map z0 ++ [(x1, 0, 0)] = (arcs.take (i + 1)).map z0 := by rw [take_snoc HX.out.1, List.map_append, e9]
   rw [e8] at happ
   exact Handed.intro (N - (i + 1)) (by omega) (hJ _ _ _ ⟨rfl, rfl, rfl, rfl, rfl, rfl, rfl, _, _, rfl, rfl, i + 1, _, full5, q', by omega, rfl, rfl, rfl, by have := HI.out.2; omega, happ⟩)
 clear hK1
 rcases hN with ⟨hr0, hkq, rfl⟩ | ⟨hr0, hkq, x, hx, hx256, hNx⟩
 ·obtain rfl : k = q0 := by omega
  have f1 : ¬ (N : Int) = 0 := by omega
  clear hr0 hkq
  go_wp2_with fail
  exact hgo _ _ rfl rfl rfl rfl rfl rfl HS1.out
 ·subst hr0
  obtain rfl : q0 = k + 1 := by omega
  have hcall := rone_calls (a := k) HS1.out.rd (by have := HM.out; omega) (by have := HH.out; have := HM.out; omega) HH.out.2.2.2.2.1 hgr (by have h := (HH.out.1.fr HS1.out.fr (fun h => h)).at_ _ _ hx; rw [Nat.zero_add] at h; exact h)
  clear hkq hx
  go_upto_region 7 with (refine hcall.mono ?_; rintro e w' ⟨rfl, h1, h2⟩; have HS2 := Lib.hid (HS1.out.move h1 h2); clear h1 h2 hcall)
  by_cases hx1 : x = 1
  ·rw [if_pos hx1] at hNx
   subst hx1 hNx
   go_wp2_with fail
   exact hgo _ _ rfl rfl rfl rfl rfl rfl HS2.out
  ·rw [if_neg hx1] at hNx
   subst hNx
   have f1 : ¬ (N : Int) = 1 := by omega
   clear hx1
   go_wp2_with fail
   exact hgo _ _ rfl rfl rfl rfl rfl rfl HS2.out
end
section
open Go.RowKit Fmt
/-- What was read is stored where it is given back. -/
theorem rd_store {w w1 w2 : World} {s : Nd} {A : Value} {full : List Value} {fo : Nat} (hF0 : Fr (fun _ => False) w w1) (hlt : w.heap.size < w1.heap.size) (hb : Blk w1 w.heap.size [.bool false, .int .u64 0, .slice none 0 0] 94) (hfo : s.fin = true → fo = s.fout) (hr : RowF w2 98 3 A s.arcs.length full) (hf : full.take (s.arcs.length * 3) = acells s.arcs) (ho : ∀ b, A.ownBlock = some b → w1.heap.size ≤ b) (hF : Fr (fun _ => False) w1 w2) :
  ∀ W, W = (((w2.setCell ⟨w.heap.size, 0, none⟩ (.bool s.fin)).setCell ⟨w.heap.size, 1, none⟩ (.int .u64 (fo : Int))).setCell ⟨w.heap.size, 2, none⟩ A) →
  Blk W w.heap.size [.bool s.fin, .int .u64 (fo : Int), A] 94 ∧ RdPost w s (.returned (.tuple #[.agg #[.bool s.fin, .int .u64 (fo : Int), A], .bool true])) W := by
 rintro W rfl
 have hS : Fr (fun k => k = w.heap.size) w2 (((w2.setCell ⟨w.heap.size, 0, none⟩ (.bool s.fin)).setCell ⟨w.heap.size, 1, none⟩ (.int .u64 (fo : Int))).setCell ⟨w.heap.size, 2, none⟩ A) :=
  Fr.setCell (F := fun k => k = w.heap.size) (p := ⟨w.heap.size, 2, none⟩) (Fr.setCell (F := fun k => k = w.heap.size) (p := ⟨w.heap.size, 1, none⟩) (Fr.setCell (F := fun k => k = w.heap.size) (p := ⟨w.heap.size, 0, none⟩) (Fr.refl _ w2) (fun _ => rfl) _) (fun _ => rfl) _) (fun _ => rfl) _
 exact ⟨((((hb.fr hF (fun h => h)).set 0 _).set 1 _).set 2 _), A, full, fo, rfl, hfo, hr.fr hS (fun b hb e => by have := ho b hb; omega), hf, fun b hb => by have := ho b hb; omega, (hF0.trans hF (fun _ _ h => h)).trans hS (fun k hk e => by omega)⟩
set_option maxHeartbeats 2000000 in
set_option maxRecDepth 100000 in
theorem rdstate_calls {w : World} {g n cap gb a : Nat} {D : List Nat} {s : Nd} (hD : Byts w g 0 D) (hn : D.length = n) (hg : g < w.heap.size) (hc : n ≤ cap) (hmx : cap ≤ maxLen) (hB : Blk w gb (u8s (bkL 256)) 5) (hv : View D a s) :
  Calls Tryz.prog 41 #[.slice (some ⟨g, 0, none⟩) n cap, .int .i64 (a : Int), .slice (some ⟨gb, 0, none⟩) 64 64] w fun e w' => RdPost w s e w' := by
 have hF0 : Fr (fun _ => False) w (w.alloc (.cells #[.bool false, .int .u64 0, .slice none 0 0] 94)) := (Fr.refl _ w).alloc _
 have hb0 : Blk (w.alloc (.cells #[.bool false, .int .u64 0, .slice none 0 0] 94)) w.heap.size [.bool false, .int .u64 0, .slice none 0 0] 94 := Blk.new w _ 94
 have hlt : w.heap.size < (w.alloc (.cells #[.bool false, .int .u64 0, .slice none 0 0] 94)).heap.size := by simp
 rcases hv with ⟨rfl, rfl⟩ | ⟨h0, S, h16, hSa, ha, hby, hinc, hb, hfo, hcase⟩
 ·clear hD hn hg hc hmx hB hF0 hb0 hlt
  go_enter Tryz.func41, Tryz.ntmps41
  go_wp2_with fail
  refine bodyPost_ret_by (res_cell rfl _ _ w.heap.size 94 _ (0, 0) rfl (Blk.new w [.bool true, .int .u64 0, .slice none 0 0] 94) (by kernel_rfl) (by kernel_rfl)) rfl ?_
  exact ⟨.slice none 0 0, [], 0, rfl, fun _ => rfl, .inl ⟨rfl, rfl, rfl⟩, rfl, fun b hb => by simp [Value.ownBlock] at hb, (Fr.refl _ w).alloc _⟩
 ·have hal : a < D.length := by omega
  obtain ⟨h, hh⟩ : ∃ h, D[a]? = some h := ⟨_, List.getElem?_eq_getElem hal⟩
  have r1 : (w.alloc (.cells #[.bool false, .int .u64 0, .slice none 0 0] 94)).cell? ⟨g, a, none⟩ = some (.int .u8 (h : Int)) := by have h := (hD.fr hF0 (fun h => h)).at_ a h hh; rw [Nat.zero_add] at h; exact h
  have d0 : ¬ (a : Int) = 0 := by omega
  have d1 : ¬ (a : Int) < 16 := by omega
  have d2 : IntKind.i64.wrap ((n : Int) - 16) = (n : Int) - 16 := by unfold maxLen at hmx; rw [IntWalk.i64_in _ (by omega)]
  have d3 : ¬ (n : Int) - 16 ≤ (a : Int) := by omega
  have d4 : (a : Int) < (n : Int) := by omega
  have hg1 : g < (w.alloc (.cells #[.bool false, .int .u64 0, .slice none 0 0] 94)).heap.size := by omega
  rcases hcase with ⟨i, o, t, rfl, h1⟩ | h1
  ·have hx := h1.ex
   have d5 : (128 : Int) ≤ (h : Int) := by
    obtain ⟨h', k, e1, e2, -⟩ := hx
    rw [hh] at e1; injection e1 with e1; subst e1; omega
   have hcall := rdone_calls (hD.fr hF0 (fun h => h)) hn hg1 hc hmx (hB.fr hF0 (fun h => h)) h1 hby (hb (i, o, t) (by simp)).1 (by omega) (by omega)
   have HE := Lib.hid (And.intro hF0 (And.intro hb0 hlt))
   clear hD hn hg hc hmx hB hF0 hb0 hlt hx h1 hb hby hinc hfo h16 hSa ha hal hh h0 hg1
   go_enter Tryz.func41, Tryz.ntmps41
   go_wp2_with fail
   refine hcall.mono ?_
   rintro e w2 ⟨A, full, fo, rfl, hfo, hr, hf, ho, hF⟩
   have HX := Lib.hid (rd_store HE.out.1 HE.out.2.2 HE.out.2.1 hfo hr hf ho hF)
   have hb2 := HE.out.2.1.fr hF (fun h => h)
   have o0 := hb2.cell 0 rfl
   have o1 := hb2.cell 1 rfl
   have o2 := hb2.cell 2 rfl
   have p0 := hb2.frz 0
   have p1 := hb2.frz 1
   have p2 := hb2.frz 2
   obtain ⟨A1, cA, rfl⟩ := rowv hr
   clear hcall hfo hr hf ho hF hb2
   go_wp2_with fail
   obtain ⟨h1, h2⟩ := HX.out _ rfl
   refine bodyPost_ret_by (res_cell rfl _ _ w.heap.size 94 _ (0, 0) rfl h1 (by kernel_rfl) (by kernel_rfl)) rfl ?_
   exact h2
  ·have hx := h1.ex
   have d5 : ¬ (128 : Int) ≤ (h : Int) := by
    obtain ⟨h', k, t, u, e1, e2, -⟩ := hx
    rw [hh] at e1; injection e1 with e1; subst e1; omega
   have hcall := rdmany_calls (hD.fr hF0 (fun h => h)) hn hg1 hc hmx h1 hby hb (by omega)
   have HE := Lib.hid (And.intro hF0 (And.intro hb0 hlt))
   clear hD hn hg hc hmx hB hF0 hb0 hlt hx h1 hb hby hinc hfo h16 hSa ha hal hh h0 hg1
   go_enter Tryz.func41, Tryz.ntmps41
   go_wp2_with fail
   refine hcall.mono ?_
   rintro e w2 ⟨A, full, fo, rfl, hfo, hr, hf, ho, hF⟩
   have HX := Lib.hid (rd_store HE.out.1 HE.out.2.2 HE.out.2.1 hfo hr hf ho hF)
   have hb2 := HE.out.2.1.fr hF (fun h => h)
   have o0 := hb2.cell 0 rfl
   have o1 := hb2.cell 1 rfl
   have o2 := hb2.cell 2 rfl
   have p0 := hb2.frz 0
   have p1 := hb2.frz 1
   have p2 := hb2.frz 2
   obtain ⟨A1, cA, rfl⟩ := rowv hr
   obtain ⟨N, hN⟩ : ∃ N, Hid (s.arcs.length = N) := ⟨_, Lib.hid rfl⟩
   obtain ⟨fi, hfi⟩ : ∃ N, Hid (s.fin = N) := ⟨_, Lib.hid rfl⟩
   rw [hN.out] at HX ⊢
   have HX2 := HX.out
   rw [hfi.out] at HX2 ⊢
   have HX3 := Lib.hid HX2
   clear hcall hfo hr hf ho hF hb2 HX HX2
   go_wp2_with fail
   obtain ⟨h1, h2⟩ := HX3.out _ rfl
   refine bodyPost_ret_by (res_cell rfl _ _ w.heap.size 94 _ (0, 0) rfl h1 (by kernel_rfl) (by kernel_rfl)) rfl ?_
   exact h2
end
section
open Go.RowKit Fmt
theorem cellsP_get {SS : List (ByteArray × Nat)} {j : Nat} {u : Value} (h : (cellsP SS)[j]? = some u) : ∃ i s, SS[i]? = some s ∧ (j = i * 2 ∧ u = .string s.1 ∨ j = i * 2 + 1 ∧ u = .int .u64 (s.2 : Int)) := by
 have hl := (List.getElem?_eq_some_iff.1 h).1
 rw [cellsP_len] at hl
 obtain ⟨s, hs⟩ : ∃ s, SS[j / 2]? = some s := ⟨_, List.getElem?_eq_getElem (by omega)⟩
 obtain ⟨h1, h2⟩ := cellsP_at hs
 refine ⟨j / 2, s, hs, ?_⟩
 rcases Nat.mod_two_eq_zero_or_one j with e | e
 ·have e2 : j / 2 * 2 = j := by omega
  rw [e2, h] at h1
  exact .inl ⟨by omega, by injection h1⟩
 ·have e2 : j / 2 * 2 + 1 = j := by omega
  rw [e2, h] at h2
  exact .inr ⟨by omega, by injection h2⟩
/-- A slice's pairs as strings, and as the cells that an append takes. -/
theorem PrN.news {w : World} {v : Value} {L : Prs} (h : PrN w v L) : ∃ b o c SS, v = .slice (some ⟨b, o, none⟩) L.length c ∧ prsOf SS = L ∧ SS.length = L.length ∧ ∀ j u, (cellsP SS)[j]? = some u → w.cell? ((⟨b, o, none⟩ : Addr).add j) = some u := by
 obtain ⟨b, o, c, rfl, h2, h3, h4⟩ := h
 obtain ⟨SS, k1, k2, k3⟩ := PrV.strs (w := w) (v := .slice (some ⟨b, o, none⟩) L.length c) (L := L) (.inl ⟨b, o, c, rfl, h2, h3, h4⟩)
 refine ⟨b, o, c, SS, rfl, k1, k2, fun j u hj => ?_⟩
 obtain ⟨i, s, hs, hc⟩ := cellsP_get hj
 obtain ⟨b', o', c', e, e1, e2⟩ := k3 i s hs
 injection e with e3 e4 e5
 injection e3 with e3
 injection e3 with e3 e6
 subst e3 e6
 rw [Addr.add_mid]
 rcases hc with ⟨rfl, rfl⟩ | ⟨rfl, rfl⟩
 ·exact e1
 ·rw [← Nat.add_assoc]; exact e2
theorem PrO.appN {w w5 : World} {base : Nat} {v v' : Value} {O T : List (ByteArray × Nat)} {full full' : List Value} (h1 : RowF w 42 2 v O.length full) (h2 : full.take (O.length * 2) = cellsP O) (h3 : ∀ b, v.ownBlock = some b → base ≤ b) (hbs : base ≤ w.heap.size) (hr : RowF w5 42 2 v' (O.length + T.length) full')
  (hc : (v'.ownBlock = v.ownBlock ∧ full' = full.take (O.length * 2) ++ cellsP T ++ full.drop ((O.length + T.length) * 2)) ∨ (v'.ownBlock = some w.heap.size ∧ ∃ k, full' = full.take (O.length * 2) ++ cellsP T ++ zeros #[Value.string ⟨#[]⟩, Value.int .u64 0] k)) : PrO w5 base v' (O ++ T) := by
 have key : ∀ Z : List Value, (full.take (O.length * 2) ++ cellsP T ++ Z).take ((O.length + T.length) * 2) = cellsP (O ++ T) := fun Z => by
  rw [h2, ← cellsP_app, List.take_left' (by rw [cellsP_len, List.length_append])]
 refine ⟨full', by rw [List.length_append]; exact hr, by rw [List.length_append]; rcases hc with ⟨_, e⟩ | ⟨_, k, e⟩ <;> (rw [e]; exact key _), fun b hb => ?_⟩
 rcases hc with ⟨e, _⟩ | ⟨e, _⟩
 ·rw [e] at hb; exact h3 b hb
 ·rw [e] at hb; cases hb; omega
/-- A row of numbers of one's own. -/
structure NumO (w : World) (base : Nat) (v : Value) (l : List Nat) : Prop where
 ex : ∃ full, RowF w 40 1 v l.length full ∧ (∀ (i x : Nat), l[i]? = some x → full[i]? = some (.int .u64 (x : Int))) ∧ ∀ b, v.ownBlock = some b → base ≤ b
theorem NumO.v {w : World} {base : Nat} {v : Value} {l : List Nat} (h : NumO w base v l) : NumsV w v l := by
 obtain ⟨full, h1, h2, h3⟩ := h.ex
 rcases h1 with ⟨rfl, h0, _⟩ | ⟨g, cap, rfl, hb, hc, hm, _⟩
 ·exact .inr ⟨List.length_eq_zero_iff.1 h0, rfl⟩
 ·exact .inl ⟨g, 0, cap, rfl, fun i x hx => by rw [Nat.zero_add]; exact hb.cell i (h2 i x hx), hb.lt, hc, hm⟩
theorem NumO.fr {w w' : World} {base : Nat} {v : Value} {l : List Nat} (h : NumO w base v l) (k : Fr (fun _ => False) w w') : NumO w' base v l := by
 obtain ⟨full, h1, h2, h3⟩ := h.ex
 exact ⟨full, h1.fr k (fun _ _ h => h), h2, h3⟩
theorem NumO.app {w w5 : World} {base : Nat} {v v' : Value} {l : List Nat} {full full' : List Value} {x : Nat} (h1 : RowF w 40 1 v l.length full) (h2 : ∀ (i x : Nat), l[i]? = some x → full[i]? = some (.int .u64 (x : Int))) (h3 : ∀ b, v.ownBlock = some b → base ≤ b) (hbs : base ≤ w.heap.size) (hr : RowF w5 40 1 v' (l.length + 1) full')
  (hc : (v'.ownBlock = v.ownBlock ∧ full' = full.take (l.length * 1) ++ [.int .u64 (x : Int)] ++ full.drop ((l.length + 1) * 1)) ∨ ((∃ b', v'.ownBlock = some b' ∧ w.heap.size ≤ b') ∧ ∃ k, full' = full.take (l.length * 1) ++ [.int .u64 (x : Int)] ++ zeros #[.int .u64 0] k)) : NumO w5 base v' (l ++ [x]) := by
 have ha := AppF.of hc
 obtain ⟨A1, cp, e1, e2, e3, e4⟩ := h1.slc
 have hl : l.length ≤ full.length := by rw [e4]; omega
 refine ⟨full', by rw [List.length_append]; exact hr, fun i y hi => ?_, fun b hb => ?_⟩
 ·rcases Nat.lt_or_ge i l.length with hlt | hge
  ·rw [List.getElem?_append_left hlt] at hi
   rw [ha.lt hl hlt]; exact h2 i y hi
  ·rw [List.getElem?_append_right hge] at hi
   obtain rfl : i = l.length := by have := (List.getElem?_eq_some_iff.1 hi).1; simp at this; omega
   simp at hi
   subst hi
   exact ha.at_ hl
 ·rcases hc with ⟨e, _⟩ | ⟨⟨b', e, hb'⟩, _⟩
  ·rw [e] at hb; exact h3 b hb
  ·rw [e] at hb; cases hb; omega
/-- The values of the first i keys are put together. -/
def mixJ (J : ByteArray → Nat) (i : Nat) (SS : List (ByteArray × Nat)) : List (ByteArray × Nat) := (SS.take i).map (fun s => (s.1, J s.1)) ++ SS.drop i
theorem mixJ_len (J : ByteArray → Nat) (i : Nat) (SS : List (ByteArray × Nat)) : (mixJ J i SS).length = SS.length := by unfold mixJ; simp; omega
theorem mixJ_at {J : ByteArray → Nat} {i : Nat} {SS : List (ByteArray × Nat)} {s : ByteArray × Nat} (h : SS[i]? = some s) : (mixJ J i SS)[i]? = some s ∧ (mixJ J i SS).set i (s.1, J s.1) = mixJ J (i + 1) SS := by
 have hl := (List.getElem?_eq_some_iff.1 h).1
 have e1 : (SS.take i).length = i := by simp; omega
 have e2 : SS.drop i = s :: SS.drop (i + 1) := by
  rw [List.drop_eq_getElem_cons hl]
  congr 1
  exact (List.getElem?_eq_some_iff.1 h).2
 have e3 : SS.take (i + 1) = SS.take i ++ [s] := by rw [List.take_add_one, h]; rfl
 unfold mixJ
 constructor
 ·rw [List.getElem?_append_right (by simp; omega), List.length_map, e1, e2]; simp
 ·rw [List.set_append_right _ _ (by simp; omega), List.length_map, e1, e2, e3]; simp
theorem cellsP_set {SS : List (ByteArray × Nat)} {i : Nat} {s : ByteArray × Nat} (h : SS[i]? = some s) (z : Nat) : (cellsP SS).set (i * 2 + 1) (.int .u64 (z : Int)) = cellsP (SS.set i (s.1, z)) := by
 induction SS generalizing i with
 | nil => simp at h
 | cons a SS ih =>
  have e : ∀ (a : ByteArray × Nat) (l : List (ByteArray × Nat)), cellsP (a :: l) = .string a.1 :: .int .u64 (a.2 : Int) :: cellsP l := fun _ _ => rfl
  cases i with
  | zero => simp at h; subst h; simp [e]
  | succ i =>
   simp at h
   rw [e, show (i + 1) * 2 + 1 = (i * 2 + 1) + 1 + 1 by omega]
   simp only [List.set_cons_succ]
   rw [ih h, e]
/-- A pair's value is stored. -/
theorem PrO.setJ {w : World} {base g M c i : Nat} {O O' : List (ByteArray × Nat)} {z : Nat} (h : PrO w base (.slice (some ⟨g, 0, none⟩) M c) O) (hM : O.length = M) (hO' : O'.length = O.length) (hi : i * 2 + 1 < O.length * 2) (he : (cellsP O).set (i * 2 + 1) (.int .u64 (z : Int)) = cellsP O') : PrO (w.setCell ⟨g, i * 2 + 1, none⟩ (.int .u64 (z : Int))) base (.slice (some ⟨g, 0, none⟩) M c) O' := by
 obtain ⟨full, h1, h2, h3⟩ := h.ex
 rcases h1 with ⟨e, _⟩ | ⟨g', cap', e, hb, k1, k2, k3⟩
 ·cases e
 ·injection e with e1 e2 e3
  injection e1 with e1
  injection e1 with e1
  subst e1 e3
  exact ⟨full.set (i * 2 + 1) (.int .u64 (z : Int)), by rw [hO', hM]; exact .inr ⟨g, c, rfl, hb.set _ _, by omega, k2, by rw [List.length_set]; exact k3⟩, by rw [hO', List.take_set, h2, he], h3⟩
end
end Go.Proofs.YtmhlnijpimjjaaaGreatDoor
