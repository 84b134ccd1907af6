/- From the reading of the row's first argument to what the walks read of it: pairs, slices of pairs, slices of such. Condition: the argument reads as a value of its type. -/
import Derived.Test.YtmhlnijpimjjaaaGreatDoorM41
import Derived.Test.YtmhlnijpimjjaaaGreatDoorM20
import Derived.ProofKit
import Derived.Deep.Slices
set_option linter.unusedSimpArgs false
set_option linter.unusedVariables false
namespace Go.Proofs.YtmhlnijpimjjaaaGreatDoor
open Go.RowKit Go.ChangeShapes Go.Deep Fmt
section
variable {H : Type} {enc : TypeId × Value → H} {W : World} {spare : Nat → Bool} {held : Bool}
set_option maxRecDepth 100000 in
theorem pair_of {fuel : Nat} {cs : List Value} {x : DataW H × List MemPlace} (h : DataW.trod enc Tryz.prog W 0 spare held fuel 42 cs = some x) : ∃ (s : ByteArray) (z : Nat), cs = [.string s, .int .u64 (z : Int)] ∧ z < 18446744073709551616 := by
 obtain ⟨xs, n, -, -, hl, hlen, hf⟩ := DataW.trod_struct Tryz.underlying42 h
 have h2 : Tryz.prog.cellsOf 42 = 2 := by kernel_rfl
 have c9 : Tryz.prog.cellsOf 9 = 1 := by kernel_rfl
 have c40 : Tryz.prog.cellsOf 40 = 1 := by kernel_rfl
 rw [h2] at hl
 match cs, hl with
 | [v0, v1], _ =>
  obtain ⟨y0, g0⟩ : ∃ y, xs[0]? = some y := ⟨_, List.getElem?_eq_getElem (by rw [hlen]; decide)⟩
  obtain ⟨y1, g1⟩ : ∃ y, xs[1]? = some y := ⟨_, List.getElem?_eq_getElem (by rw [hlen]; decide)⟩
  have k0 : DataW.trod enc Tryz.prog W 0 spare held n 9 [v0] = some y0 := by
   have h := (hf 0 _ rfl).trans g0
   simpa [c9] using h
  have k1 : DataW.trod enc Tryz.prog W 0 spare held n 40 [v1] = some y1 := by
   have h := (hf 1 _ rfl).trans g1
   simpa [c40] using h
  obtain ⟨s, e0, -⟩ := DataW.trod_string Tryz.underlying9 k0
  obtain ⟨z, e1, -, hw⟩ := DataW.trod_int Tryz.underlying40 k1
  simp at e0 e1
  subst e0 e1
  simp only [Lit.wf, Bool.and_eq_true, decide_eq_true_eq] at hw
  have w1 : (0 : Int) ≤ z := hw.1
  have w2 : z ≤ 18446744073709551615 := hw.2
  exact ⟨s, z.toNat, by rw [Int.toNat_of_nonneg w1], by omega⟩
theorem prv_of {fuel : Nat} {cs : List Value} {x : DataW H × List MemPlace} (h : DataW.trod enc Tryz.prog W 0 spare held fuel 26 cs = some x) : ∃ v L, cs = [v] ∧ PrV W v L ∧ ∀ p, p ∈ L → (∀ y, y ∈ p.1 → y < 256) ∧ p.2 < 18446744073709551616 := by
 rcases open_slice Tryz.underlying26 h with ⟨rfl, -⟩ | ⟨a, len, cap, m, n, D, Pl, rfl, -, hlc, hcm, hm, -, hel⟩
 ·exact ⟨_, [], rfl, .inr ⟨rfl, none, 0, rfl, by decide⟩, fun p hp => by cases hp⟩
 have c42 : Tryz.prog.cellsOf 42 = 2 := by kernel_rfl
 rw [c42] at hel
 have hle : len ≤ m := by rw [hm]; split <;> omega
 rcases Nat.eq_zero_or_pos len with h0 | h0
 ·subst h0
  exact ⟨_, [], rfl, .inr ⟨rfl, some a, cap, rfl, hcm⟩, fun p hp => by cases hp⟩
 have each : ∀ i, i < len → ∃ q : List Nat × Nat, ∃ s, W.cell? (a.add (i * 2)) = some (.string s) ∧ bytesOf s = q.1 ∧ W.cell? (a.add (i * 2 + 1)) = some (.int .u64 (q.2 : Int)) ∧ q.2 < 18446744073709551616 := fun i hi => by
  obtain ⟨cs', h1, h2⟩ := hel i (by omega)
  obtain ⟨s, z, rfl, hz⟩ := pair_of h2
  obtain ⟨-, -, hc⟩ := World.cells?_some h1
  have g0 := hc 0 (by decide)
  have g1 := hc 1 (by decide)
  rw [Deep.add_add] at g0 g1
  exact ⟨(bytesOf s, z), s, g0, rfl, g1, hz⟩
 obtain ⟨q, hq⟩ := Deep.choose_lt each
 obtain ⟨s0, k0, -⟩ := hq 0 h0
 have hs : a.spot = none := spot_none (by simpa [Addr.add] using k0)
 have ha : a = ⟨a.block, a.off, none⟩ := by cases a; simp_all
 have hb : a.block < W.heap.size := by
  rw [add_form hs] at k0
  have h := World.block_lt_of_cell? W _ k0
  exact h
 have hl : ((List.range len).map q).length = len := by simp
 refine ⟨_, (List.range len).map q, rfl, .inl ⟨a.block, a.off, cap, by rw [hl, ← ha], fun i p hp => ?_, hb, by rw [hl]; exact hlc, hcm⟩, fun p hp => ?_⟩
 ·have hi : i < len := by have := (List.getElem?_eq_some_iff.1 hp).1; rwa [hl] at this
  rw [List.getElem?_map, List.getElem?_range hi] at hp
  obtain rfl : q i = p := by simpa using hp
  obtain ⟨s, k1, k2, k3, -⟩ := hq i hi
  rw [add_form hs] at k1 k3
  exact ⟨s, k1, k2, by rw [Nat.add_assoc]; exact k3⟩
 ·obtain ⟨i, hi, rfl⟩ := List.mem_map.1 hp
  obtain ⟨s, k1, k2, k3, k4⟩ := hq i (List.mem_range.1 hi)
  exact ⟨by rw [← k2]; exact bytesOf_lt s, k4⟩
/-- The sets, out of the reading of the argument. -/
theorem sets_of {fuel : Nat} {cs : List Value} {x : DataW H × List MemPlace} (h : DataW.trod enc Tryz.prog W 0 spare held fuel 22 cs = some x) : ∃ v S, cs = [v] ∧ SetsV W v S ∧ ∀ L, L ∈ S → ∀ p, p ∈ L → (∀ y, y ∈ p.1 → y < 256) ∧ p.2 < 18446744073709551616 := by
 rcases open_slice Tryz.underlying22 h with ⟨rfl, -⟩ | ⟨a, len, cap, m, n, D, Pl, rfl, -, hlc, hcm, hm, -, hel⟩
 ·exact ⟨_, [], rfl, .inr ⟨rfl, none, 0, rfl, by decide⟩, fun p hp => by cases hp⟩
 have c26 : Tryz.prog.cellsOf 26 = 1 := by kernel_rfl
 rw [c26] at hel
 have hle : len ≤ m := by rw [hm]; split <;> omega
 rcases Nat.eq_zero_or_pos len with h0 | h0
 ·subst h0
  exact ⟨_, [], rfl, .inr ⟨rfl, some a, cap, rfl, hcm⟩, fun p hp => by cases hp⟩
 have each : ∀ i, i < len → ∃ q : Prs, ∃ u, W.cell? (a.add i) = some u ∧ PrV W u q ∧ ∀ p, p ∈ q → (∀ y, y ∈ p.1 → y < 256) ∧ p.2 < 18446744073709551616 := fun i hi => by
  obtain ⟨cs', h1, h2⟩ := hel i (by omega)
  obtain ⟨u, L, rfl, hp, hb⟩ := prv_of h2
  obtain ⟨-, -, hc⟩ := World.cells?_some h1
  have g0 := hc 0 (by decide)
  rw [Deep.add_add, Nat.mul_one, Nat.add_zero] at g0
  exact ⟨L, u, g0, hp, hb⟩
 obtain ⟨q, hq⟩ := Deep.choose_lt each
 obtain ⟨s0, k0, -⟩ := hq 0 h0
 have hs : a.spot = none := spot_none (by simpa [Addr.add] using k0)
 have ha : a = ⟨a.block, a.off, none⟩ := by cases a; simp_all
 have hb : a.block < W.heap.size := by
  rw [add_form hs] at k0
  have h := World.block_lt_of_cell? W _ k0
  exact h
 have hl : ((List.range len).map q).length = len := by simp
 refine ⟨_, (List.range len).map q, rfl, .inl ⟨a.block, a.off, cap, by rw [hl, ← ha], fun i p hp => ?_, hb, by rw [hl]; exact hlc, hcm⟩, fun L hL => ?_⟩
 ·have hi : i < len := by have := (List.getElem?_eq_some_iff.1 hp).1; rwa [hl] at this
  rw [List.getElem?_map, List.getElem?_range hi] at hp
  obtain rfl : q i = p := by simpa using hp
  obtain ⟨u, k1, k2, -⟩ := hq i hi
  rw [add_form hs] at k1
  exact ⟨u, k1, k2⟩
 ·obtain ⟨i, hi, rfl⟩ := List.mem_map.1 hL
  obtain ⟨u, k1, k2, k3⟩ := hq i (List.mem_range.1 hi)
  exact k3
end
end Go.Proofs.YtmhlnijpimjjaaaGreatDoor
