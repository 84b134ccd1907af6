/- A range of runes that is not cut holds just the runes whose bytes lie between its ends' bytes, place by place. Condition: the range's ends have bytes. A range of runes of four bytes that is not cut. Condition: the range's ends have bytes. What is not cut is one sequence of ranges of bytes, and holds just its runes. Condition: the range's ends have bytes. The parts of a range of runes, in their order, in plain numbers. Condition: the range's ends have bytes. The ranges that are still to be cut, in plain numbers: what one round does to them. Condition: the ranges' ends have bytes. Package utf8's cutting of a range in memory: the rows that are done, the stack, the buffers. No condition. Comparisons of package utf8's ranges. No condition. A region that draws its order, walked once, as in Draw; besides, readers that yield one value in whatever world, and for which nobody waits. No condition. -/
import Derived.Test.YtjeklnbfpehbeaaDoorM05
import Derived.Test.YtjeklnbfpehbeaaDoorM06
import Derived.Test.YtjeklnbfpehbeaaDoorM04
import Derived.Laws.StructEq
import Derived.Test.YtjeklnbfpehbeaaDoorM00
set_option linter.unusedVariables false
/- A range of runes that is not cut holds just the runes whose bytes lie between its ends' bytes, place by place. Condition: the range's ends have bytes. -/
namespace Go.Proofs.YtjeklnbfpehbeaaDoor

/-- A text lies in a sequence of ranges of bytes. -/
def inSeq : List (Nat × Nat) → List Nat → Prop
  | [], [] => True
  | r :: rs, x :: xs => r.1 ≤ x ∧ x ≤ r.2 ∧ inSeq rs xs
  | _, _ => False

theorem leaf1 {a b : Nat} (hab : a ≤ b) (hb : b < 128) (xs : List Nat) : inSeq ((enc a).zip (enc b)) xs ↔ ∃ r, okRune r ∧ a ≤ r ∧ r ≤ b ∧ enc r = xs := by
  have ea : enc a = [a] := if_pos (by omega)
  have eb : enc b = [b] := if_pos hb
  rw [ea, eb]
  constructor
  · match xs with
    | [] => intro h; exact h.elim
    | [x] =>
      rintro ⟨h1, h2, -⟩
      simp only at h1 h2
      exact ⟨x, ⟨by omega, by omega⟩, h1, h2, if_pos (by omega)⟩
    | _ :: _ :: _ => intro h; exact h.2.2.elim
  · rintro ⟨r, hr, h1, h2, rfl⟩
    rw [show enc r = [r] from if_pos (by omega)]
    exact ⟨h1, h2, trivial⟩

theorem leaf2 {a b : Nat} (hab : a ≤ b) (ha : 128 ≤ a) (hb : b < 2048) (h6 : a / 64 ≠ b / 64 → a % 64 = 0 ∧ b % 64 = 63) (xs : List Nat) : inSeq ((enc a).zip (enc b)) xs ↔ ∃ r, okRune r ∧ a ≤ r ∧ r ≤ b ∧ enc r = xs := by
  have e : ∀ r, 128 ≤ r → r < 2048 → enc r = [192 + r / 64, 128 + r % 64] := fun r h1 h2 => by rw [enc, if_neg (by omega), if_pos h2]
  rw [e a ha (by omega), e b (by omega) hb]
  constructor
  · match xs with
    | [] => intro h; exact h.elim
    | [_] => intro h; exact h.2.2.elim
    | [x, y] =>
      rintro ⟨h1, h2, h3, h4, -⟩
      simp only at h1 h2 h3 h4
      have k1 : a ≤ 64 * (x - 192) + (y - 128) := by by_cases q : a / 64 = b / 64 <;> omega
      have k2 : 64 * (x - 192) + (y - 128) ≤ b := by by_cases q : a / 64 = b / 64 <;> omega
      refine ⟨64 * (x - 192) + (y - 128), ⟨by omega, by omega⟩, k1, k2, ?_⟩
      rw [e _ (by omega) (by omega), show 192 + (64 * (x - 192) + (y - 128)) / 64 = x by omega, show 128 + (64 * (x - 192) + (y - 128)) % 64 = y by omega]
    | _ :: _ :: _ :: _ => intro h; exact h.2.2.2.2.elim
  · rintro ⟨r, hr, h1, h2, rfl⟩
    rw [e r (by omega) (by omega)]
    exact ⟨by simp only; omega, by simp only; omega, by simp only; by_cases q : a / 64 = b / 64 <;> omega, by simp only; by_cases q : a / 64 = b / 64 <;> omega, trivial⟩

set_option maxHeartbeats 2000000 in
theorem leaf3 {a b : Nat} (hab : a ≤ b) (ha : 2048 ≤ a) (hb : b < 65536) (oa : okRune a) (ob : okRune b) (hs : ¬ (a < 57344 ∧ 55295 < b)) (h6 : a / 64 ≠ b / 64 → a % 64 = 0 ∧ b % 64 = 63) (h12 : a / 4096 ≠ b / 4096 → a % 4096 = 0 ∧ b % 4096 = 4095) (xs : List Nat) : inSeq ((enc a).zip (enc b)) xs ↔ ∃ r, okRune r ∧ a ≤ r ∧ r ≤ b ∧ enc r = xs := by
  have e : ∀ r, 2048 ≤ r → r < 65536 → enc r = [224 + r / 4096, 128 + r / 64 % 64, 128 + r % 64] := fun r h1 h2 => by rw [enc, if_neg (by omega), if_neg (by omega), if_pos h2]
  have ob2 := ob.2
  have oa2 := oa.2
  rw [e a ha (by omega), e b (by omega) hb]
  constructor
  · match xs with
    | [] => intro h; exact h.elim
    | [_] => intro h; exact h.2.2.elim
    | [_, _] => intro h; exact h.2.2.2.2.elim
    | [x, y, z] =>
      rintro ⟨h1, h2, h3, h4, h5, h7, -⟩
      simp only at h1 h2 h3 h4 h5 h7
      obtain ⟨r, hr⟩ : ∃ r, r = 4096 * (x - 224) + 64 * (y - 128) + (z - 128) := ⟨_, rfl⟩
      have k1 : a ≤ r := by
        by_cases q : a / 4096 = b / 4096
        · by_cases q2 : a / 64 = b / 64 <;> omega
        · omega
      have k2 : r ≤ b := by
        by_cases q : a / 4096 = b / 4096
        · by_cases q2 : a / 64 = b / 64 <;> omega
        · omega
      refine ⟨r, ⟨by omega, by omega⟩, k1, k2, ?_⟩
      rw [e _ (by omega) (by omega), show 224 + r / 4096 = x by omega, show 128 + r / 64 % 64 = y by omega, show 128 + r % 64 = z by omega]
    | _ :: _ :: _ :: _ :: _ => intro h; exact h.2.2.2.2.2.2.elim
  · rintro ⟨r, hr, h1, h2, rfl⟩
    rw [e r (by omega) (by omega)]
    refine ⟨by simp only; omega, by simp only; omega, ?_, ?_, ?_, ?_, trivial⟩ <;> simp only
    · by_cases q : a / 4096 = b / 4096 <;> omega
    · by_cases q : a / 4096 = b / 4096 <;> omega
    · by_cases q2 : a / 64 = b / 64 <;> omega
    · by_cases q2 : a / 64 = b / 64 <;> omega
end Go.Proofs.YtjeklnbfpehbeaaDoor

/- A range of runes of four bytes that is not cut. Condition: the range's ends have bytes. -/
namespace Go.Proofs.YtjeklnbfpehbeaaDoor

theorem digits (a : Nat) : a = 262144 * (a / 262144) + 4096 * (a / 4096 % 64) + 64 * (a / 64 % 64) + a % 64 := by omega

theorem dig_mid {k a b r : Nat} (hk : 0 < k) (h1 : a ≤ r) (h2 : r ≤ b) (h : a / (k * 64) ≠ b / (k * 64) → a / k % 64 = 0 ∧ b / k % 64 = 63) : a / k % 64 ≤ r / k % 64 ∧ r / k % 64 ≤ b / k % 64 := by
  have m1 : a / k ≤ r / k := Nat.div_le_div_right h1
  have m2 : r / k ≤ b / k := Nat.div_le_div_right h2
  have d : ∀ x : Nat, x / (k * 64) = x / k / 64 := fun x => (Nat.div_div_eq_div_mul x k 64).symm
  rw [d, d] at h
  generalize a / k = A at *
  generalize b / k = C at *
  generalize r / k = R at *
  by_cases q : A / 64 = C / 64
  · omega
  · have := h q
    omega

set_option maxHeartbeats 2000000 in
theorem leaf4 {a b : Nat} (hab : a ≤ b) (ha : 65536 ≤ a) (hb : b ≤ 1114111) (h6 : a / 64 ≠ b / 64 → a % 64 = 0 ∧ b % 64 = 63) (h12 : a / 4096 ≠ b / 4096 → a % 4096 = 0 ∧ b % 4096 = 4095) (h18 : a / 262144 ≠ b / 262144 → a % 262144 = 0 ∧ b % 262144 = 262143) (xs : List Nat) : inSeq ((enc a).zip (enc b)) xs ↔ ∃ r, okRune r ∧ a ≤ r ∧ r ≤ b ∧ enc r = xs := by
  have e : ∀ r, 65536 ≤ r → enc r = [240 + r / 262144, 128 + r / 4096 % 64, 128 + r / 64 % 64, 128 + r % 64] := fun r h1 => by rw [enc, if_neg (by omega), if_neg (by omega), if_neg (by omega)]
  have da := digits a
  have db := digits b
  rw [e a ha, e b (by omega)]
  constructor
  · match xs with
    | [] => intro h; exact h.elim
    | [_] => intro h; exact h.2.2.elim
    | [_, _] => intro h; exact h.2.2.2.2.elim
    | [_, _, _] => intro h; exact h.2.2.2.2.2.2.elim
    | [x, y, z, t] =>
      rintro ⟨h1, h2, h3, h4, h5, h7, h8, h9, -⟩
      simp only at h1 h2 h3 h4 h5 h7 h8 h9
      have y1 : y - 128 < 64 := by have := Nat.mod_lt (b / 4096) (by decide : 64 > 0); omega
      have z1 : z - 128 < 64 := by have := Nat.mod_lt (b / 64) (by decide : 64 > 0); omega
      have t1 : t - 128 < 64 := by have := Nat.mod_lt b (by decide : 64 > 0); omega
      clear h6 h12 h18
      generalize a / 262144 = a3 at *
      generalize b / 262144 = b3 at *
      generalize a / 4096 % 64 = a2 at *
      generalize b / 4096 % 64 = b2 at *
      generalize a / 64 % 64 = a1 at *
      generalize b / 64 % 64 = b1 at *
      generalize a % 64 = a0 at *
      generalize b % 64 = b0 at *
      obtain ⟨r, hr⟩ : ∃ r, r = 262144 * (x - 240) + 4096 * (y - 128) + 64 * (z - 128) + (t - 128) := ⟨_, rfl⟩
      have k1 : a ≤ r := by omega
      have k2 : r ≤ b := by omega
      refine ⟨r, ⟨by omega, by omega⟩, k1, k2, ?_⟩
      rw [e _ (by omega), show 240 + r / 262144 = x by omega, show 128 + r / 4096 % 64 = y by omega, show 128 + r / 64 % 64 = z by omega, show 128 + r % 64 = t by omega]
    | _ :: _ :: _ :: _ :: _ :: _ => intro h; exact h.2.2.2.2.2.2.2.2.elim
  · rintro ⟨r, hr, h1, h2, rfl⟩
    rw [e r (by omega)]
    have m3 : a / 262144 ≤ r / 262144 := Nat.div_le_div_right h1
    have m3' : r / 262144 ≤ b / 262144 := Nat.div_le_div_right h2
    have m2 := dig_mid (k := 4096) (by decide) h1 h2 (fun q => by have := h18 q; omega)
    have m1 := dig_mid (k := 64) (by decide) h1 h2 (fun q => by have := h12 q; omega)
    have m0 := dig_mid (k := 1) (by decide) h1 h2 (fun q => by have := h6 (by simpa using q); simpa using this)
    simp only [Nat.div_one] at m0
    exact ⟨by simp only; omega, by simp only; omega, by simp only; omega, by simp only; omega, by simp only; omega, by simp only; omega, by simp only; omega, by simp only; omega, trivial⟩
end Go.Proofs.YtjeklnbfpehbeaaDoor

/- What is not cut is one sequence of ranges of bytes, and holds just its runes. Condition: the range's ends have bytes. -/
namespace Go.Proofs.YtjeklnbfpehbeaaDoor

theorem cut_none {a b : Nat} (hc : cut a b = none) : ¬ (a < 57344 ∧ 55295 < b) ∧ ¬ (a ≤ 127 ∧ 127 < b) ∧ ¬ (a ≤ 2047 ∧ 2047 < b) ∧ ¬ (a ≤ 65535 ∧ 65535 < b) ∧
    (b ≤ 127 ∨ (¬ (a / 64 ≠ b / 64 ∧ a % 64 ≠ 0) ∧ ¬ (a / 64 ≠ b / 64 ∧ b % 64 ≠ 63) ∧ ¬ (a / 4096 ≠ b / 4096 ∧ a % 4096 ≠ 0) ∧ ¬ (a / 4096 ≠ b / 4096 ∧ b % 4096 ≠ 4095) ∧ ¬ (a / 262144 ≠ b / 262144 ∧ a % 262144 ≠ 0) ∧ ¬ (a / 262144 ≠ b / 262144 ∧ b % 262144 ≠ 262143))) := by
  unfold cut at hc
  split at hc; · cases hc
  rename_i n0
  split at hc; · cases hc
  rename_i n1
  split at hc; · cases hc
  rename_i n2
  split at hc; · cases hc
  rename_i n3
  refine ⟨n0, n1, n2, n3, ?_⟩
  split at hc
  · rename_i n4; exact .inl n4
  right
  split at hc; · cases hc
  rename_i n5
  split at hc; · cases hc
  rename_i n6
  split at hc; · cases hc
  rename_i n7
  split at hc; · cases hc
  rename_i n8
  split at hc; · cases hc
  rename_i n9
  split at hc; · cases hc
  rename_i n10
  exact ⟨n5, n6, n7, n8, n9, n10⟩

theorem leaf_ok {a b : Nat} (h : okRange a b) (hc : cut a b = none) (xs : List Nat) : inSeq ((enc a).zip (enc b)) xs ↔ ∃ r, okRune r ∧ a ≤ r ∧ r ≤ b ∧ enc r = xs := by
  obtain ⟨oa, ob, hab⟩ := h
  have oa1 := oa.1
  have ob1 := ob.1
  obtain ⟨n0, n1, n2, n3, n4⟩ := cut_none hc
  by_cases c1 : b ≤ 127
  · exact leaf1 hab (by omega) xs
  rcases n4 with n4 | ⟨n5, n6, n7, n8, n9, n10⟩
  · exact absurd n4 c1
  have h6 : a / 64 ≠ b / 64 → a % 64 = 0 ∧ b % 64 = 63 := fun q => ⟨Decidable.byContradiction fun e => n5 ⟨q, e⟩, Decidable.byContradiction fun e => n6 ⟨q, e⟩⟩
  have h12 : a / 4096 ≠ b / 4096 → a % 4096 = 0 ∧ b % 4096 = 4095 := fun q => ⟨Decidable.byContradiction fun e => n7 ⟨q, e⟩, Decidable.byContradiction fun e => n8 ⟨q, e⟩⟩
  have h18 : a / 262144 ≠ b / 262144 → a % 262144 = 0 ∧ b % 262144 = 262143 := fun q => ⟨Decidable.byContradiction fun e => n9 ⟨q, e⟩, Decidable.byContradiction fun e => n10 ⟨q, e⟩⟩
  clear n5 n6 n7 n8 n9 n10 hc
  by_cases c2 : b < 2048
  · exact leaf2 hab (by omega) c2 h6 xs
  by_cases c3 : b < 65536
  · exact leaf3 hab (by omega) c3 oa ob n0 h6 h12 xs
  · exact leaf4 hab (by omega) ob1 h6 h12 h18 xs
end Go.Proofs.YtjeklnbfpehbeaaDoor

/- The parts of a range of runes, in their order, in plain numbers. Condition: the range's ends have bytes. -/
namespace Go.Proofs.YtjeklnbfpehbeaaDoor

def partsF : Nat → Nat → Nat → List (Nat × Nat)
  | 0, a, b => [(a, b)]
  | f + 1, a, b => match cut a b with
    | none => [(a, b)]
    | some (m, n) => partsF f a m ++ partsF f n b
/-- The parts of a range. -/
def parts (a b : Nat) : List (Nat × Nat) := partsF (rest a b) a b

theorem partsF_eq : ∀ (f g a b : Nat), okRange a b → rest a b ≤ f → rest a b ≤ g → partsF f a b = partsF g a b := by
  intro f
  induction f with
  | zero =>
    intro g a b h hf hg
    cases hc : cut a b with
    | none => cases g <;> simp [partsF, hc]
    | some mn =>
      obtain ⟨m, n⟩ := mn
      have := cut_rest h hc
      omega
  | succ f ih =>
    intro g a b h hf hg
    cases hc : cut a b with
    | none => cases g <;> simp [partsF, hc]
    | some mn =>
      obtain ⟨m, n⟩ := mn
      have h1 := cut_rest h hc
      obtain ⟨h2, h3, _⟩ := cut_ok h hc
      cases g with
      | zero => omega
      | succ g =>
        simp only [partsF, hc]
        rw [ih g a m h2 (by omega) (by omega), ih g n b h3 (by omega) (by omega)]

theorem parts_leaf {a b : Nat} (hc : cut a b = none) : parts a b = [(a, b)] := by
  unfold parts
  cases rest a b <;> simp [partsF, hc]
theorem parts_cut {a b m n : Nat} (h : okRange a b) (hc : cut a b = some (m, n)) : parts a b = parts a m ++ parts n b := by
  have h1 := cut_rest h hc
  obtain ⟨h2, h3, _⟩ := cut_ok h hc
  obtain ⟨k, hk⟩ : ∃ k, rest a b = k + 1 := ⟨rest a b - 1, by omega⟩
  unfold parts
  rw [hk]
  simp only [partsF, hc]
  rw [partsF_eq k (rest a m) a m h2 (by omega) (Nat.le_refl _), partsF_eq k (rest n b) n b h3 (by omega) (Nat.le_refl _)]

/-- By the cuts. -/
theorem parts_ind {P : Nat → Nat → Prop} (hl : ∀ a b, okRange a b → cut a b = none → P a b) (hs : ∀ a b m n, okRange a b → cut a b = some (m, n) → P a m → P n b → P a b) : ∀ (k a b : Nat), rest a b ≤ k → okRange a b → P a b := by
  intro k
  induction k with
  | zero =>
    intro a b hk h
    cases hc : cut a b with
    | none => exact hl a b h hc
    | some mn =>
      obtain ⟨m, n⟩ := mn
      have := cut_rest h hc
      omega
  | succ k ih =>
    intro a b hk h
    cases hc : cut a b with
    | none => exact hl a b h hc
    | some mn =>
      obtain ⟨m, n⟩ := mn
      have h1 := cut_rest h hc
      obtain ⟨h2, h3, _⟩ := cut_ok h hc
      exact hs a b m n h hc (ih a m (by omega) h2) (ih n b (by omega) h3)

theorem parts_len {a b : Nat} (h : okRange a b) : 1 ≤ (parts a b).length ∧ (parts a b).length ≤ rest a b + 1 :=
  parts_ind (P := fun a b => 1 ≤ (parts a b).length ∧ (parts a b).length ≤ rest a b + 1) (fun a b h hc => by rw [parts_leaf hc]; simp) (fun a b m n h hc h1 h2 => by
    have := cut_rest h hc
    rw [parts_cut h hc, List.length_append]
    omega) _ a b (Nat.le_refl _) h

/-- The texts of the parts are just the runes' bytes. -/
theorem parts_ok {a b : Nat} (h : okRange a b) (xs : List Nat) : (∃ q, q ∈ parts a b ∧ inSeq ((enc q.1).zip (enc q.2)) xs) ↔ ∃ r, okRune r ∧ a ≤ r ∧ r ≤ b ∧ enc r = xs :=
  parts_ind (P := fun a b => (∃ q, q ∈ parts a b ∧ inSeq ((enc q.1).zip (enc q.2)) xs) ↔ ∃ r, okRune r ∧ a ≤ r ∧ r ≤ b ∧ enc r = xs) (fun a b h hc => by
    rw [parts_leaf hc]
    simp only [List.mem_singleton, exists_eq_left]
    exact leaf_ok h hc xs) (fun a b m n h hc h1 h2 => by
    obtain ⟨h3, h4, h5, h6, h7⟩ := cut_ok h hc
    rw [parts_cut h hc]
    constructor
    · rintro ⟨q, hq, hx⟩
      rcases List.mem_append.1 hq with hq | hq
      · obtain ⟨r, r1, r2, r3, r4⟩ := h1.1 ⟨q, hq, hx⟩
        exact ⟨r, r1, ((h7 r r1).2 (.inl ⟨r2, r3⟩)).1, ((h7 r r1).2 (.inl ⟨r2, r3⟩)).2, r4⟩
      · obtain ⟨r, r1, r2, r3, r4⟩ := h2.1 ⟨q, hq, hx⟩
        exact ⟨r, r1, ((h7 r r1).2 (.inr ⟨r2, r3⟩)).1, ((h7 r r1).2 (.inr ⟨r2, r3⟩)).2, r4⟩
    · rintro ⟨r, r1, r2, r3, r4⟩
      rcases (h7 r r1).1 ⟨r2, r3⟩ with ⟨s1, s2⟩ | ⟨s1, s2⟩
      · obtain ⟨q, hq, hx⟩ := h1.2 ⟨r, r1, s1, s2, r4⟩
        exact ⟨q, List.mem_append.2 (.inl hq), hx⟩
      · obtain ⟨q, hq, hx⟩ := h2.2 ⟨r, r1, s1, s2, r4⟩
        exact ⟨q, List.mem_append.2 (.inr hq), hx⟩) _ a b (Nat.le_refl _) h
end Go.Proofs.YtjeklnbfpehbeaaDoor

/- The ranges that are still to be cut, in plain numbers: what one round does to them. Condition: the ranges' ends have bytes. -/
namespace Go.Proofs.YtjeklnbfpehbeaaDoor

/-- L is done, R is to come: the current range first. -/
structure Todo (a b : Nat) (L R : List (Nat × Nat)) : Prop where
  eq : L ++ R.flatMap (fun q => parts q.1 q.2) = parts a b
  ok : ∀ q, q ∈ R → okRange q.1 q.2

def load (R : List (Nat × Nat)) : Nat := (R.map fun q => 2 * rest q.1 q.2 + 1).sum

theorem Todo.start {a b : Nat} (h : okRange a b) : Todo a b [] [(a, b)] := ⟨by simp, by simpa using h⟩
theorem Todo.split {a b x y m n : Nat} {L R : List (Nat × Nat)} (h : Todo a b L ((x, y) :: R)) (hc : cut x y = some (m, n)) : Todo a b L ((x, m) :: (n, y) :: R) ∧ load ((x, m) :: (n, y) :: R) < load ((x, y) :: R) := by
  have ho := h.ok (x, y) (by simp)
  have hr : rest x m + rest n y + 1 ≤ rest x y := cut_rest ho hc
  obtain ⟨h1, h2, _⟩ := cut_ok ho hc
  refine ⟨⟨?_, ?_⟩, ?_⟩
  · have := h.eq
    simp only [List.flatMap_cons] at this ⊢
    rw [parts_cut ho hc] at this
    simpa [List.append_assoc] using this
  · intro q hq
    simp only [List.mem_cons] at hq
    rcases hq with rfl | rfl | hq
    · exact h1
    · exact h2
    · exact h.ok q (by simp [hq])
  · simp only [load, List.map_cons, List.sum_cons]
    omega
theorem Todo.leaf {a b x y : Nat} {L R : List (Nat × Nat)} (h : Todo a b L ((x, y) :: R)) (hc : cut x y = none) : Todo a b (L ++ [(x, y)]) R ∧ load R < load ((x, y) :: R) := by
  refine ⟨⟨?_, fun q hq => h.ok q (by simp [hq])⟩, ?_⟩
  · have := h.eq
    simp only [List.flatMap_cons] at this
    rw [parts_leaf hc] at this
    simpa [List.append_assoc] using this
  · simp only [load, List.map_cons, List.sum_cons]
    omega
theorem Todo.done {a b : Nat} {L : List (Nat × Nat)} (h : Todo a b L []) : L = parts a b := by simpa using h.eq
theorem Todo.len {a b : Nat} {L R : List (Nat × Nat)} (h : Todo a b L R) (hab : okRange a b) : L.length + R.length ≤ 19 := by
  have h1 : R.length ≤ (R.flatMap (fun q => parts q.1 q.2)).length := by
    have hok := h.ok
    clear h
    induction R with
    | nil => simp
    | cons q R ih =>
      have h2 := (parts_len (hok q (by simp))).1
      have h3 := ih (fun z hz => hok z (by simp [hz]))
      simp only [List.flatMap_cons, List.length_cons, List.length_append]
      omega
  have h2 := congrArg List.length h.eq
  rw [List.length_append] at h2
  have h3 := (parts_len hab).2
  have h4 := rest_le a b
  omega
end Go.Proofs.YtjeklnbfpehbeaaDoor

/- Package utf8's cutting of a range in memory: the rows that are done, the stack, the buffers. No condition. -/
namespace Go.Proofs.YtjeklnbfpehbeaaDoor
open Go.RowKit

/-- What the cutting may write: rows of sequences, stacks of ranges, buffers of bytes. -/
def UT (w : World) (B k : Nat) : Prop := B ≤ k ∧ ∃ cs t, w.heap[k]? = some (.cells cs t (0, 0)) ∧ (t = 135 ∨ t = 160 ∨ t = 5)

theorem ut_back {w w' : World} {B : Nat} (h : Fr (UT w B) w w') : ∀ i, i < w.heap.size → UT w' B i → UT w B i := by
  intro i hi hc
  by_cases e : UT w B i
  · exact e
  · obtain ⟨h1, cs, t, h2, h3⟩ := hc
    exact absurd ⟨h1, cs, t, (h.block i hi e).symm.trans h2, h3⟩ e
theorem ut_trans {w w1 w2 : World} {B : Nat} (h : Fr (UT w B) w w1) (k : Fr (UT w1 B) w1 w2) : Fr (UT w B) w w2 := h.trans k (ut_back h)
theorem ut_drop {w w1 : World} {B : Nat} (h : Fr (fun _ => False) w w1) : Fr (UT w B) w w1 := h.mono (fun _ _ h => h.elim)
theorem blk_ut {w : World} {B k : Nat} {cs : List Value} {t : TypeId} (h : Blk w k cs t) (h1 : t ≠ 135) (h2 : t ≠ 160) (h3 : t ≠ 5) : ¬ UT w B k := by
  rintro ⟨_, cs', t', h4, h5⟩
  unfold Blk at h
  rw [h] at h4
  injection h4 with h4
  injection h4 with _ h4
  subst h4
  rcases h5 with h5 | h5 | h5
  · exact h1 h5
  · exact h2 h5
  · exact h3 h5

/-- The rows that are done. -/
def Rows_ (w : World) (B : Nat) (v : Value) (L : List (Nat × Nat)) : Prop :=
  ∃ vs : List Value, w.ownsRow B 135 1 v L.length vs ∧ ∀ (i : Nat) (q : Nat × Nat), L[i]? = some q → ∃ u, vs[i]? = some u ∧ SeqAt w u ((enc q.1).zip (enc q.2))

theorem Rows_.fr {w w' : World} {B : Nat} {v : Value} {L : List (Nat × Nat)} {F : Nat → Prop} (h : Rows_ w B v L) (hf : Fr F w w') (h1 : ∀ k, v.ownBlock = some k → ¬ F k) (h2 : ∀ k cs, Blk w k cs 168 → ¬ F k) : Rows_ w' B v L := by
  obtain ⟨vs, h3, h4⟩ := h
  refine ⟨vs, own_fr h3 hf h1, fun i q hq => ?_⟩
  obtain ⟨u, h5, h6⟩ := h4 i q hq
  exact ⟨u, h5, h6.fr hf h2⟩

/-- The cutting under way: x to y is the current range, T the stack, L what is done. -/
structure UW (w0 w : World) (B rb sb eb : Nat) (rv sk : Value) (L T : List (Nat × Nat)) (x y : Nat) : Prop where
  rows : Rows_ w B rv L
  stk : w.ownsRow B 160 2 sk T.length (rgs T)
  cur : Blk w rb [.int .i32 (x : Int), .int .i32 (y : Int)] 160
  bs : ∃ cs : List Nat, cs.length = 4 ∧ Blk w sb (u8s cs) 5
  be : ∃ ce : List Nat, ce.length = 4 ∧ Blk w eb (u8s ce) 5
  nils : Nils w
  fr : Fr (UT w0 B) w0 w
  apart : sk.ownBlock ≠ some rb
  base : B ≤ w0.heap.size
  rbg : w0.heap.size ≤ rb
  gs : B ≤ sb
  ge : B ≤ eb
  b9 : 9 < B

section
variable {w0 w w' : World} {B rb sb eb : Nat} {rv sk : Value} {L T : List (Nat × Nat)} {x y : Nat}

theorem UW.drop (h : UW w0 w B rb sb eb rv sk L T x y) (hf : Fr (fun _ => False) w w') : UW w0 w' B rb sb eb rv sk L T x y := by
  obtain ⟨cs, h1, h2⟩ := h.bs
  obtain ⟨ce, h3, h4⟩ := h.be
  exact ⟨h.rows.fr hf (fun _ _ h => h) (fun _ _ _ h => h), own_fr h.stk hf (fun _ _ h => h), h.cur.fr hf (fun h => h), ⟨cs, h1, h2.fr hf (fun h => h)⟩, ⟨ce, h3, h4.fr hf (fun h => h)⟩, h.nils.fr hf (fun h => h) (fun h => h), h.fr.trans hf (fun _ _ h => h.elim), h.apart, h.base, h.rbg, h.gs, h.ge, h.b9⟩

/-- The current range is written anew. -/
theorem UW.setY (h : UW w0 w B rb sb eb rv sk L T x y) (z : Nat) : UW w0 (w.setCell ⟨rb, 1, none⟩ (.int .i32 (z : Int))) B rb sb eb rv sk L T x z := by
  have hF : Fr (fun k => k = rb) w (w.setCell ⟨rb, 1, none⟩ (.int .i32 (z : Int))) := Fr.setCell (F := fun k => k = rb) (p := ⟨rb, 1, none⟩) (Fr.refl _ w) (fun _ => rfl) _
  obtain ⟨cs, h1, h2⟩ := h.bs
  obtain ⟨ce, h3, h4⟩ := h.be
  obtain ⟨vs, h5, h6⟩ := h.rows
  have n : ∀ {k : Nat} {cs : List Value} {t : TypeId}, Blk w k cs t → t ≠ 160 → ¬ (k = rb) := fun hk ht e => by subst e; exact ht (hk.inj h.cur).2
  have hb9 := h.b9
  have hbs := h.base
  have hrb := h.rbg
  exact ⟨Rows_.fr ⟨vs, h5, h6⟩ hF (fun k hk e => by subst e; exact own_ne_blk h5 h.cur (by decide) hk) (fun k cs hk => n hk (by decide)), own_fr h.stk hF (fun k hk e => by subst e; exact h.apart hk), h.cur.set 1 _, ⟨cs, h1, h2.fr hF (n h2 (by decide))⟩, ⟨ce, h3, h4.fr hF (n h4 (by decide))⟩, h.nils.fr hF (by omega) (by omega), h.fr.trans hF (fun k hk e => by subst e; have := h.rbg; omega), h.apart, h.base, h.rbg, h.gs, h.ge, h.b9⟩

theorem UW.setX (h : UW w0 w B rb sb eb rv sk L T x y) (z : Nat) : UW w0 (w.setCell ⟨rb, 0, none⟩ (.int .i32 (z : Int))) B rb sb eb rv sk L T z y := by
  have hF : Fr (fun k => k = rb) w (w.setCell ⟨rb, 0, none⟩ (.int .i32 (z : Int))) := Fr.setCell (F := fun k => k = rb) (p := ⟨rb, 0, none⟩) (Fr.refl _ w) (fun _ => rfl) _
  obtain ⟨cs, h1, h2⟩ := h.bs
  obtain ⟨ce, h3, h4⟩ := h.be
  obtain ⟨vs, h5, h6⟩ := h.rows
  have n : ∀ {k : Nat} {cs : List Value} {t : TypeId}, Blk w k cs t → t ≠ 160 → ¬ (k = rb) := fun hk ht e => by subst e; exact ht (hk.inj h.cur).2
  have hb9 := h.b9
  have hbs := h.base
  have hrb := h.rbg
  exact ⟨Rows_.fr ⟨vs, h5, h6⟩ hF (fun k hk e => by subst e; exact own_ne_blk h5 h.cur (by decide) hk) (fun k cs hk => n hk (by decide)), own_fr h.stk hF (fun k hk e => by subst e; exact h.apart hk), h.cur.set 0 _, ⟨cs, h1, h2.fr hF (n h2 (by decide))⟩, ⟨ce, h3, h4.fr hF (n h4 (by decide))⟩, h.nils.fr hF (by omega) (by omega), h.fr.trans hF (fun k hk e => by subst e; have := h.rbg; omega), h.apart, h.base, h.rbg, h.gs, h.ge, h.b9⟩

/-- A range is pushed. -/
theorem UW.pushed (h : UW w0 w B rb sb eb rv sk L T x y) {q : Nat × Nat} {sk' : Value} (hf : Fr (fun k => sk.ownBlock = some k) w w') (ho : w'.ownsRow B 160 2 sk' (T ++ [q]).length (rgs (T ++ [q]))) (hn : sk'.ownBlock = sk.ownBlock ∨ ∃ k, sk'.ownBlock = some k ∧ w.heap.size ≤ k) :
    UW w0 w' B rb sb eb rv sk' L (T ++ [q]) x y := by
  obtain ⟨cs, h1, h2⟩ := h.bs
  obtain ⟨ce, h3, h4⟩ := h.be
  obtain ⟨vs, h5, h6⟩ := h.rows
  have n : ∀ {k : Nat} {cs : List Value} {t : TypeId}, Blk w k cs t → t ≠ 160 → ¬ (sk.ownBlock = some k) := fun hk ht => own_ne_blk h.stk hk (fun e => ht e.symm)
  have hge : ∀ k, sk.ownBlock = some k → B ≤ k := fun k hk => (own_lt' h.stk hk).1
  have hb9 := h.b9
  refine ⟨Rows_.fr ⟨vs, h5, h6⟩ hf (fun k hk e => own_ne_own h5 h.stk (by decide) hk e) (fun k cs hk => n hk (by decide)), ho, h.cur.fr hf h.apart, ⟨cs, h1, h2.fr hf (n h2 (by decide))⟩, ⟨ce, h3, h4.fr hf (n h4 (by decide))⟩, h.nils.fr hf (fun e => by have := hge _ e; omega) (fun e => by have := hge _ e; omega), ?_, ?_, h.base, h.rbg, h.gs, h.ge, h.b9⟩
  · refine ut_trans h.fr (hf.mono fun k hk e => ?_)
    rcases h.stk.2 with ⟨e0, _⟩ | ⟨g, cap, cur, e0, hb, hg, _⟩
    · rw [e0] at e; simp [Value.ownBlock] at e
    · rw [e0] at e
      simp [Value.ownBlock] at e
      subst e
      exact ⟨hb, _, _, hg, .inr (.inl rfl)⟩
  · intro e
    rcases hn with hn | ⟨k, hk, hge⟩
    · exact h.apart (hn.symm.trans e)
    · rw [hk] at e; injection e with e
      have := h.cur.lt
      omega

/-- A range is popped. -/
theorem UW.popped {q : Nat × Nat} (h : UW w0 w B rb sb eb rv sk L (T ++ [q]) x y) {sk' : Value} (hf : Fr (fun _ => False) w w') (ho : w'.ownsRow B 160 2 sk' T.length (rgs T)) (hn : sk'.ownBlock = sk.ownBlock) : UW w0 w' B rb sb eb rv sk' L T x y := by
  have h1 := h.drop hf
  exact ⟨h1.rows, ho, h1.cur, h1.bs, h1.be, h1.nils, h1.fr, fun e => h1.apart (hn.symm.trans e), h1.base, h1.rbg, h1.gs, h1.ge, h1.b9⟩

/-- A part is done. -/
theorem UW.rowed (h : UW w0 w B rb sb eb rv sk L T x y) {q : Nat × Nat} {rv' u : Value} {vs : List Value} (hvs : ∀ (i : Nat) (q : Nat × Nat), L[i]? = some q → ∃ u, vs[i]? = some u ∧ SeqAt w u ((enc q.1).zip (enc q.2))) (hlen : vs.length = L.length) (hown : w.ownsRow B 135 1 rv L.length vs)
    (hu : SeqAt w u ((enc q.1).zip (enc q.2))) (hf : Fr (fun k => rv.ownBlock = some k) w w') (ho : w'.ownsRow B 135 1 rv' (L.length + 1) (vs ++ [u])) : UW w0 w' B rb sb eb rv' sk (L ++ [q]) T x y := by
  obtain ⟨cs, h1, h2⟩ := h.bs
  obtain ⟨ce, h3, h4⟩ := h.be
  have n : ∀ {k : Nat} {cs : List Value} {t : TypeId}, Blk w k cs t → t ≠ 135 → ¬ (rv.ownBlock = some k) := fun hk ht => own_ne_blk hown hk (fun e => ht e.symm)
  have hge : ∀ k, rv.ownBlock = some k → B ≤ k := fun k hk => (own_lt' hown hk).1
  have hb9 := h.b9
  refine ⟨⟨vs ++ [u], by rw [List.length_append]; exact ho, fun i z hz => ?_⟩, own_fr h.stk hf (fun k hk e => own_ne_own h.stk hown (by decide) hk e), h.cur.fr hf (n h.cur (by decide)), ⟨cs, h1, h2.fr hf (n h2 (by decide))⟩, ⟨ce, h3, h4.fr hf (n h4 (by decide))⟩, h.nils.fr hf (fun e => by have := hge _ e; omega) (fun e => by have := hge _ e; omega), ?_, h.apart, h.base, h.rbg, h.gs, h.ge, h.b9⟩
  · rcases snoc_inv hz with hz | ⟨rfl, rfl⟩
    · obtain ⟨u', h5, h6⟩ := hvs i z hz
      exact ⟨u', by rw [List.getElem?_append_left (List.getElem?_eq_some_iff.1 h5).1]; exact h5, h6.fr hf (fun k cs hk => n hk (by decide))⟩
    · exact ⟨u, by rw [← hlen]; simp, hu.fr hf (fun k cs hk => n hk (by decide))⟩
  · refine ut_trans h.fr (hf.mono fun k hk e => ?_)
    rcases hown.2 with ⟨e0, _⟩ | ⟨g, cap, cur, e0, hb, hg, _⟩
    · rw [e0] at e; simp [Value.ownBlock] at e
    · rw [e0] at e
      simp [Value.ownBlock] at e
      subst e
      exact ⟨hb, _, _, hg, .inl rfl⟩
end
end Go.Proofs.YtjeklnbfpehbeaaDoor

/- Comparisons of package utf8's ranges. No condition. -/
namespace Go.Proofs.YtjeklnbfpehbeaaDoor
open Go.RowKit

theorem neq160_t (x y : Int) (h : ¬ (x = 65535 ∧ y = 0)) (W : World) : (binOp .neq 160 (.agg #[.int .i32 x, .int .i32 y]) (.agg #[.int .i32 65535, .int .i32 0])).run Tryd.prog W = .ok (.bool true) W := by
  have u : Tryd.prog.underlying 160 = some (.struct (Tryd.prog.fieldsOf 160)) := by kernel_rfl
  have p : Tryd.prog.stoodInHeld 160 = false := by kernel_rfl
  rw [run_neq_struct, run_equalIn_agg _ _ _ _ _ u p]
  simp [go_sem]
  intro h1 h2
  exact absurd ⟨h1, h2⟩ h
theorem neq160_f (W : World) : (binOp .neq 160 (.agg #[.int .i32 65535, .int .i32 0]) (.agg #[.int .i32 65535, .int .i32 0])).run Tryd.prog W = .ok (.bool false) W := by
  have u : Tryd.prog.underlying 160 = some (.struct (Tryd.prog.fieldsOf 160)) := by kernel_rfl
  have p : Tryd.prog.stoodInHeld 160 = false := by kernel_rfl
  rw [run_neq_struct, run_equalIn_agg _ _ _ _ _ u p]
  simp [go_sem]
theorem neq168_t (x y : Int) (h : x ≠ 255) (W : World) : (binOp .neq 168 (.agg #[.int .u8 x, .int .u8 y]) (.agg #[.int .u8 255, .int .u8 0])).run Tryd.prog W = .ok (.bool true) W := by
  have u : Tryd.prog.underlying 168 = some (.struct (Tryd.prog.fieldsOf 168)) := by kernel_rfl
  have p : Tryd.prog.stoodInHeld 168 = false := by kernel_rfl
  rw [run_neq_struct, run_equalIn_agg _ _ _ _ _ u p]
  simp [go_sem]
  intro h1
  exact absurd h1 h
theorem neq168_f (W : World) : (binOp .neq 168 (.agg #[.int .u8 255, .int .u8 0]) (.agg #[.int .u8 255, .int .u8 0])).run Tryd.prog W = .ok (.bool false) W := by
  have u : Tryd.prog.underlying 168 = some (.struct (Tryd.prog.fieldsOf 168)) := by kernel_rfl
  have p : Tryd.prog.stoodInHeld 168 = false := by kernel_rfl
  rw [run_neq_struct, run_equalIn_agg _ _ _ _ _ u p]
  simp [go_sem]

theorem msk (j P : Nat) (M : Int) (hP : P = 2 ^ j) (hM : M = ((2 ^ j - 1 : Nat) : Int)) (hj : j ≤ 20) (hx : bits .xor .i32 (-1) M = -((2 ^ j : Nat) : Int)) {x : Nat} (h : x < 2097152) :
    bits .and .i32 (x : Int) (bits .xor .i32 (-1) M) = ((P * (x / P) : Nat) : Int) ∧ bits .and .i32 (x : Int) M = ((x % P : Nat) : Int) ∧ bits .or .i32 (x : Int) M = ((P * (x / P) + (P - 1) : Nat) : Int) := by
  rw [hx, hM, hP]
  exact ⟨and_high h hj, and_mask h hj, or_mask h hj⟩
theorem msk6 {x : Nat} (h : x < 2097152) : bits .and .i32 (x : Int) (bits .xor .i32 (-1) 63) = ((64 * (x / 64) : Nat) : Int) ∧ bits .and .i32 (x : Int) 63 = ((x % 64 : Nat) : Int) ∧ bits .or .i32 (x : Int) 63 = ((64 * (x / 64) + 63 : Nat) : Int) := msk 6 64 63 rfl rfl (by decide) (by decide +kernel) h
theorem msk12 {x : Nat} (h : x < 2097152) : bits .and .i32 (x : Int) (bits .xor .i32 (-1) 4095) = ((4096 * (x / 4096) : Nat) : Int) ∧ bits .and .i32 (x : Int) 4095 = ((x % 4096 : Nat) : Int) ∧ bits .or .i32 (x : Int) 4095 = ((4096 * (x / 4096) + 4095 : Nat) : Int) := msk 12 4096 4095 rfl rfl (by decide) (by decide +kernel) h
theorem msk18 {x : Nat} (h : x < 2097152) : bits .and .i32 (x : Int) (bits .xor .i32 (-1) 262143) = ((262144 * (x / 262144) : Nat) : Int) ∧ bits .and .i32 (x : Int) 262143 = ((x % 262144 : Nat) : Int) ∧ bits .or .i32 (x : Int) 262143 = ((262144 * (x / 262144) + 262143 : Nat) : Int) := msk 18 262144 262143 rfl rfl (by decide) (by decide +kernel) h

theorem enc_len_eq {a b : Nat} (h0 : a ≤ b) (hb : 127 < b) (h1 : ¬ (a ≤ 127 ∧ 127 < b)) (h2 : ¬ (a ≤ 2047 ∧ 2047 < b)) (h3 : ¬ (a ≤ 65535 ∧ 65535 < b)) : (enc a).length = (enc b).length ∧ 2 ≤ (enc a).length ∧ (enc a).length ≤ 4 := by
  unfold enc
  by_cases c1 : a < 2048
  · rw [if_neg (by omega), if_pos c1, if_neg (by omega), if_pos (by omega)]; simp
  · by_cases c2 : a < 65536
    · rw [if_neg (by omega), if_neg c1, if_pos c2, if_neg (by omega), if_neg (by omega), if_pos (by omega)]; simp
    · rw [if_neg (by omega), if_neg c1, if_neg c2, if_neg (by omega), if_neg (by omega), if_neg (by omega)]; simp
theorem enc_byte {r : Nat} (h : okRune r) : ∀ x, x ∈ enc r → x < 256 := by
  have := h.1
  unfold enc
  split
  · simp; omega
  split
  · simp; omega
  split
  · simp; omega
  · simp; omega

/-- The buffers are written anew. -/
theorem UW.bufs {w0 w w' : World} {B rb sb eb : Nat} {rv sk : Value} {L T : List (Nat × Nat)} {x y : Nat} (h : UW w0 w B rb sb eb rv sk L T x y) {cs ce : List Nat} (l1 : cs.length = 4) (l2 : ce.length = 4) (b1 : Blk w' sb (u8s cs) 5) (b2 : Blk w' eb (u8s ce) 5) (hf : Fr (fun k => k = sb ∨ k = eb) w w') : UW w0 w' B rb sb eb rv sk L T x y := by
  obtain ⟨cs0, h1, h2⟩ := h.bs
  obtain ⟨ce0, h3, h4⟩ := h.be
  have n : ∀ {k : Nat} {cs : List Value} {t : TypeId}, Blk w k cs t → t ≠ 5 → ¬ (k = sb ∨ k = eb) := fun hk ht e => by
    rcases e with rfl | rfl
    · exact ht (hk.inj h2).2
    · exact ht (hk.inj h4).2
  have hb9 := h.b9
  have hgs := h.gs
  have hge := h.ge
  obtain ⟨vs, h5, h6⟩ := h.rows
  refine ⟨Rows_.fr ⟨vs, h5, h6⟩ hf (fun k hk e => ?_) (fun k cs hk => n hk (by decide)), own_fr h.stk hf (fun k hk e => ?_), h.cur.fr hf (n h.cur (by decide)), ⟨cs, l1, b1⟩, ⟨ce, l2, b2⟩, h.nils.fr hf (by omega) (by omega), ut_trans h.fr (hf.mono fun k hk e => ?_), h.apart, h.base, h.rbg, h.gs, h.ge, h.b9⟩
  · rcases e with rfl | rfl
    · exact own_ne_blk h5 h2 (by decide) hk
    · exact own_ne_blk h5 h4 (by decide) hk
  · rcases e with rfl | rfl
    · exact own_ne_blk h.stk h2 (by decide) hk
    · exact own_ne_blk h.stk h4 (by decide) hk
  · rcases e with rfl | rfl
    · exact ⟨hgs, _, _, h2, .inr (.inr rfl)⟩
    · exact ⟨hge, _, _, h4, .inr (.inr rfl)⟩
end Go.Proofs.YtjeklnbfpehbeaaDoor

/- A region that draws its order, walked once, as in Draw; besides, readers that yield one value in whatever world, and for which nobody waits. No condition. -/
namespace Go.Proofs.YtjeklnbfpehbeaaDoor
open Go

section
variable {P : Program} {ops : Array Oper} {Q : Exit → Act → World → Prop} {md : Region.Mode} {S : World → Prop} {pu fin : Nat → Bool}

/-- What is known behind an operation: a pure one leaves the world; another one that is not marked leaves S. -/
def clm (S : World → Prop) (pu fin : Nat → Bool) (i : Nat) (w w' : World) : Prop := if pu i = true then w' = w else fin i = false → S w'

def anyV (P : Program) (md : Region.Mode) (ops : Array Oper) (Q : Exit → Act → World → Prop) (S : World → Prop) (pu fin : Nat → Bool) : Nat → Array Bool → Act → World → Prop
  | 0, listed, a, w => Region.ready md ops listed = [] ∧ Q .normal a w
  | n + 1, listed, a, w => (Region.ready md ops listed = [] → Q .normal a w) ∧
      ∀ i, i ∈ Region.ready md ops listed → wpOp P ops Q i (fun a' w' => clm S pu fin i w w' ∧ anyV P md ops Q S pu fin n (listed.setIfInBounds i true) a' w') a w

theorem anyV_any : ∀ (n : Nat) (listed : Array Bool) (a : Act) (w : World), anyV P md ops Q S pu fin n listed a w → wpAny P md ops Q n listed a w
  | 0, _, _, _, h => h
  | n + 1, _, _, _, h => ⟨h.1, fun i hi => wpOp_mono (fun a' w' h' => anyV_any n _ a' w' h'.2) (h.2 i hi)⟩

/-- A reader that may come up may come up first. -/
theorem anyV_first {i : Nat} {oi : Oper} {v : Value} (hi : ops[i]? = some oi) (hsel : Region.noSelect ops = true) (hQ : ∀ c a w, Q (.panic c) (a.put oi.dst v) w → Q (.panic c) a w)
    (R : World → Prop) (hc : ∀ w, R w → clm S pu fin i w w)
    (hfin : ∀ j oj w w', ops[j]? = some oj → R w → clm S pu fin j w w' → R w' ∨ j = i ∨ ∃ e, e ∈ oj.after ∧ Region.binds md e = true ∧ e.on = i) :
    ∀ (n : Nat) (listed : Array Bool) (a : Act) (w : World),
      (∀ j oj, ops[j]? = some oj → j ≠ i → listed.getD j true = false → (∀ e ∈ oj.after, Region.binds md e = true → e.on ≠ i) → oi.apart ops oj = true) →
      i ∈ Region.ready md ops listed → YieldsIf P ops R oi v a → R w →
      anyV P md ops Q S pu fin n (listed.setIfInBounds i true) (a.put oi.dst v) w → anyV P md ops Q S pu fin (n + 1) listed a w := by
  have hs := Region.noSelect_spec hsel
  intro n
  induction n with
  | zero =>
    intro listed a w _ hr hy hS H
    refine ⟨fun h0 => (by rw [h0] at hr; cases hr), fun j hj => ?_⟩
    rcases Nat.decEq j i with hji | hji
    · have hno := H.1
      have hm := ready_mono hj hji
      rw [hno] at hm
      cases hm
    · subst hji
      exact hy.wpOp hi hS ⟨hc w hS, H⟩
  | succ n ih =>
    intro listed a w hfree hr hy hS H
    refine ⟨fun h0 => (by rw [h0] at hr; cases hr), fun j hj => ?_⟩
    rcases Nat.decEq j i with hji | hji
    · obtain ⟨hun, oj, hoj, hall⟩ := mem_ready.1 hj
      have hiun := (mem_ready.1 hr).1
      have hwait : ∀ e ∈ oj.after, Region.binds md e = true → e.on ≠ i := by
        intro e he hb heq
        have h1 := hall e he hb
        rw [heq] at h1
        rcases Nat.lt_or_ge i listed.size with hlt | hge
        · simp only [Array.getD_eq_getD_getElem?, Array.getElem?_eq_getElem hlt, Option.getD_some] at h1 hiun
          rw [h1] at hiun; cases hiun
        · simp only [Array.getD_eq_getD_getElem?, Array.getElem?_eq_none hge, Option.getD_none] at h1
          cases h1
      have hkeep : ∀ w', clm S pu fin j w w' → R w' := fun w' hcl => by
        rcases hfin j oj w w' hoj hS hcl with h | e0 | ⟨e, he, hb, heq⟩
        · exact h
        · exact absurd e0 hji
        · exact absurd heq (hwait e he hb)
      have step := wpOp_putIf hoj (hfree j oj hoj hji hun hwait) (fun cs b => hs i oi cs b hi) (fun cs b => hs j oj cs b hoj) hQ hy (H.2 j (ready_mono hj hji))
      refine wpOp_mono (fun a' w' h3 => ⟨h3.2.1, ?_⟩) step
      refine ih (listed.setIfInBounds j true) a' w' (fun k ok hk hki hku hkw => hfree k ok hk hki ?_ hkw) (ready_mono hr (Ne.symm hji)) h3.1 (hkeep w' h3.2.1) ?_
      · rcases Nat.decEq j k with hjk | hjk
        · rwa [getD_set_ne true hjk] at hku
        · subst hjk; exact hun
      · have := h3.2.2
        rwa [Array.setIfInBounds_comm _ _ hji]
    · subst hji
      exact hy.wpOp hi hS ⟨hc w hS, H⟩

/-- The order that is walked. rd: the readers; pu: those of them that are pure. -/
def greedyV (md : Region.Mode) (ops : Array Oper) (rd pu fin : Nat → Bool) : List Nat → Array Bool → Bool
  | [], listed => (Region.ready md ops listed).isEmpty
  | i :: r, listed => (if rd i then (Region.ready md ops listed).contains i && Region.free md ops listed i else Region.ready md ops listed == [i] && !pu i && (!fin i || r.all fun j => !rd j || pu j)) && greedyV md ops rd pu fin r (listed.setIfInBounds i true)
/-- What is marked waits for every reader that is not pure. -/
def marksV (md : Region.Mode) (ops : Array Oper) (rd pu fin : Nat → Bool) : Bool :=
  (List.range ops.size).all fun j => !fin j || (List.range ops.size).all fun i => !rd i || pu i || j == i || match ops[j]? with | some oj => oj.after.any (fun e => Region.binds md e && e.on == i) | none => false

def seqV (P : Program) (ops : Array Oper) (Q : Exit → Act → World → Prop) (S : World → Prop) (rd pu fin : Nat → Bool) : List Nat → Act → World → Prop
  | [], a, w => Q .normal a w
  | i :: r, a, w => match ops[i]? with
    | none => False
    | some o => if rd i then ∃ v, YieldsIf P ops (fun w => pu i = true ∨ S w) o v a ∧ seqV P ops Q S rd pu fin r (a.put o.dst v) w else wpOp P ops Q i (fun a' w' => (fin i = false → S w') ∧ seqV P ops Q S rd pu fin r a' w') a w

theorem anyV_seq {rd : Nat → Bool} (hsel : Region.noSelect ops = true) (hQ : ∀ c a d v w, Q (.panic c) (a.put d v) w → Q (.panic c) a w) (hm : marksV md ops rd pu fin = true) :
    ∀ (l : List Nat) (listed : Array Bool) (a : Act) (w : World), greedyV md ops rd pu fin l listed = true → ((∃ j, j ∈ l ∧ rd j = true ∧ pu j = false) → S w) → seqV P ops Q S rd pu fin l a w → anyV P md ops Q S pu fin l.length listed a w
  | [], listed, a, w, hg, hS, h => ⟨by simpa [greedyV] using hg, h⟩
  | i :: l, listed, a, w, hg, hS, h => by
    simp only [greedyV, Bool.and_eq_true] at hg
    simp only [seqV] at h
    cases ho : ops[i]? with
    | none => rw [ho] at h; exact h.elim
    | some o =>
      rw [ho] at h
      simp only at h
      have hlt : i < ops.size := (Array.getElem?_eq_some_iff.1 ho).1
      cases hr : rd i with
      | true =>
        simp only [hr, if_true, Bool.and_eq_true] at hg h
        obtain ⟨⟨h1, h2⟩, h3⟩ := hg
        obtain ⟨v, hy, hk⟩ := h
        have hSw : pu i = true ∨ S w := by
          cases hp : pu i with
          | true => exact .inl rfl
          | false => exact .inr (hS ⟨i, by simp, hr, hp⟩)
        refine anyV_first ho hsel (fun c a w => hQ c a _ v w) (fun w => pu i = true ∨ S w) ?_ ?_ l.length listed a w (Region.free_spec ho h2) (by simpa using h1) hy hSw (anyV_seq hsel hQ hm l _ _ _ h3 (fun ⟨j, a1, a2⟩ => hS ⟨j, List.mem_cons_of_mem _ a1, a2⟩) hk)
        · intro w1 hw1
          unfold clm
          split
          · rfl
          · rename_i hp
            exact fun _ => hw1.resolve_left hp
        · intro j oj w1 w2 hoj hR hcl
          rcases hR with hR | hR
          · exact .inl (.inl hR)
          · unfold clm at hcl
            split at hcl
            · subst hcl; exact .inl (.inr hR)
            · cases hf : fin j with
              | false => exact .inl (.inr (hcl hf))
              | true =>
                cases hp : pu i with
                | true => exact .inl (.inl rfl)
                | false =>
                  right
                  have hj : j < ops.size := (Array.getElem?_eq_some_iff.1 hoj).1
                  have hm1 := List.all_eq_true.1 hm j (List.mem_range.2 hj)
                  simp only [hf, Bool.not_true, Bool.false_or] at hm1
                  have hm2 := List.all_eq_true.1 hm1 i (List.mem_range.2 hlt)
                  simp only [hr, hp, Bool.not_true, Bool.false_or, hoj, Bool.or_eq_true, beq_iff_eq] at hm2
                  rcases hm2 with hm2 | hm2
                  · exact .inl hm2
                  · obtain ⟨e, he, hb⟩ := Array.any_eq_true'.1 hm2
                    simp only [Bool.and_eq_true, beq_iff_eq] at hb
                    exact .inr ⟨e, he, hb.1, hb.2⟩
      | false =>
        simp only [hr, Bool.false_eq_true, if_false, Bool.and_eq_true, Bool.or_eq_true, Bool.not_eq_true', beq_iff_eq] at hg h
        obtain ⟨⟨⟨h1, h4⟩, h2⟩, h3⟩ := hg
        refine ⟨fun h0 => (by rw [h1] at h0; cases h0), fun j hj => ?_⟩
        rw [h1] at hj
        obtain rfl : j = i := by simpa using hj
        refine wpOp_mono (fun a' w' hk => ⟨by unfold clm; rw [h4]; simpa using hk.1, anyV_seq hsel hQ hm l _ _ _ h3 ?_ hk.2⟩) h
        rintro ⟨k, hk1, hk2, hk3⟩
        rcases h2 with h2 | h2
        · exact hk.1 h2
        · have := List.all_eq_true.1 h2 k hk1
          simp [hk2, hk3] at this

/-- A region that draws, walked in one order. -/
theorem wp_region_seqV {id : Nat} {a : Act} {w : World} (S : World → Prop) (rd pu fin : Nat → Bool) (l : List Nat) (hm : P.follows .mixedOrders = true) (hB : (Region.noSelect ops && marksV .any ops rd pu fin && greedyV .any ops rd pu fin l (Array.replicate ops.size false) && l.length == ops.size) = true)
    (hQ : ∀ c a d v w, Q (.panic c) (a.put d v) w → Q (.panic c) a w) (hS : S w.drew) (h : seqV P ops Q S rd pu fin l a w.drew) : (Code.region id ops true).wp P Q a w := by
  simp only [Bool.and_eq_true, beq_iff_eq] at hB
  obtain ⟨⟨⟨h1, h2⟩, h3⟩, h4⟩ := hB
  refine wp_region_any hm (anyV_any (S := S) (pu := pu) (fin := fin) _ _ _ _ ?_)
  rw [← h4]
  rw [← h4] at h3
  exact anyV_seq h1 hQ h2 l _ a _ h3 (fun _ => hS) h

/-- One reader. -/
theorem seqV_read {rd : Nat → Bool} {i : Nat} {o : Oper} {r : List Nat} {a : Act} {w : World} {v : Value} (hv : ∀ w', S w' → (execOp a.eval o).run P w' = .ok (.value v) w') (h : seqV P ops Q S rd pu fin r (a.put o.dst v) w)
    (ho : ops[i]? = some o) (hr : rd i = true) (hp : pu i = false) (hg : o.guard = none) : seqV P ops Q S rd pu fin (i :: r) a w := by
  simp only [seqV, ho, hr, if_true]
  exact ⟨v, .inl ⟨by simp [Region.wanted, hg], fun w' hw => hv w' (hw.resolve_left (by simp [hp]))⟩, h⟩
/-- One pure reader. -/
theorem seqV_pure {rd : Nat → Bool} {i : Nat} {o : Oper} {r : List Nat} {a : Act} {w : World} {v : Value} (hv : ∀ w', (execOp a.eval o).run P w' = .ok (.value v) w') (h : seqV P ops Q S rd pu fin r (a.put o.dst v) w)
    (ho : ops[i]? = some o) (hr : rd i = true) (hg : o.guard = none) : seqV P ops Q S rd pu fin (i :: r) a w := by
  simp only [seqV, ho, hr, if_true]
  exact ⟨v, .inl ⟨by simp [Region.wanted, hg], fun w' _ => hv w'⟩, h⟩

/-- One of the others. -/
theorem seqV_do {rd : Nat → Bool} {i : Nat} {o : Oper} {r : List Nat} {a : Act} {w : World} (ho : ops[i]? = some o) (hr : rd i = false)
    (h : ∀ K : Act → World → Prop, (∀ a' w', (fin i = false → S w') → seqV P ops Q S rd pu fin r a' w' → K a' w') → if Region.wanted o (yielded ops a.tmps) = true then o.wp P a w K Q else K (a.put o.dst undef) w) : seqV P ops Q S rd pu fin (i :: r) a w := by
  simp only [seqV, ho, hr, Bool.false_eq_true, if_false]
  unfold wpOp
  simp only [ho]
  have := h (fun a' w' => (fin i = false → S w') ∧ seqV P ops Q S rd pu fin r a' w') (fun a' w' h1 h2 => ⟨h1, h2⟩)
  split
  · rename_i hw; rw [if_pos hw] at this; exact .inl this
  · rename_i hw; rw [if_neg hw] at this; exact this
end
end Go.Proofs.YtjeklnbfpehbeaaDoor
