/- Where the parts of a written state lie in the bytes. Condition: short codes that go both ways. The reference's maps and their merge, as plain lists: they are a merge. No condition. The builder at its start, and the whole row of bytes of a map. No condition. One key more, as the builder does it: the common beginning, what is closed, what is laid. Condition: keys rise; less than 2^60 bytes. Words and small lemmas that the walks of this claim share: a block that is known whole, a frame (what may have been written), a sparse way of saying both. No condition. Rows of the call's own, appended to by one element: the kit's law in the words of this claim. Condition: the row stays below 2^47 bytes. Blocks with colours: what is written has one of some colours, so all that bears another one stays. No condition. -/
import Derived.Test.YtmhlnijpimjjaaaGreatDoorM01
import Derived.Test.YtmhlnijpimjjaaaGreatDoorChecked
import Derived.WalkKit
import Derived.Lib.Hide
import Derived.Deep.Draws
import Derived.Deep.QuietTactic
import Derived.BigQuiet
import Derived.WalkSpells
import Derived.WalkLawsBesides
import Derived.Deep.LoopGhost
import Derived.Deep.RegionHeld3
import Derived.Deep.RegionWith
import Derived.StillTailTactics
import Derived.Deep.Light
import Derived.Deep.DeepFit
import Derived.Deep.DeepMust
import Derived.Maps.AppendAt
import Derived.Deep.AppendLies
set_option linter.unusedSimpArgs false
set_option linter.unusedVariables false
namespace Go.Proofs.YtmhlnijpimjjaaaGreatDoor.Fmt

/-- So many bytes from a place on. -/
def cutN (D : List Nat) (p n : Nat) : List Nat := (D.drop p).take n
theorem cutN_len {D : List Nat} {p n : Nat} (h : p + n ≤ D.length) : (cutN D p n).length = n := by
 unfold cutN; simp; omega
theorem cutN_at {A X R : List Nat} {p n : Nat} (hp : A.length = p) (hn : X.length = n) : cutN (A ++ (X ++ R)) p n = X := by
 unfold cutN
 rw [List.drop_left' hp, List.take_left' hn]
theorem get_at {A R : List Nat} {x p : Nat} (hp : A.length = p) : (A ++ x :: R)[p]? = some x := by
 subst hp; simp
/-- The j-th of parts of one size. -/
theorem flat_split {α : Type} (f : α → List Nat) (sz : Nat) (hf : ∀ a, (f a).length = sz) : ∀ (l : List α) (j : Nat) (a : α), l[j]? = some a → ∃ X Y, l.flatMap f = X ++ (f a ++ Y) ∧ X.length = j * sz
 | [], j, a, h => by simp at h
 | b :: l, 0, a, h => by
  simp only [List.getElem?_cons_zero, Option.some.injEq] at h
  subst h
  exact ⟨[], l.flatMap f, by simp, by simp⟩
 | b :: l, j + 1, a, h => by
  simp only [List.getElem?_cons_succ] at h
  obtain ⟨X, Y, h1, h2⟩ := flat_split f sz hf l j a h
  refine ⟨f b ++ X, Y, by simp [h1], ?_⟩
  rw [List.length_append, hf, h2, Nat.add_mul]; omega
theorem flat_length {α : Type} (f : α → List Nat) (sz : Nat) (hf : ∀ a, (f a).length = sz) (l : List α) : (l.flatMap f).length = l.length * sz := by
 induction l with
 | nil => simp
 | cons a l ih => simp only [List.flatMap_cons, List.length_append, hf, ih, List.length_cons, Nat.add_mul]; omega

/-- A state of one transition, part by part. -/
structure OneAt (codes back : Nat → Nat) (D : List Nat) (S addr i o a : Nat) : Prop where
 ex : ∃ h k, D[addr]? = some h ∧ 128 ≤ h ∧ h < 256 ∧ addr < D.length ∧ (h % 64 = 0 ∧ k + 1 = addr ∧ D[k]? = some i ∨ h % 64 ≠ 0 ∧ k = addr ∧ back (h % 64) = i) ∧
  (h / 64 % 2 = 1 ∧ o = 0 ∧ a + 1 = k ∧ 16 ≤ k ∨
   h / 64 % 2 = 0 ∧ ∃ t u, t ≤ 8 ∧ u ≤ 8 ∧ 1 ≤ t ∧ S + u + t + 1 = k ∧ 16 ≤ S ∧ D[k - 1]? = some (t * 16 + u) ∧ unp (cutN D (S + u) t) = delta S a ∧ unp (cutN D S u) = o ∧ a < S)
theorem one_at {codes back : Nat → Nat} (hc : Codes codes back) {B0 R : List Nat} {last i o a : Nat} (h16 : 16 ≤ B0.length) (hi : i < 256) (ho : o < 2 ^ 64) (hs : B0.length < 2 ^ 64) (ha : a < B0.length) (hl : a = last → last + 1 = B0.length) :
  OneAt codes back (B0 ++ (encOne B0.length last codes i o a ++ R)) B0.length (B0.length + (encOne B0.length last codes i o a).length - 1) i o a := by
 have hcl := hc.lt i
 have hd : delta B0.length a < 2 ^ 64 := by unfold delta; split <;> omega
 unfold encOne
 by_cases h1 : o = 0 ∧ a = last
 ·rw [if_pos h1]
  obtain ⟨rfl, rfl⟩ := h1
  have hla := hl rfl
  by_cases h0 : codes i = 0
  ·simp only [h0, if_true]
   refine ⟨192, B0.length, ?_, by omega, by omega, by simp, .inl ⟨by omega, by simp, ?_⟩, .inl ⟨by omega, rfl, hla, h16⟩⟩
   ·have : B0 ++ ([i] ++ [192 + 0] ++ R) = (B0 ++ [i]) ++ 192 :: R := by simp
    rw [this]; exact get_at (by simp)
   ·have : B0 ++ ([i] ++ [192 + 0] ++ R) = B0 ++ i :: (192 :: R) := by simp
    rw [this]; exact get_at rfl
  ·simp only [if_neg h0, List.nil_append]
   refine ⟨192 + codes i, B0.length, ?_, by omega, by omega, by simp, .inr ⟨by omega, by simp, ?_⟩, .inl ⟨by omega, rfl, hla, h16⟩⟩
   ·have : B0 ++ ([192 + codes i] ++ R) = B0 ++ (192 + codes i) :: R := by simp
    rw [this]; exact get_at (by simp)
   ·rw [show (192 + codes i) % 64 = codes i by omega]; exact hc.inv i h0
 ·rw [if_neg h1]
  obtain ⟨p1, p2⟩ := psz_le (delta B0.length a)
  obtain ⟨q1, q2⟩ := psz_le o
  simp only
  generalize hO : (if o = 0 then 0 else psz o) = out
  have hout : out ≤ 8 := by rw [← hO]; split <;> omega
  have hof : o < 256 ^ out := by
   rw [← hO]
   by_cases hz : o = 0
   ·rw [if_pos hz, hz]; decide
   ·rw [if_neg hz]; exact psz_fit ho
  have hdf := psz_fit hd
  generalize psz (delta B0.length a) = far at *
  have k1 : ∀ X : List Nat, cutN (B0 ++ (pk o out ++ (pk (delta B0.length a) far ++ X))) (B0.length + out) far = pk (delta B0.length a) far := fun X => by
   have : B0 ++ (pk o out ++ (pk (delta B0.length a) far ++ X)) = (B0 ++ pk o out) ++ (pk (delta B0.length a) far ++ X) := by simp
   rw [this]; exact cutN_at (by simp [pk_len]) (pk_len _ _)
  have k2 : ∀ X : List Nat, cutN (B0 ++ (pk o out ++ X)) B0.length out = pk o out := fun X => cutN_at rfl (pk_len _ _)
  have k3 : ∀ X : List Nat, (B0 ++ (pk o out ++ (pk (delta B0.length a) far ++ (far * 16 + out) :: X)))[B0.length + out + far]? = some (far * 16 + out) := fun X => by
   have : B0 ++ (pk o out ++ (pk (delta B0.length a) far ++ (far * 16 + out) :: X)) = (B0 ++ (pk o out ++ pk (delta B0.length a) far)) ++ (far * 16 + out) :: X := by simp
   rw [this]; exact get_at (by simp [pk_len]; omega)
  by_cases h0 : codes i = 0
  ·simp only [h0, if_true]
   have eD : B0 ++ (pk o out ++ pk (delta B0.length a) far ++ [far * 16 + out] ++ [i] ++ [128 + 0] ++ R) = B0 ++ (pk o out ++ (pk (delta B0.length a) far ++ (far * 16 + out) :: (i :: 128 :: R))) := by simp
   have eL : B0.length + (pk o out ++ pk (delta B0.length a) far ++ [far * 16 + out] ++ [i] ++ [128 + 0]).length - 1 = B0.length + out + far + 1 + 1 := by simp [pk_len]; omega
   rw [eD, eL]
   refine ⟨128, B0.length + out + far + 1, ?_, by omega, by omega, by simp [pk_len]; omega, .inl ⟨by omega, rfl, ?_⟩, .inr ⟨by omega, far, out, p2, hout, p1, rfl, h16, ?_, ?_, ?_, ha⟩⟩
   ·have : B0 ++ (pk o out ++ (pk (delta B0.length a) far ++ (far * 16 + out) :: (i :: 128 :: R))) = (B0 ++ (pk o out ++ (pk (delta B0.length a) far ++ [far * 16 + out, i]))) ++ 128 :: R := by simp
    rw [this]; exact get_at (by simp [pk_len]; omega)
   ·have : B0 ++ (pk o out ++ (pk (delta B0.length a) far ++ (far * 16 + out) :: (i :: 128 :: R))) = (B0 ++ (pk o out ++ (pk (delta B0.length a) far ++ [far * 16 + out]))) ++ i :: 128 :: R := by simp
    rw [this]; exact get_at (by simp [pk_len]; omega)
   ·exact k3 _
   ·rw [k1, unp_pk _ _ hdf]
   ·rw [k2, unp_pk _ _ hof]
  ·simp only [if_neg h0, List.append_nil]
   have eD : B0 ++ (pk o out ++ pk (delta B0.length a) far ++ [far * 16 + out] ++ [128 + codes i] ++ R) = B0 ++ (pk o out ++ (pk (delta B0.length a) far ++ (far * 16 + out) :: ((128 + codes i) :: R))) := by simp
   have eL : B0.length + (pk o out ++ pk (delta B0.length a) far ++ [far * 16 + out] ++ [128 + codes i]).length - 1 = B0.length + out + far + 1 := by simp [pk_len]; omega
   rw [eD, eL]
   refine ⟨128 + codes i, B0.length + out + far + 1, ?_, by omega, by omega, by simp [pk_len]; omega, .inr ⟨by omega, rfl, ?_⟩, .inr ⟨by omega, far, out, p2, hout, p1, rfl, h16, ?_, ?_, ?_, ha⟩⟩
   ·have : B0 ++ (pk o out ++ (pk (delta B0.length a) far ++ (far * 16 + out) :: ((128 + codes i) :: R))) = (B0 ++ (pk o out ++ (pk (delta B0.length a) far ++ [far * 16 + out]))) ++ (128 + codes i) :: R := by simp
    rw [this]; exact get_at (by simp [pk_len]; omega)
   ·rw [show (128 + codes i) % 64 = codes i by omega]; exact hc.inv i h0
   ·exact k3 _
   ·rw [k1, unp_pk _ _ hdf]
   ·rw [k2, unp_pk _ _ hof]

/-- A state of many transitions, part by part: t, u the sizes; k: the place of the byte of sizes. -/
structure ManyAt (D : List Nat) (S addr : Nat) (s : Nd) : Prop where
 ex : ∃ h k t u, D[addr]? = some h ∧ h < 128 ∧ addr < D.length ∧ (h / 64 % 2 = 1 ↔ s.fin = true) ∧
  (h % 64 ≠ 0 ∧ k + 1 = addr ∧ s.arcs.length = h % 64 ∨ h % 64 = 0 ∧ k + 2 = addr ∧ ∃ x, D[k + 1]? = some x ∧ x < 256 ∧ s.arcs.length = if x = 1 then 256 else x) ∧
  D[k]? = some (t * 16 + u) ∧ t ≤ 8 ∧ u ≤ 8 ∧ 16 ≤ S ∧
  k = S + (if s.fin then u else 0) + s.arcs.length * u + s.arcs.length * t + s.arcs.length ∧
  (∀ j x, s.arcs[j]? = some x → D[k - 1 - j]? = some x.1 ∧ unp (cutN D (S + (if s.fin then u else 0) + s.arcs.length * u + (s.arcs.length - 1 - j) * t) t) = delta S x.2.2 ∧
   unp (cutN D (S + (if s.fin then u else 0) + (s.arcs.length - 1 - j) * u) u) = x.2.1 ∧ x.2.2 < S) ∧
  (s.fin = true → unp (cutN D S u) = s.fout)
theorem rev_get {α : Type} {l : List α} {j : Nat} {x : α} (h : l[j]? = some x) : l.reverse[l.length - 1 - j]? = some x := by
 have hj := (List.getElem?_eq_some_iff.1 h).1
 rw [List.getElem?_reverse (by omega), ← h]
 congr 1; omega
theorem many_at {B0 R : List Nat} {s : Nd} (h16 : 16 ≤ B0.length) (hs : B0.length < 2 ^ 64) (h : WfM B0.length s) : ManyAt (B0 ++ (encMany B0.length s ++ R)) B0.length (B0.length + (encMany B0.length s).length - 1) s := by
 obtain ⟨fin, fout, arcs⟩ := s
 have hlen := h.len
 have hno := h.no
 simp only at hlen hno
 unfold encMany
 simp only
 generalize hA : (decide (fout ≠ 0) || arcs.any fun a => decide (a.2.1 ≠ 0)) = any
 generalize hF : maxSz (arcs.map fun a => delta B0.length a.2.2) 0 = far
 generalize hO : (if any = true then maxSz (arcs.map fun a => a.2.1) (psz fout) else 0) = out
 have hf8 : far ≤ 8 := by rw [← hF]; exact maxSz_le _ _ (by omega)
 have ho8 : out ≤ 8 := by
  rw [← hO]
  split
  ·exact maxSz_le _ _ (psz_le fout).2
  ·omega
 have hdf : ∀ t, t ∈ arcs → delta B0.length t.2.2 < 256 ^ far := fun t ht => by
  have h1 := (maxSz_ge (arcs.map fun a => delta B0.length a.2.2) 0).2 (delta B0.length t.2.2) (List.mem_map.2 ⟨t, ht, rfl⟩)
  rw [hF] at h1
  have h2 : delta B0.length t.2.2 < 2 ^ 64 := by unfold delta; split <;> omega
  exact Nat.lt_of_lt_of_le (psz_fit h2) (pow_mono h1)
 have hof : ∀ t, t ∈ arcs → t.2.1 < 256 ^ out := fun t ht => by
  cases any with
  | true =>
   have h1 := (maxSz_ge (arcs.map fun a => a.2.1) (psz fout)).2 t.2.1 (List.mem_map.2 ⟨t, ht, rfl⟩)
   rw [← hO]
   simp only [if_true]
   exact Nat.lt_of_lt_of_le (psz_fit (h.out t ht)) (pow_mono h1)
  | false =>
   rw [Bool.or_eq_false_iff, List.any_eq_false] at hA
   have := hA.2 t ht
   simp at this
   rw [this]
   exact Nat.pow_pos (by decide)
 have hff : fout < 256 ^ out := by
  cases any with
  | true =>
   have h1 := (maxSz_ge (arcs.map fun a => a.2.1) (psz fout)).1
   rw [← hO]
   simp only [if_true]
   exact Nat.lt_of_lt_of_le (psz_fit h.fo) (pow_mono h1)
  | false =>
   rw [Bool.or_eq_false_iff] at hA
   have := hA.1
   simp at this
   rw [this]
   exact Nat.pow_pos (by decide)
 have hou : any = false → out = 0 := fun e => by rw [← hO, e]; rfl
 have eO : (if any = true then arcs.reverse.flatMap fun a : Nat × Nat × Nat => pk a.2.1 out else []) = arcs.reverse.flatMap fun a : Nat × Nat × Nat => pk a.2.1 out := by
  cases any with
  | true => rfl
  | false => rw [hou rfl]; simp [pk]
 have eF : (if (any && fin) = true then pk fout out else []) = if fin = true then pk fout out else [] := by
  cases any with
  | true => simp
  | false => rw [hou rfl]; simp [pk]
 rw [eO, eF]
 generalize hF0 : (if fin = true then pk fout out else []) = F0
 have lF0 : F0.length = if fin = true then out else 0 := by rw [← hF0]; split <;> simp [pk_len]
 have lO : (arcs.reverse.flatMap fun a : Nat × Nat × Nat => pk a.2.1 out).length = arcs.length * out := by rw [flat_length _ out (fun a => pk_len _ _)]; simp
 have lD : (arcs.reverse.flatMap fun a : Nat × Nat × Nat => pk (delta B0.length a.2.2) far).length = arcs.length * far := by rw [flat_length _ far (fun a => pk_len _ _)]; simp
 have lK : (arcs.reverse.map fun a : Nat × Nat × Nat => a.1).length = arcs.length := by simp
 -- everything but the tail behind the sizes
 have main : ∀ T : List Nat, let D := B0 ++ (F0 ++ ((arcs.reverse.flatMap fun a : Nat × Nat × Nat => pk a.2.1 out) ++ ((arcs.reverse.flatMap fun a : Nat × Nat × Nat => pk (delta B0.length a.2.2) far) ++ ((arcs.reverse.map fun a : Nat × Nat × Nat => a.1) ++ (far * 16 + out) :: T))));
   let k := B0.length + (if fin = true then out else 0) + arcs.length * out + arcs.length * far + arcs.length;
   D[k]? = some (far * 16 + out) ∧ (∀ j x, arcs[j]? = some x → D[k - 1 - j]? = some x.1 ∧ unp (cutN D (B0.length + (if fin = true then out else 0) + arcs.length * out + (arcs.length - 1 - j) * far) far) = delta B0.length x.2.2 ∧
   unp (cutN D (B0.length + (if fin = true then out else 0) + (arcs.length - 1 - j) * out) out) = x.2.1 ∧ x.2.2 < B0.length) ∧ (fin = true → unp (cutN D B0.length out) = fout) := by
  intro T
  simp only
  refine ⟨?_, fun j x hj => ?_, fun hf => ?_⟩
  ·have : B0 ++ (F0 ++ ((arcs.reverse.flatMap fun a : Nat × Nat × Nat => pk a.2.1 out) ++ ((arcs.reverse.flatMap fun a : Nat × Nat × Nat => pk (delta B0.length a.2.2) far) ++ ((arcs.reverse.map fun a : Nat × Nat × Nat => a.1) ++ (far * 16 + out) :: T)))) =
     (B0 ++ (F0 ++ ((arcs.reverse.flatMap fun a : Nat × Nat × Nat => pk a.2.1 out) ++ ((arcs.reverse.flatMap fun a : Nat × Nat × Nat => pk (delta B0.length a.2.2) far) ++ (arcs.reverse.map fun a : Nat × Nat × Nat => a.1))))) ++ (far * 16 + out) :: T := by simp
   rw [this]
   exact get_at (by simp only [List.length_append, lF0, lO, lD, lK]; omega)
  ·have hjl := (List.getElem?_eq_some_iff.1 hj).1
   have hr := rev_get hj
   have hx := List.mem_of_getElem? hj
   refine ⟨?_, ?_, ?_, h.adr x hx⟩
   ·have hk : (arcs.reverse.map fun a : Nat × Nat × Nat => a.1)[arcs.length - 1 - j]? = some x.1 := by rw [List.getElem?_map, hr]; rfl
    have : B0 ++ (F0 ++ ((arcs.reverse.flatMap fun a : Nat × Nat × Nat => pk a.2.1 out) ++ ((arcs.reverse.flatMap fun a : Nat × Nat × Nat => pk (delta B0.length a.2.2) far) ++ ((arcs.reverse.map fun a : Nat × Nat × Nat => a.1) ++ (far * 16 + out) :: T)))) =
     (B0 ++ (F0 ++ ((arcs.reverse.flatMap fun a : Nat × Nat × Nat => pk a.2.1 out) ++ (arcs.reverse.flatMap fun a : Nat × Nat × Nat => pk (delta B0.length a.2.2) far)))) ++ ((arcs.reverse.map fun a : Nat × Nat × Nat => a.1) ++ (far * 16 + out) :: T) := by simp
    rw [this, List.getElem?_append_right (by simp only [List.length_append, lF0, lO, lD]; omega), List.getElem?_append_left (by simp only [List.length_append, lF0, lO, lD, lK]; omega), ← hk]
    congr 1
    simp only [List.length_append, lF0, lO, lD]; omega
   ·obtain ⟨X, Y, e1, e2⟩ := flat_split (fun a : Nat × Nat × Nat => pk (delta B0.length a.2.2) far) far (fun a => pk_len _ _) arcs.reverse _ x hr
    rw [e1]
    have : ∀ Z, B0 ++ (F0 ++ ((arcs.reverse.flatMap fun a : Nat × Nat × Nat => pk a.2.1 out) ++ ((X ++ (pk (delta B0.length x.2.2) far ++ Y)) ++ Z))) = (B0 ++ (F0 ++ ((arcs.reverse.flatMap fun a : Nat × Nat × Nat => pk a.2.1 out) ++ X))) ++ (pk (delta B0.length x.2.2) far ++ (Y ++ Z)) := by intro Z; simp
    rw [this, cutN_at (by simp only [List.length_append, lF0, lO, e2]; omega) (pk_len _ _), unp_pk _ _ (hdf x hx)]
   ·obtain ⟨X, Y, e1, e2⟩ := flat_split (fun a : Nat × Nat × Nat => pk a.2.1 out) out (fun a => pk_len _ _) arcs.reverse _ x hr
    rw [e1]
    have : ∀ Z, B0 ++ (F0 ++ ((X ++ (pk x.2.1 out ++ Y)) ++ Z)) = (B0 ++ (F0 ++ X)) ++ (pk x.2.1 out ++ (Y ++ Z)) := by intro Z; simp
    rw [this, cutN_at (by simp only [List.length_append, lF0, e2]; omega) (pk_len _ _), unp_pk _ _ (hof x hx)]
  ·rw [if_pos hf] at hF0
   rw [← hF0, cutN_at rfl (pk_len _ _), unp_pk _ _ hff]
 have b1 : ∀ x : Nat, x < 64 → (x + (if fin = true then 64 else 0)) % 64 = x := fun x hx => by split <;> omega
 have b2 : ∀ x : Nat, x < 64 → ((x + (if fin = true then 64 else 0)) / 64 % 2 = 1 ↔ fin = true) := fun x hx => by
  cases fin with
  | true => simp; omega
  | false => simp; omega
 have b3 : ∀ x : Nat, x < 64 → x + (if fin = true then 64 else 0) < 128 := fun x hx => by split <;> omega
 by_cases c1 : arcs.length ≠ 0 ∧ ¬ 63 < arcs.length
 ·have m := main ([arcs.length + (if fin = true then 64 else 0)] ++ R)
  simp only at m
  rw [if_neg (show ¬ arcs.length = 256 by omega), if_neg (show ¬ (arcs.length = 0 ∨ 63 < arcs.length) by omega), if_neg c1.2]
  have eD : B0 ++ (F0 ++ (arcs.reverse.flatMap fun a : Nat × Nat × Nat => pk a.2.1 out) ++ (arcs.reverse.flatMap fun a : Nat × Nat × Nat => pk (delta B0.length a.2.2) far) ++ (arcs.reverse.map fun a : Nat × Nat × Nat => a.1) ++ [far * 16 + out] ++ [] ++ [arcs.length + (if fin = true then 64 else 0)] ++ R) =
    B0 ++ (F0 ++ ((arcs.reverse.flatMap fun a : Nat × Nat × Nat => pk a.2.1 out) ++ ((arcs.reverse.flatMap fun a : Nat × Nat × Nat => pk (delta B0.length a.2.2) far) ++ ((arcs.reverse.map fun a : Nat × Nat × Nat => a.1) ++ (far * 16 + out) :: ([arcs.length + (if fin = true then 64 else 0)] ++ R))))) := by simp
  have eL : B0.length + (F0 ++ (arcs.reverse.flatMap fun a : Nat × Nat × Nat => pk a.2.1 out) ++ (arcs.reverse.flatMap fun a : Nat × Nat × Nat => pk (delta B0.length a.2.2) far) ++ (arcs.reverse.map fun a : Nat × Nat × Nat => a.1) ++ [far * 16 + out] ++ [] ++ [arcs.length + (if fin = true then 64 else 0)]).length - 1 =
    (B0.length + (if fin = true then out else 0) + arcs.length * out + arcs.length * far + arcs.length) + 1 := by
   simp only [List.length_append, lF0, lO, lD, lK, List.length_cons, List.length_nil]; omega
  rw [eD, eL]
  refine ⟨arcs.length + (if fin = true then 64 else 0), _, far, out, ?_, b3 arcs.length (by omega), ?_, b2 arcs.length (by omega), .inl ⟨by rw [b1 arcs.length (by omega)]; exact c1.1, rfl, (b1 arcs.length (by omega)).symm⟩, m.1, hf8, ho8, h16, rfl, m.2⟩
  ·have : B0 ++ (F0 ++ ((arcs.reverse.flatMap fun a : Nat × Nat × Nat => pk a.2.1 out) ++ ((arcs.reverse.flatMap fun a : Nat × Nat × Nat => pk (delta B0.length a.2.2) far) ++ ((arcs.reverse.map fun a : Nat × Nat × Nat => a.1) ++ (far * 16 + out) :: ([arcs.length + (if fin = true then 64 else 0)] ++ R))))) =
     (B0 ++ (F0 ++ ((arcs.reverse.flatMap fun a : Nat × Nat × Nat => pk a.2.1 out) ++ ((arcs.reverse.flatMap fun a : Nat × Nat × Nat => pk (delta B0.length a.2.2) far) ++ ((arcs.reverse.map fun a : Nat × Nat × Nat => a.1) ++ [far * 16 + out]))))) ++ (arcs.length + (if fin = true then 64 else 0)) :: R := by simp
   rw [this]
   exact get_at (by simp only [List.length_append, lF0, lO, lD, lK, List.length_cons, List.length_nil]; omega)
  ·simp only [List.length_append, lF0, lO, lD, lK, List.length_cons, List.length_nil]; omega
 ·obtain ⟨x, hx, hxl, hxe⟩ : ∃ x, (if arcs.length = 256 then [1] else if arcs.length = 0 ∨ 63 < arcs.length then [arcs.length] else []) = [x] ∧ x < 256 ∧ arcs.length = if x = 1 then 256 else x := by
   by_cases c2 : arcs.length = 256
   ·exact ⟨1, by rw [if_pos c2], by omega, by rw [if_pos rfl]; exact c2⟩
   ·exact ⟨arcs.length, by rw [if_neg c2, if_pos (by omega)], by omega, by rw [if_neg (by omega)]⟩
  have hh : (if 63 < arcs.length then 0 else arcs.length) = 0 := by split <;> omega
  rw [hx, hh]
  have m := main (x :: [0 + (if fin = true then 64 else 0)] ++ R)
  simp only at m
  have eD : B0 ++ (F0 ++ (arcs.reverse.flatMap fun a : Nat × Nat × Nat => pk a.2.1 out) ++ (arcs.reverse.flatMap fun a : Nat × Nat × Nat => pk (delta B0.length a.2.2) far) ++ (arcs.reverse.map fun a : Nat × Nat × Nat => a.1) ++ [far * 16 + out] ++ [x] ++ [0 + (if fin = true then 64 else 0)] ++ R) =
    B0 ++ (F0 ++ ((arcs.reverse.flatMap fun a : Nat × Nat × Nat => pk a.2.1 out) ++ ((arcs.reverse.flatMap fun a : Nat × Nat × Nat => pk (delta B0.length a.2.2) far) ++ ((arcs.reverse.map fun a : Nat × Nat × Nat => a.1) ++ (far * 16 + out) :: (x :: [0 + (if fin = true then 64 else 0)] ++ R))))) := by simp
  have eL : B0.length + (F0 ++ (arcs.reverse.flatMap fun a : Nat × Nat × Nat => pk a.2.1 out) ++ (arcs.reverse.flatMap fun a : Nat × Nat × Nat => pk (delta B0.length a.2.2) far) ++ (arcs.reverse.map fun a : Nat × Nat × Nat => a.1) ++ [far * 16 + out] ++ [x] ++ [0 + (if fin = true then 64 else 0)]).length - 1 =
    (B0.length + (if fin = true then out else 0) + arcs.length * out + arcs.length * far + arcs.length) + 2 := by
   simp only [List.length_append, lF0, lO, lD, lK, List.length_cons, List.length_nil]; omega
  rw [eD, eL]
  have pre2 : ∀ T : List Nat, B0 ++ (F0 ++ ((arcs.reverse.flatMap fun a : Nat × Nat × Nat => pk a.2.1 out) ++ ((arcs.reverse.flatMap fun a : Nat × Nat × Nat => pk (delta B0.length a.2.2) far) ++ ((arcs.reverse.map fun a : Nat × Nat × Nat => a.1) ++ (far * 16 + out) :: T)))) =
     (B0 ++ (F0 ++ ((arcs.reverse.flatMap fun a : Nat × Nat × Nat => pk a.2.1 out) ++ ((arcs.reverse.flatMap fun a : Nat × Nat × Nat => pk (delta B0.length a.2.2) far) ++ ((arcs.reverse.map fun a : Nat × Nat × Nat => a.1) ++ [far * 16 + out]))))) ++ T := by intro T; simp
  refine ⟨0 + (if fin = true then 64 else 0), _, far, out, ?_, b3 _ (by omega), ?_, b2 _ (by omega), .inr ⟨b1 0 (by omega), rfl, x, ?_, hxl, hxe⟩, m.1, hf8, ho8, h16, rfl, m.2⟩
  ·rw [pre2]
   have : ∀ Z : List Nat, Z ++ (x :: [0 + (if fin = true then 64 else 0)] ++ R) = (Z ++ [x]) ++ (0 + (if fin = true then 64 else 0)) :: R := by intro Z; simp
   rw [this]
   exact get_at (by simp only [List.length_append, lF0, lO, lD, lK, List.length_cons, List.length_nil]; omega)
  ·simp only [List.length_append, lF0, lO, lD, lK, List.length_cons, List.length_nil]; omega
  ·rw [pre2]
   exact get_at (by simp only [List.length_append, lF0, lO, lD, lK, List.length_cons, List.length_nil]; omega)
theorem in_part {B0 X R : List Nat} (h16 : 16 ≤ B0.length) (hX : ∀ x, x ∈ X → x < 256) : ∀ p x, B0.length ≤ p → p ≤ B0.length + X.length - 1 → (B0 ++ (X ++ R))[p]? = some x → x < 256 := by
 intro p x h1 h2 h3
 rw [List.getElem?_append_right h1] at h3
 by_cases h4 : X.length = 0
 ·rw [h4] at h2; omega
 ·rw [List.getElem?_append_left (by omega)] at h3
  exact hX x (List.mem_of_getElem? h3)
/-- A written state is of one of the two forms; its bytes are bytes. -/
theorem Ok.view {codes back : Nat → Nat} (hc : Codes codes back) {B : List Nat} (hl : B.length < 2 ^ 64) {a : Nat} (h : Ok codes back B a) (h0 : a ≠ 0) (F : List Nat) :
  ∃ S, 16 ≤ S ∧ S ≤ a ∧ a < B.length ∧ (∀ p x, S ≤ p → p ≤ a → (B ++ F)[p]? = some x → x < 256) ∧ ((getB back B a).arcs.map fun t => t.1).Pairwise (· < ·) ∧ (∀ t, t ∈ (getB back B a).arcs → t.1 < 256 ∧ t.2.1 < 2 ^ 64 ∧ t.2.2 < S) ∧ (getB back B a).fout < 2 ^ 64 ∧
  ((∃ i o t, (getB back B a) = ⟨false, 0, [(i, o, t)]⟩ ∧ OneAt codes back (B ++ F) S a i o t) ∨ ManyAt (B ++ F) S a (getB back B a)) := by
 obtain ⟨B0, R, last, hB, h16, hw, hs, ha⟩ := h.cases' hc hl h0
 have hBl : B.length = B0.length + ((encNd B0.length last codes (getB back B a)).length + R.length) := by
  have := congrArg List.length hB
  simp only [List.length_append] at this
  exact this
 have hep := enc_pos B0.length last codes (getB back B a)
 have hB0 : B0.length < 2 ^ 64 := by omega
 have eB : B ++ F = B0 ++ (encNd B0.length last codes (getB back B a) ++ (R ++ F)) := by
  conv => lhs; rw [hB]
  simp
 have hby := in_part (R := R ++ F) h16 (enc_lt hc hw hB0)
 rw [← eB, ← ha] at hby
 refine ⟨B0.length, h16, by omega, by omega, hby, hw.inc, fun t ht => ⟨hw.byte t ht, hw.m.out t ht, hw.m.adr t ht⟩, hw.m.fo, ?_⟩
 clear hby hBl hep
 cases hn : getB back B a with
 | mk fin fout arcs =>
  rw [hn] at hw hs ha eB
  rw [eB, ha]
  unfold encNd
  split
  ·rename_i i o t h1 h2
   simp only at h1 h2
   subst h1 h2
   have h3 := hw.m.no rfl
   simp only at h3
   subst h3
   exact .inl ⟨i, o, t, rfl, one_at hc h16 (hw.byte (i, o, t) (by simp)) (hw.m.out (i, o, t) (by simp)) hB0 (hw.m.adr (i, o, t) (by simp)) (fun h => hw.last (i, o, t) (by simp) h)⟩
  ·exact .inr (many_at h16 hB0 hw.m)
end Go.Proofs.YtmhlnijpimjjaaaGreatDoor.Fmt
namespace Go.Proofs.YtmhlnijpimjjaaaGreatDoor.Fmt

/-- Keys in order, decided. -/
def ltb : List Nat → List Nat → Bool
 | [], [] => false
 | [], _ :: _ => true
 | _ :: _, [] => false
 | a :: x, b :: y => if a = b then ltb x y else decide (a < b)
theorem ltb_iff : ∀ x y : List Nat, ltb x y = true ↔ klt x y
 | [], [] => by simp [ltb, klt]
 | [], _ :: _ => by simp [ltb, klt]
 | _ :: _, [] => by simp [ltb, klt]
 | a :: x, b :: y => by
  simp only [ltb, klt]
  by_cases h : a = b
  ·rw [if_pos h, ltb_iff x y]
   constructor
   ·exact fun k => .inr ⟨h, k⟩
   ·rintro (k | k)
    ·omega
    ·exact k.2
  ·rw [if_neg h, decide_eq_true_iff]
   constructor
   ·exact .inl
   ·rintro (k | k)
    ·exact k
    ·exact absurd k.1 h
theorem ltb_false {x y : List Nat} (h : ltb x y = false) : x = y ∨ klt y x := by
 rcases klt_tri x y with k | k | k
 ·rw [(ltb_iff x y).2 k] at h; cases h
 ·exact .inl k
 ·exact .inr k
/-- Two maps put together: of one key the second one's. -/
def mm : Prs → Prs → Prs
 | [], b => b
 | p :: a, [] => p :: a
 | p :: a, q :: b => if ltb p.1 q.1 then p :: mm a (q :: b) else if p.1 = q.1 then mm a (q :: b) else q :: mm (p :: a) b
termination_by a b => a.length + b.length
theorem mm_nil (a : Prs) : mm a [] = a := by cases a <;> simp [mm]
theorem mm_mem : ∀ (n : Nat) (a b : Prs), a.length + b.length ≤ n → ∀ p, p ∈ mm a b → p ∈ a ∨ p ∈ b
 | _, [], b, _, p, h => by rw [mm] at h; exact .inr h
 | _, q :: a, [], _, p, h => by rw [mm] at h; exact .inl h
 | 0, q :: a, r :: b, hn, p, h => by simp at hn
 | n + 1, q :: a, r :: b, hn, p, h => by
  simp only [List.length_cons] at hn
  rw [mm] at h
  split at h
  ·rcases List.mem_cons.1 h with rfl | h
   ·exact .inl (by simp)
   ·rcases mm_mem n a (r :: b) (by simp; omega) p h with k | k
    ·exact .inl (by simp [k])
    ·exact .inr k
  ·split at h
   ·rcases mm_mem n a (r :: b) (by simp; omega) p h with k | k
    ·exact .inl (by simp [k])
    ·exact .inr k
   ·rcases List.mem_cons.1 h with rfl | h
    ·exact .inr (by simp)
    ·rcases mm_mem n (q :: a) b (by simp; omega) p h with k | k
     ·exact .inl k
     ·exact .inr (by simp [k])
theorem mm_len : ∀ (n : Nat) (a b : Prs), a.length + b.length ≤ n → (mm a b).length ≤ a.length + b.length
 | _, [], b, _ => by rw [mm]; simp
 | _, q :: a, [], _ => by rw [mm]; simp
 | 0, q :: a, r :: b, hn => by simp at hn
 | n + 1, q :: a, r :: b, hn => by
  simp only [List.length_cons] at hn
  rw [mm]
  have h1 := mm_len n a (r :: b) (by simp; omega)
  have h2 := mm_len n (q :: a) b (by simp; omega)
  simp only [List.length_cons] at h1 h2 ⊢
  split
  ·simp only [List.length_cons]; omega
  ·split
   ·omega
   ·simp only [List.length_cons]; omega
theorem mm_key : ∀ (n : Nat) (a b : Prs), a.length + b.length ≤ n → ∀ p, p ∈ a ∨ p ∈ b → ∃ v, (p.1, v) ∈ mm a b
 | _, [], b, _, p, h => by
  rw [mm]
  rcases h with h | h
  ·cases h
  ·exact ⟨p.2, h⟩
 | _, q :: a, [], _, p, h => by
  rw [mm]
  rcases h with h | h
  ·exact ⟨p.2, h⟩
  ·cases h
 | 0, q :: a, r :: b, hn, p, h => by simp at hn
 | n + 1, q :: a, r :: b, hn, p, h => by
  simp only [List.length_cons] at hn
  rw [mm]
  split
  ·rcases h with h | h
   ·rcases List.mem_cons.1 h with rfl | h
    ·exact ⟨p.2, by simp⟩
    ·obtain ⟨v, hv⟩ := mm_key n a (r :: b) (by simp; omega) p (.inl h)
     exact ⟨v, by simp [hv]⟩
   ·obtain ⟨v, hv⟩ := mm_key n a (r :: b) (by simp; omega) p (.inr h)
    exact ⟨v, by simp [hv]⟩
  ·split
   ·rename_i h1 h2
    rcases h with h | h
    ·rcases List.mem_cons.1 h with rfl | h
     ·obtain ⟨v, hv⟩ := mm_key n a (r :: b) (by simp; omega) r (.inr (by simp))
      exact ⟨v, by rw [h2]; exact hv⟩
     ·exact mm_key n a (r :: b) (by simp; omega) p (.inl h)
    ·exact mm_key n a (r :: b) (by simp; omega) p (.inr h)
   ·rcases h with h | h
    ·obtain ⟨v, hv⟩ := mm_key n (q :: a) b (by simp; omega) p (.inl h)
     exact ⟨v, by simp [hv]⟩
    ·rcases List.mem_cons.1 h with rfl | h
     ·exact ⟨p.2, by simp⟩
     ·obtain ⟨v, hv⟩ := mm_key n (q :: a) b (by simp; omega) p (.inr h)
      exact ⟨v, by simp [hv]⟩
theorem mm_srt : ∀ (n : Nat) (a b : Prs), a.length + b.length ≤ n → Srt a → Srt b → Srt (mm a b)
 | _, [], b, _, _, hb => by rw [mm]; exact hb
 | _, q :: a, [], _, ha, _ => by rw [mm]; exact ha
 | 0, q :: a, r :: b, hn, _, _ => by simp at hn
 | n + 1, q :: a, r :: b, hn, ha, hb => by
  simp only [List.length_cons] at hn
  have ha' := List.pairwise_cons.1 ha
  have hb' := List.pairwise_cons.1 hb
  rw [mm]
  split
  ·rename_i h1
   have h1 := (ltb_iff _ _).1 h1
   refine List.pairwise_cons.2 ⟨fun p hp => ?_, mm_srt n a (r :: b) (by simp; omega) ha'.2 hb⟩
   rcases mm_mem _ a (r :: b) (Nat.le_refl _) p hp with k | k
   ·exact ha'.1 p k
   ·rcases List.mem_cons.1 k with rfl | k
    ·exact h1
    ·exact klt_trans h1 (hb'.1 p k)
  ·split
   ·exact mm_srt n a (r :: b) (by simp; omega) ha'.2 hb
   ·rename_i h1 h2
    have h3 : klt r.1 q.1 := by
     have : ltb q.1 r.1 = false := by simpa using h1
     exact (ltb_false this).resolve_left h2
    refine List.pairwise_cons.2 ⟨fun p hp => ?_, mm_srt n (q :: a) b (by simp; omega) ha hb'.2⟩
    rcases mm_mem _ (q :: a) b (Nat.le_refl _) p hp with k | k
    ·rcases List.mem_cons.1 k with rfl | k
     ·exact h3
     ·exact klt_trans h3 (ha'.1 p k)
    ·exact hb'.1 p k
/-- The reference's Map; n: as many rounds as there are pairs serve. -/
def mapN : Nat → Prs → Prs
 | 0, l => l
 | n + 1, l => if l.length < 2 then l else mm (mapN n (l.take (l.length / 2))) (mapN n (l.drop (l.length / 2)))
def mapP (l : Prs) : Prs := mapN l.length l
theorem mapN_fuel : ∀ (n m : Nat) (l : Prs), l.length ≤ n → l.length ≤ m → mapN n l = mapN m l
 | 0, 0, l, _, _ => rfl
 | 0, m + 1, l, h, _ => by simp only [mapN]; rw [if_pos (by omega)]
 | n + 1, 0, l, _, h => by simp only [mapN]; rw [if_pos (by omega)]
 | n + 1, m + 1, l, h, k => by
  simp only [mapN]
  split
  ·rfl
  ·rw [mapN_fuel n m _ (by simp; omega) (by simp; omega), mapN_fuel n m _ (by simp; omega) (by simp; omega)]
theorem mapP_small {l : Prs} (h : l.length < 2) : mapP l = l := by
 unfold mapP
 cases hl : l.length with
 | zero => rfl
 | succ n => simp only [mapN]; rw [if_pos h]
theorem mapP_big {l : Prs} (h : ¬ l.length < 2) : mapP l = mm (mapP (l.take (l.length / 2))) (mapP (l.drop (l.length / 2))) := by
 unfold mapP
 obtain ⟨n, hn⟩ : ∃ n, l.length = n + 1 := ⟨l.length - 1, by omega⟩
 rw [show mapN l.length l = mm (mapN n (l.take (l.length / 2))) (mapN n (l.drop (l.length / 2))) by rw [hn]; simp only [mapN]; rw [if_neg (by omega), hn]]
 rw [mapN_fuel n _ _ (by simp; omega) (Nat.le_refl _), mapN_fuel n _ _ (by simp; omega) (Nat.le_refl _)]
theorem mapP_ok : ∀ (n : Nat) (l : Prs), l.length ≤ n → Srt (mapP l) ∧ (∀ p, p ∈ mapP l → p ∈ l) ∧ (∀ p, p ∈ l → ∃ v, (p.1, v) ∈ mapP l) ∧ (mapP l).length ≤ l.length
 | 0, l, h => by
  rw [mapP_small (by omega)]
  have : l = [] := List.length_eq_zero_iff.1 (by omega)
  subst this
  exact ⟨List.Pairwise.nil, fun _ h => h, fun _ h => (by cases h), Nat.le_refl _⟩
 | n + 1, l, h => by
  by_cases hl : l.length < 2
  ·rw [mapP_small hl]
   refine ⟨?_, fun _ h => h, fun p h => ⟨p.2, h⟩, Nat.le_refl _⟩
   rcases l with _ | ⟨a, _ | ⟨b, l⟩⟩
   ·exact List.Pairwise.nil
   ·exact List.pairwise_singleton _ _
   ·simp at hl; omega
  ·rw [mapP_big hl]
   obtain ⟨a1, a2, a3, a4⟩ := mapP_ok n (l.take (l.length / 2)) (by simp; omega)
   obtain ⟨b1, b2, b3, b4⟩ := mapP_ok n (l.drop (l.length / 2)) (by simp; omega)
   refine ⟨mm_srt _ _ _ (Nat.le_refl _) a1 b1, fun p hp => ?_, fun p hp => ?_, ?_⟩
   ·rcases mm_mem _ _ _ (Nat.le_refl _) p hp with k | k
    ·exact List.mem_of_mem_take (a2 p k)
    ·exact List.mem_of_mem_drop (b2 p k)
   ·rw [← List.take_append_drop (l.length / 2) l] at hp
    rcases List.mem_append.1 hp with hp | hp
    ·obtain ⟨v, hv⟩ := a3 p hp
     exact mm_key _ _ _ (Nat.le_refl _) (p.1, v) (.inl hv)
    ·obtain ⟨v, hv⟩ := b3 p hp
     exact mm_key _ _ _ (Nat.le_refl _) (p.1, v) (.inr hv)
   ·refine Nat.le_trans (mm_len _ _ _ (Nat.le_refl _)) ?_
    simp only [List.length_take, List.length_drop] at a4 b4
    omega
/-- The ways to put values together. -/
def jop (how a b : Nat) : Nat := if how = 0 then (if b < a then b else a) else if how = 1 then (if a < b then b else a) else (a + b) % 18446744073709551616
def jn (how : Nat) : List Nat → Nat
 | [] => 0
 | a :: l => l.foldl (jop how) a
theorem jop_lt {how a b : Nat} (ha : a < 2 ^ 64) (hb : b < 2 ^ 64) : jop how a b < 2 ^ 64 := by
 unfold jop
 split
 ·split <;> assumption
 ·split
  ·split <;> assumption
  ·exact Nat.mod_lt _ (by decide)
theorem jn_lt {how : Nat} {l : List Nat} (h : ∀ x, x ∈ l → x < 2 ^ 64) : jn how l < 2 ^ 64 := by
 cases l with
 | nil => simp [jn]
 | cons a l =>
  simp only [jn]
  have : ∀ (l : List Nat) (a : Nat), a < 2 ^ 64 → (∀ x, x ∈ l → x < 2 ^ 64) → l.foldl (jop how) a < 2 ^ 64 := by
   intro l
   induction l with
   | nil => intro a ha _; exact ha
   | cons b l ih => intro a ha hl; exact ih _ (jop_lt ha (hl b (by simp))) (fun x hx => hl x (by simp [hx]))
  exact this l a (h a (by simp)) (fun x hx => h x (by simp [hx]))
/-- The place of the first pair whose key is not less. -/
def fromN : Prs → List Nat → Nat
 | [], _ => 0
 | p :: l, k => if ltb p.1 k then fromN l k + 1 else 0
/-- What a map gives for a key, as the reference looks it up. -/
def lookV (l : Prs) (k : List Nat) : List Nat := match l[fromN l k]? with
 | some p => if p.1 = k then [p.2] else []
 | none => []
theorem lookV_eq : ∀ {l : Prs} (k : List Nat), Srt l → lookV l k = (l.filter fun p => decide (p.1 = k)).map fun p => p.2
 | [], k, _ => rfl
 | p :: l, k, h => by
  have h' := List.pairwise_cons.1 h
  unfold lookV fromN
  cases hb : ltb p.1 k with
  | true =>
   have hk := (ltb_iff _ _).1 hb
   have hne : ¬ p.1 = k := fun e => by rw [e] at hk; exact klt_irrefl _ hk
   have := lookV_eq (l := l) k h'.2
   unfold lookV at this
   simp only [if_true, List.getElem?_cons_succ]
   rw [this, List.filter_cons_of_neg (by simpa using hne)]
  | false =>
   simp only [Bool.false_eq_true, if_false, List.getElem?_cons_zero]
   have hrest : ∀ x, x ∈ l → ¬ x.1 = k := fun x hx e => by
    have h1 := h'.1 x hx
    rcases ltb_false hb with h2 | h2
    ·rw [h2, e] at h1; exact klt_irrefl _ h1
    ·rw [e] at h1; exact klt_irrefl _ (klt_trans h1 h2)
   have hf : (l.filter fun p => decide (p.1 = k)) = [] := List.filter_eq_nil_iff.2 fun x hx hd => hrest x hx (of_decide_eq_true hd)
   by_cases hk : p.1 = k
   ·rw [if_pos hk, List.filter_cons_of_pos (by simpa using hk), hf]; rfl
   ·rw [if_neg hk, List.filter_cons_of_neg (by simpa using hk), hf]; rfl
/-- The reference's merge. -/
def mergedP (sets : List Prs) (how : Nat) : Prs := (mapP sets.flatten).map fun p => (p.1, jn how (sets.flatMap fun l => lookV l p.1))
theorem mergedP_mrg (sets : List Prs) (how : Nat) (h : ∀ l, l ∈ sets → Srt l) : Mrg (jn how) sets (mergedP sets how) := by
 obtain ⟨a1, a2, a3, a4⟩ := mapP_ok _ sets.flatten (Nat.le_refl _)
 have hv : ∀ k, (sets.flatMap fun l => lookV l k) = valsOf sets k := fun k => by
  unfold valsOf
  exact flatMap_congr' _ (fun l hl => lookV_eq k (h l hl))
 refine ⟨?_, fun p => ?_⟩
 ·unfold Srt mergedP
  rw [List.pairwise_map]
  exact a1.imp fun hpq => hpq
 ·unfold mergedP
  rw [List.mem_map]
  constructor
  ·rintro ⟨q, hq, rfl⟩
   simp only
   rw [hv]
   obtain ⟨l, hl, hq'⟩ := List.mem_flatten.1 (a2 q hq)
   exact ⟨vals_mem.2 ⟨l, hl, q, hq', rfl⟩, rfl⟩
  ·rintro ⟨h1, h2⟩
   obtain ⟨l, hl, q, hq, hk⟩ := vals_mem.1 h1
   obtain ⟨v, hv'⟩ := a3 q (List.mem_flatten.2 ⟨l, hl, hq⟩)
   refine ⟨_, hv', ?_⟩
   simp only
   rw [hv, hk, ← h2]
end Go.Proofs.YtmhlnijpimjjaaaGreatDoor.Fmt
namespace Go.Proofs.YtmhlnijpimjjaaaGreatDoor.Fmt

def header : List Nat := pk 1 8 ++ pk 0 8
theorem header_len : header.length = 16 := by simp [header, pk_len]
def stack0 : List Un := [⟨⟨false, 0, []⟩, none⟩]
theorem BI.init (codes back : Nat → Nat) : BI codes back 27 header 1 [] stack0 [] := by
 refine ⟨by rw [header_len]; exact Nat.le_refl _, .inl rfl, fun q hq => by simp at hq, by simp [stack0, mean, own], ?_, fun q hq => by simp at hq, by simp [header_len, stack0, pot, pot1], ⟨[], _, rfl, by simp, rfl, by simp⟩⟩
 intro u hu
 simp only [stack0, List.mem_singleton] at hu
 subst hu
 exact ⟨by simp, by simp, by simp, by simp, by simp⟩
theorem Rst.init : Rst stack0 [] := ⟨by simp [stack0, along], fun Q v e => by
 have := (List.append_inj' (show [] ++ [(⟨⟨false, 0, []⟩, none⟩ : Un)] = Q ++ [v] from e) rfl).2
 simp only [List.cons.injEq, and_true] at this
 rw [← this]⟩
/-- The bytes of a map: header, states, how many pairs, the root's address. -/
structure File (codes back : Nat → Nat) (D : List Nat) (L : Prs) (B : List Nat) (root : Nat) : Prop where
 eq : D = B ++ (pk L.length 8 ++ pk root 8)
 len : B.length < 2 ^ 59
 h16 : 16 ≤ B.length
 ok : Ok codes back B root
 keys : keysAt (getB back B) root = L
 head : B.take 16 = header
 cnt : L.length < 2 ^ 60
theorem pk_bytes (v n : Nat) : ∀ x, x ∈ pk v n → x < 256 := pk_lt v n
theorem File.dlen {codes back : Nat → Nat} {D : List Nat} {L : Prs} {B : List Nat} {root : Nat} (h : File codes back D L B root) : D.length = B.length + 16 := by rw [h.eq]; simp [pk_len]
theorem File.get {codes back : Nat → Nat} {D : List Nat} {L : Prs} {B : List Nat} {root : Nat} (h : File codes back D L B root) {a : Nat} (ha : a < B.length) : getB back D a = getB back B a := by rw [h.eq]; exact getB_app back B _ ha
theorem File.root_lt {codes back : Nat → Nat} {D : List Nat} {L : Prs} {B : List Nat} {root : Nat} (h : File codes back D L B root) : root < B.length := by
 have := h.ok.lt
 have := h.h16
 omega
theorem File.count {codes back : Nat → Nat} {D : List Nat} {L : Prs} {B : List Nat} {root : Nat} (h : File codes back D L B root) : unp (cutN D B.length 8) = L.length := by
 have h1 := h.cnt
 rw [h.eq, cutN_at rfl (pk_len _ _), unp_pk _ _ (by simp only [Nat.reducePow] at *; omega)]
theorem File.rootAt {codes back : Nat → Nat} {D : List Nat} {L : Prs} {B : List Nat} {root : Nat} (h : File codes back D L B root) : unp (cutN D (B.length + 8) 8) = root := by
 have h1 := h.root_lt
 have h2 := h.len
 have e : B ++ (pk L.length 8 ++ pk root 8) = (B ++ pk L.length 8) ++ (pk root 8 ++ []) := by simp
 rw [h.eq, e, cutN_at (by simp [pk_len]) (pk_len _ _), unp_pk _ _ (by simp only [Nat.reducePow] at *; omega)]
theorem File.ver {codes back : Nat → Nat} {D : List Nat} {L : Prs} {B : List Nat} {root : Nat} (h : File codes back D L B root) : unp (cutN D 0 8) = 1 ∧ unp (cutN D 8 8) = 0 := by
 have e : D = header ++ (B.drop 16 ++ (pk L.length 8 ++ pk root 8)) := by
  rw [← h.head, ← List.append_assoc (B.take 16), List.take_append_drop]; exact h.eq
 have e2 : D = [] ++ (pk 1 8 ++ (pk 0 8 ++ (B.drop 16 ++ (pk L.length 8 ++ pk root 8)))) := by rw [e]; simp [header]
 have e3 : D = pk 1 8 ++ (pk 0 8 ++ (B.drop 16 ++ (pk L.length 8 ++ pk root 8))) := by rw [e2]; rfl
 constructor
 ·have := cutN_at (A := []) (X := pk 1 8) (R := pk 0 8 ++ (B.drop 16 ++ (pk L.length 8 ++ pk root 8))) (p := 0) (n := 8) rfl (pk_len _ _)
  rw [e2, this]; decide
 ·rw [e3, cutN_at (pk_len _ _) (pk_len _ _)]; decide
/-- What every builder's bytes begin with stays their beginning. -/
theorem take_grow {A B C : List Nat} (h : B = A ++ C) {n : Nat} (hn : n ≤ A.length) : B.take n = A.take n := by rw [h, List.take_append_of_le_length hn]
theorem File.mk' {codes back : Nat → Nat} (hc : Codes codes back) {M : Nat} (hM : M < 2 ^ 59) {B : List Nat} {last : Nat} {R : List (Nat × Nd)} {v : Un} {L : Prs} (h : BI codes back M B last R [v] L) (hh : B.take 16 = header) (hL : L.length < 2 ^ 60)
  {a : Nat} {B' : List Nat} {last' : Nat} {R' : List (Nat × Nd)} (hk : Cmp codes B last R v.nd a B' last' R') : File codes back (B' ++ (pk L.length 8 ++ pk a 8)) L B' a := by
 obtain ⟨h1, h2, h3, h4⟩ := h.root hc (by omega) hk
 obtain ⟨C, e, _⟩ := hk.grow
 exact ⟨rfl, by omega, h3, h1, h2, by rw [take_grow e h.h16]; exact hh, hL⟩
end Go.Proofs.YtmhlnijpimjjaaaGreatDoor.Fmt
namespace Go.Proofs.YtmhlnijpimjjaaaGreatDoor.Fmt

/-- What is known when the common beginning has been found: P stays open, u gets the new key's byte. -/
structure Rdy (codes back : Nat → Nat) (M : Nat) (B : List Nat) (last : Nat) (R : List (Nat × Nd)) (L : Prs) (key : List Nat) (val : Nat) (n o : Nat) (P : List Un) (u : Un) (r : List Un) (b : Nat) (l : List Nat) : Prop where
 bi : BI codes back M B last R (P ++ u :: r) L
 len : P.length = n
 drop : key.drop n = b :: l
 lasts : ∀ p, p ∈ P → p.last ≠ none
 low : r = [] ∧ u.last = none ∧ u.nd.arcs = [] ∨ r ≠ [] ∧ ∃ i lo, u.last = some (i, lo) ∧ i < b
 key : (along P).1 = key.take n
 val : (along P).2 + o = val
theorem Rdy.of {codes back : Nat → Nat} {M : Nat} {B : List Nat} {last : Nat} {R : List (Nat × Nd)} {L : Prs} {st : List Un} {k0 key : List Nat} (h : BI codes back M B last R st L) (hr : Rst st k0) (hlt : klt k0 key) (val : Nat) :
  ∃ P u r b l, (cpre key val st).2.2 = P ++ u :: r ∧ Rdy codes back M B last R L key val (cpre key val st).1 (cpre key val st).2.1 P u r b l := by
 obtain ⟨Q, w, q1, q2, q3, q4⟩ := h.shp.parts
 have hne : st ≠ [] := by rw [q1]; simp
 obtain ⟨P, u, r, b, l, e1, e2, e3, e4⟩ := cpre_end key val st Q w q1 q3 q2 (by rw [hr.key]; exact hlt)
 obtain ⟨P', x, f1, f2, f3, f4, f5, f6, f7⟩ := cpre_along key val st hne
 have hb := BI.cpre key val [] st (by simpa using h)
 have eP : P' = P := (List.append_inj (f1.symm.trans e1) (by rw [f3, e2])).1
 subst eP
 refine ⟨P', u, r, b, l, e1, ⟨by rw [← e1]; simpa using hb, e2, e3, f4, ?_, f5, f6⟩⟩
 rcases e4 with ⟨g1, g2, g3⟩ | ⟨i, lo, g1, g2⟩
 ·refine .inl ⟨g2, g1, List.length_eq_zero_iff.1 ?_⟩
  rw [g3, hr.leaf Q w q1]; rfl
 ·refine .inr ⟨fun hr0 => ?_, i, lo, g1, g2⟩
  subst hr0
  have hs := hb.shp
  simp only [List.nil_append] at hs
  rw [e1] at hs
  obtain ⟨Q2, w2, p1, p2, p3, p4⟩ := hs.parts
  have := (List.append_inj' p1 rfl).2
  simp only [List.cons.injEq, and_true] at this
  rw [this, p3] at g1
  cases g1
/-- The new key is laid. -/
theorem Rdy.done {codes back : Nat → Nat} {M : Nat} {B : List Nat} {last : Nat} {R : List (Nat × Nd)} {L : Prs} {key : List Nat} {val n o : Nat} {P : List Un} {u : Un} {r : List Un} {b : Nat} {l : List Nat} (h : Rdy codes back M B last R L key val n o P u r b l)
  {B' : List Nat} {last' : Nat} {R' : List (Nat × Nd)} {u' : Un} (h' : BI codes back M B' last' R' (P ++ [u']) L) (hu : u' = u ∧ r = [] ∨ ∃ a, u' = close u a ∧ r ≠ []) (hb : ∀ x, x ∈ key → x < 256) (h64 : val < 2 ^ 64) :
  u'.last = none ∧ BI codes back (M + 28 * key.length) B' last' R' (P ++ ⟨u'.nd, some (b, o)⟩ :: chain l) (L ++ [(key, val)]) ∧ Rst (P ++ ⟨u'.nd, some (b, o)⟩ :: chain l) key := by
 have hg := h.bi.good u (by simp)
 have hkey : key = (along P).1 ++ b :: l := by rw [h.key, ← h.drop, List.take_append_drop]
 have hu' : u'.last = none ∧ ∀ t, t ∈ u'.nd.arcs → t.1 < b := by
  rcases hu with ⟨rfl, hr⟩ | ⟨a, rfl, hr⟩
  ·rcases h.low with ⟨_, h2, h3⟩ | ⟨h2, _⟩
   ·exact ⟨h2, by rw [h3]; simp⟩
   ·exact absurd hr h2
  ·rcases h.low with ⟨h2, _⟩ | ⟨_, i, lo, h3, h4⟩
   ·exact absurd h2 hr
   ·have e : close u a = ⟨⟨u.nd.fin, u.nd.fout, u.nd.arcs ++ [(i, lo, a)]⟩, none⟩ := by simp [close, h3]
    rw [e]
    refine ⟨rfl, fun t ht => ?_⟩
    simp only [List.mem_append, List.mem_singleton] at ht
    rcases ht with ht | rfl
    ·have := (hg.lb i lo h3).2 t ht; omega
    ·exact h4
 refine ⟨hu'.1, h'.suffix h.lasts hu'.1 (fun x hx => hb x ?_) hu'.2 hkey h.val h64⟩
 rw [hkey]
 simp only [List.mem_append]
 exact .inr hx
end Go.Proofs.YtmhlnijpimjjaaaGreatDoor.Fmt
namespace Go.Proofs.YtmhlnijpimjjaaaGreatDoor
section
open Go.RowKit

/-- Block b is a row of just these cells, of element type t, not frozen. -/
def Blk (w : World) (b : Nat) (cs : List Value) (t : TypeId) : Prop := w.heap[b]? = some (.cells cs.toArray t (0, 0))

/-- What may have been written lies in F; what is new is free. -/
structure Fr (F : Nat → Prop) (w w' : World) : Prop where
 os : w'.os = w.os
 tape : w'.tape = w.tape
 output : w'.output = w.output
 size : w.heap.size ≤ w'.heap.size
 block : ∀ k, k < w.heap.size → ¬ F k → w'.heap[k]? = w.heap[k]?

section
variable {w w1 w2 : World} {F G : Nat → Prop} {b : Nat} {cs : List Value} {t : TypeId}

theorem Fr.refl (F : Nat → Prop) (w : World) : Fr F w w := ⟨rfl, rfl, rfl, Nat.le_refl _, fun _ _ _ => rfl⟩
theorem Fr.trans (h : Fr F w w1) (k : Fr G w1 w2) (hG : ∀ i, i < w.heap.size → G i → F i) : Fr F w w2 :=
 ⟨k.os.trans h.os, k.tape.trans h.tape, k.output.trans h.output, Nat.le_trans h.size k.size, fun i hi hF =>
  (k.block i (Nat.lt_of_lt_of_le hi h.size) (fun hg => hF (hG i hi hg))).trans (h.block i hi hF)⟩
theorem Fr.mono (h : Fr F w w1) (hG : ∀ i, i < w.heap.size → F i → G i) : Fr G w w1 :=
 ⟨h.os, h.tape, h.output, h.size, fun i hi hn => h.block i hi fun hF => hn (hG i hi hF)⟩
theorem Fr.drew (h : Fr F w w1) : Fr F w w1.drew := ⟨h.os, h.tape, h.output, h.size, h.block⟩
theorem Fr.drewN (h : Fr F w w1) (n : Nat) : Fr F w (w1.drewN n) := ⟨h.os, h.tape, h.output, h.size, h.block⟩
theorem Fr.alloc (h : Fr F w w1) (o : Obj) : Fr F w (w1.alloc o) :=
 h.trans (G := fun _ => False) ⟨rfl, rfl, rfl, by simp, fun k hk _ => Below.heap_alloc _ _ _ hk⟩ (fun _ _ h => h.elim)
theorem Fr.setCell (h : Fr F w w1) {p : Addr} (hp : p.block < w.heap.size → F p.block) (u : Value) : Fr F w (w1.setCell p u) :=
 h.trans (G := fun k => k = p.block) ⟨rfl, rfl, rfl, by simp [World.setCell], fun k hk hne => Below.heap_setCell _ _ _ _ hne⟩ (fun i hi h => by subst h; exact hp hi)
theorem Fr.below (h : Fr (fun _ => False) w w1) : Below w.heap.size w w1 := ⟨h.os, h.tape, h.output, h.size, fun k hk => h.block k hk fun h => h⟩
theorem Fr.ofBelow (h : Below w.heap.size w w1) : Fr (fun _ => False) w w1 := ⟨h.os, h.tape, h.output, h.size, fun k hk _ => h.block k hk⟩
theorem Fr.grown {row : Option Nat} (h : Fr F w w1) (hg : w1.grownBy w2 row) (hr : ∀ k, row = some k → k < w.heap.size → F k) : Fr F w w2 :=
 h.trans (G := fun k => row = some k) ⟨hg.os, hg.tape, hg.output, hg.size, fun k hk hn => hg.block k hk fun e => hn e.symm⟩ (fun i hi e => hr i e hi)
theorem Fr.cell (h : Fr F w w1) {a : Addr} {v : Value} (hc : w.cell? a = some v) (hn : ¬ F a.block) : w1.cell? a = some v :=
 (World.cell?_of_block (w := w) (h.block a.block (World.block_lt_of_cell? w a hc) hn)).trans hc

theorem Blk.lt (h : Blk w b cs t) : b < w.heap.size := lt_of_block h
theorem Blk.cell (h : Blk w b cs t) (i : Nat) {v : Value} (hv : cs[i]? = some v) : w.cell? ⟨b, i, none⟩ = some v := by
 unfold Blk at h
 simp [World.cell?, h, hv]
theorem Blk.frz (h : Blk w b cs t) (i : Nat) : w.frozen? ⟨b, i, none⟩ = false := by
 unfold Blk at h
 simp [World.frozen?, h]
theorem Blk.fr (h : Blk w b cs t) (k : Fr F w w1) (hn : ¬ F b) : Blk w1 b cs t := (k.block b h.lt hn).trans h
theorem Blk.alloc (h : Blk w b cs t) (o : Obj) : Blk (w.alloc o) b cs t := h.fr ((Fr.refl (fun _ => False) w).alloc o) (fun h => h)
theorem Blk.drew (h : Blk w b cs t) : Blk w.drew b cs t := h
theorem Blk.drewN (h : Blk w b cs t) (n : Nat) : Blk (w.drewN n) b cs t := h
theorem Blk.new (w : World) (cs : List Value) (t : TypeId) : Blk (w.alloc (.cells cs.toArray t)) w.heap.size cs t := heap_alloc_new w _
theorem Blk.newAt (w : World) (cs : List Value) (t : TypeId) (b : Nat) (h : w.heap.size = b) : Blk (w.alloc (.cells cs.toArray t)) b cs t := by subst h; exact Blk.new w cs t
theorem Blk.set (h : Blk w b cs t) (i : Nat) (v : Value) : Blk (w.setCell ⟨b, i, none⟩ v) b (cs.set i v) t := by
 have hlt := h.lt
 unfold Blk at *
 have h' : w.heap[b] = .cells cs.toArray t (0, 0) := by simpa [Array.getElem?_eq_getElem hlt] using h
 show (w.heap.modify b _)[b]? = _
 rw [Array.getElem?_eq_getElem (by simpa using hlt), Array.getElem_modify_self, h']
 simp
theorem Blk.set_ne (h : Blk w b cs t) {a : Addr} (hne : b ≠ a.block) (v : Value) : Blk (w.setCell a v) b cs t := by
 unfold Blk at *
 rw [Below.heap_setCell _ _ _ _ hne, h]
theorem Blk.inj {cs' : List Value} {t' : TypeId} (h : Blk w b cs t) (h' : Blk w b cs' t') : cs = cs' ∧ t = t' := by
 unfold Blk at *
 rw [h] at h'
 injection h' with h'
 injection h' with h1 h2
 exact ⟨by simpa using h1, h2⟩
end
end
section
open Go.RowKit

theorem own_fr {w w1 : World} {base n : Nat} {e : TypeId} {size : Nat} {v : Value} {xs : List Value} {F : Nat → Prop} (h : w.ownsRow base e size v n xs) (k : Fr F w w1) (hn : ∀ b, v.ownBlock = some b → ¬ F b) : w1.ownsRow base e size v n xs := by
 refine ⟨h.1, ?_⟩
 rcases h.2 with h2 | ⟨g, cap, cur, rfl, hb, hg, r⟩
 ·exact .inl h2
 ·exact .inr ⟨g, cap, cur, rfl, hb, (k.block g (lt_of_block hg) (hn g rfl)).trans hg, r⟩

theorem own_lt' {w : World} {base n : Nat} {e : TypeId} {size : Nat} {v : Value} {xs : List Value} (h : w.ownsRow base e size v n xs) {k : Nat} (hk : v.ownBlock = some k) : base ≤ k ∧ k < w.heap.size := h.lt k hk

theorem own_ne_blk {w : World} {base n : Nat} {e t : TypeId} {size b : Nat} {v : Value} {xs cs : List Value} (h : w.ownsRow base e size v n xs) (hb : Blk w b cs t) (hne : e ≠ t) : v.ownBlock ≠ some b := by
 intro he
 rcases h.2 with ⟨rfl, _⟩ | ⟨g, cap, cur, rfl, _, hg, _⟩
 ·simp [Value.ownBlock] at he
 ·simp [Value.ownBlock] at he
  subst he
  unfold Blk at hb
  rw [hg] at hb
  injection hb with hb
  injection hb with _ ht
  exact hne ht

theorem blk_ne {w : World} {b b' : Nat} {cs cs' : List Value} {t t' : TypeId} (h : Blk w b cs t) (h' : Blk w b' cs' t') (hne : t ≠ t') : b ≠ b' := by
 intro e; subst e
 exact hne (h.inj h').2

/-- What is read at a place of a row of one's own. -/
theorem own_cell {w : World} {base n : Nat} {e : TypeId} {size : Nat} {v : Value} {xs : List Value} (h : w.ownsRow base e size v n xs) {j : Nat} {u : Value} (hu : xs[j]? = some u) : ∃ g c, v = .slice (some ⟨g, 0, none⟩) n c ∧ n ≤ c ∧ c ≤ maxLen ∧ w.cell? ⟨g, j, none⟩ = some u ∧ w.frozen? ⟨g, j, none⟩ = false := by
 rcases h.2 with ⟨rfl, hn⟩ | ⟨g, cap, cur, rfl, hb, hg, h1, h2, h3, h4⟩
 ·have := h.1; subst hn; simp at this; subst this; simp at hu
 ·refine ⟨g, cap, rfl, h1, h2, ?_, by simp [World.frozen?, hg]⟩
  have hlt : j < n * size := by
   have := (List.getElem?_eq_some_iff.1 hu).1
   rw [h.1] at this; exact this
  rw [← h4, List.getElem?_take_of_lt hlt] at hu
  simp [World.cell?, hg, ← hu]

section
variable {ops : Array Oper} {rest : List Oper} {o : Oper} {a : Act} {Q : Exit → Act → World → Prop}

end
end
section
open Go.RowKit

abbrev Col := Nat → Nat
/-- A block of a colour, known whole. -/
structure BlkC (w : World) (col : Col) (c b : Nat) (cs : List Value) (t : TypeId) : Prop where
 blk : Blk w b cs t
 col : col b = c
/-- A row of a colour. -/
structure OwnC (w : World) (col : Col) (c : Nat) (e : TypeId) (size : Nat) (v : Value) (n : Nat) (xs : List Value) : Prop where
 own : w.ownsRow 0 e size v n xs
 col : ∀ k, v.ownBlock = some k → col k = c
/-- What was written had colours of C, and so has what is new. -/
structure Kp (C : Nat → Prop) (col : Col) (w : World) (col' : Col) (w' : World) : Prop where
 fr : Fr (fun k => C (col k)) w w'
 same : ∀ k, k < w.heap.size → col' k = col k
 new : ∀ k, w.heap.size ≤ k → k < w'.heap.size → C (col' k)
/-- New blocks get a colour. -/
def paint (n c : Nat) (col : Col) : Col := fun k => if k < n then col k else c

section
variable {w w1 w2 : World} {C D : Nat → Prop} {col col1 col2 : Col}
theorem paint_lt {n c k : Nat} (h : k < n) : paint n c col k = col k := if_pos h
theorem paint_ge {n c k : Nat} (h : n ≤ k) : paint n c col k = c := if_neg (by omega)
theorem Kp.refl (C : Nat → Prop) (col : Col) (w : World) : Kp C col w col w := ⟨Fr.refl _ w, fun _ _ => rfl, fun k h1 h2 => by omega⟩
theorem Kp.trans (h : Kp C col w col1 w1) (k : Kp C col1 w1 col2 w2) : Kp C col w col2 w2 :=
 ⟨h.fr.trans k.fr (fun i hi hc => by rw [h.same i hi] at hc; exact hc), fun i hi => (k.same i (Nat.lt_of_lt_of_le hi h.fr.size)).trans (h.same i hi), fun i h1 h2 => by
  by_cases hi : i < w1.heap.size
  ·rw [k.same i hi]; exact h.new i h1 hi
  ·exact k.new i (by omega) h2⟩
theorem Kp.mono (h : Kp C col w col1 w1) (hD : ∀ c, C c → D c) : Kp D col w col1 w1 := ⟨h.fr.mono (fun _ _ hc => hD _ hc), h.same, fun k h1 h2 => hD _ (h.new k h1 h2)⟩
theorem Kp.of {F : Nat → Prop} (h : Fr F w w1) (c : Nat) (hF : ∀ k, k < w.heap.size → F k → C (col k)) (hc : C c) : Kp C col w (paint w.heap.size c col) w1 :=
 ⟨h.mono hF, fun k hk => paint_lt hk, fun k h1 _ => by rw [paint_ge h1]; exact hc⟩
theorem Kp.drew (h : Kp C col w col1 w1) : Kp C col w col1 w1.drew := ⟨h.fr.drew, h.same, h.new⟩
theorem Kp.drewN (h : Kp C col w col1 w1) (n : Nat) : Kp C col w col1 (w1.drewN n) := ⟨h.fr.drewN n, h.same, h.new⟩
theorem Kp.size (h : Kp C col w col1 w1) : w.heap.size ≤ w1.heap.size := h.fr.size
/-- Nothing old was written, new blocks get one colour. -/
theorem Kp.news (h : Fr (fun _ => False) w w1) (c : Nat) (hc : C c) : Kp C col w (paint w.heap.size c col) w1 := Kp.of h c (fun _ _ h => h.elim) hc
/-- A cell of a block with a colour of C was written. -/
theorem Kp.set (h : Kp C col w col1 w1) {p : Addr} (v : Value) (hp : C (col1 p.block)) : Kp C col w col1 (w1.setCell p v) := by
 refine ⟨h.fr.setCell (fun hlt => by rw [← h.same _ hlt]; exact hp) v, h.same, fun k h1 h2 => h.new k h1 (by simpa [World.setCell] using h2)⟩
theorem BlkC.kp {c b : Nat} {cs : List Value} {t : TypeId} (h : BlkC w col c b cs t) (k : Kp C col w col1 w1) (hn : ¬ C c) : BlkC w1 col1 c b cs t :=
 ⟨h.blk.fr k.fr (by rw [h.col]; exact hn), (k.same b h.blk.lt).trans h.col⟩
theorem BlkC.lt {c b : Nat} {cs : List Value} {t : TypeId} (h : BlkC w col c b cs t) : b < w.heap.size := h.blk.lt
theorem BlkC.ne {c d b e : Nat} {cs ds : List Value} {t u : TypeId} (h : BlkC w col c b cs t) (h' : BlkC w col d e ds u) (hne : c ≠ d) : b ≠ e := fun e => hne (by rw [← h.col, ← h'.col, e])
theorem OwnC.kp {c : Nat} {e : TypeId} {size : Nat} {v : Value} {n : Nat} {xs : List Value} (h : OwnC w col c e size v n xs) (k : Kp C col w col1 w1) (hn : ¬ C c) : OwnC w1 col1 c e size v n xs :=
 ⟨own_fr h.own k.fr (fun b hb => by rw [h.col b hb]; exact hn), fun b hb => (k.same b (own_lt' h.own hb).2).trans (h.col b hb)⟩
theorem OwnC.nil (w : World) (col : Col) (c : Nat) (e : TypeId) (size : Nat) : OwnC w col c e size (.slice none 0 0) 0 [] := ⟨World.ownsRow_nil _ _ _ _, fun k hk => by simp [Value.ownBlock] at hk⟩
theorem OwnC.drew {c : Nat} {e : TypeId} {size : Nat} {v : Value} {n : Nat} {xs : List Value} (h : OwnC w col c e size v n xs) : OwnC w.drew col c e size v n xs := ⟨h.own.drew, h.col⟩
theorem BlkC.drew {c b : Nat} {cs : List Value} {t : TypeId} (h : BlkC w col c b cs t) : BlkC w.drew col c b cs t := ⟨h.blk.drew, h.col⟩
/-- A row that was appended to, the rest as it was: what colours are then. -/
theorem OwnC.grown {c : Nat} {e : TypeId} {size : Nat} {v v' : Value} {n n' : Nat} {xs xs' : List Value} (h : OwnC w col c e size v n xs) (ho : w1.ownsRow 0 e size v' n' xs') (hf : Fr (fun k => v.ownBlock = some k) w w1)
  (hn : v'.ownBlock = v.ownBlock ∨ ∃ b, v'.ownBlock = some b ∧ w.heap.size ≤ b) : OwnC w1 (paint w.heap.size c col) c e size v' n' xs' ∧ Kp (fun d => d = c) col w (paint w.heap.size c col) w1 := by
 refine ⟨⟨ho, fun k hk => ?_⟩, Kp.of hf c (fun k _ hk => h.col k hk) rfl⟩
 rcases hn with e1 | ⟨b, e1, hb⟩
 ·rw [e1] at hk
  rw [paint_lt (own_lt' h.own hk).2]; exact h.col k hk
 ·rw [e1] at hk
  injection hk with hk
  subst hk
  exact paint_ge hb
end
end
end Go.Proofs.YtmhlnijpimjjaaaGreatDoor
