/- The builder as plain lists: the bytes so far, the open states, the registry; closing a state keeps the pairs that they stand for. Condition: short codes that go both ways; less than 2^60 bytes. One more key, and the end, of the builder as plain lists. Condition: keys rise; less than 2^60 bytes. Maps merged, as plain lists: what a merge is, that there is one alone, and how it grows key by key. No condition. Going through the states behind an address: what pairs are still ahead at a place on the way, and how a step changes that. Condition: transitions lead down. -/
import Derived.Test.YtmhlnijpimjjaaaGreatDoorM00
set_option linter.unusedSimpArgs false
set_option linter.unusedVariables false
namespace Go.Proofs.YtmhlnijpimjjaaaGreatDoor.Fmt

def pot1 (u : Un) : Nat := 17 * (u.nd.arcs.length + u.last.toList.length) + 11
def pot (st : List Un) : Nat := (st.map pot1).sum
theorem pot_cons (u : Un) (st : List Un) : pot (u :: st) = pot1 u + pot st := by simp [pot]
theorem pot_app (a b : List Un) : pot (a ++ b) = pot a + pot b := by simp [pot]
theorem pot_nil : pot [] = 0 := rfl

/-- A good open state: its transitions lead to what is written. -/
structure Ug (codes back : Nat → Nat) (B : List Nat) (u : Un) : Prop where
 ok : ∀ t, t ∈ u.nd.arcs → Ok codes back B t.2.2 ∧ keysAt (getB back B) t.2.2 ≠ []
 byte : ∀ t, t ∈ u.nd.arcs → t.1 < 256
 inc : (u.nd.arcs.map fun t => t.1).Pairwise (· < ·)
 no : u.nd.fin = false → u.nd.fout = 0
 lb : ∀ i o, u.last = some (i, o) → i < 256 ∧ ∀ t, t ∈ u.nd.arcs → t.1 < i
theorem Ug.app {codes back : Nat → Nat} {B : List Nat} {u : Un} (h : Ug codes back B u) (C : List Nat) : Ug codes back (B ++ C) u :=
 ⟨fun t ht => ⟨(h.ok t ht).1.app C, by rw [keys_app back B C (h.ok t ht).1]; exact (h.ok t ht).2⟩, h.byte, h.inc, h.no, h.lb⟩
theorem Ug.add {codes back : Nat → Nat} {B : List Nat} {u : Un} (h : Ug codes back B u) (p : Nat) : Ug codes back B (addU p u) := by
 refine ⟨?_, ?_, ?_, ?_, ?_⟩
 ·intro t ht
  simp only [addU, addN, List.mem_map] at ht
  obtain ⟨s, hs, rfl⟩ := ht
  exact h.ok s hs
 ·intro t ht
  simp only [addU, addN, List.mem_map] at ht
  obtain ⟨s, hs, rfl⟩ := ht
  exact h.byte s hs
 ·have : ((addU p u).nd.arcs.map fun t => t.1) = u.nd.arcs.map fun t => t.1 := by simp [addU, addN, Function.comp]
  rw [this]; exact h.inc
 ·intro hf
  simp only [addU, addN] at hf ⊢
  rw [hf]; simp [h.no hf]
 ·intro i o hl
  simp only [addU] at hl
  cases hu : u.last with
  | none => rw [hu] at hl; simp at hl
  | some q =>
   rw [hu] at hl
   simp only [Option.map_some, Option.some.injEq, Prod.mk.injEq] at hl
   obtain ⟨rfl, rfl⟩ := hl
   have := h.lb q.1 q.2 hu
   refine ⟨this.1, fun t ht => ?_⟩
   simp only [addU, addN, List.mem_map] at ht
   obtain ⟨s, hs, rfl⟩ := ht
   exact this.2 s hs

/-- What was written, where, and what it is. -/
def Reg (codes back : Nat → Nat) (B : List Nat) (R : List (Nat × Nd)) : Prop := ∀ q, q ∈ R → q.1 ≠ 0 ∧ Ok codes back B q.1 ∧ getB back B q.1 = q.2 ∧ keysAt (getB back B) q.1 ≠ []
theorem Reg.app {codes back : Nat → Nat} {B : List Nat} {R : List (Nat × Nd)} (h : Reg codes back B R) (C : List Nat) : Reg codes back (B ++ C) R := fun q hq => by
 obtain ⟨h0, h1, h2, h3⟩ := h q hq
 have := h1.lt
 exact ⟨h0, h1.app C, by rw [getB_app back B C (by omega)]; exact h2, by rw [keys_app back B C h1]; exact h3⟩
theorem Reg.sub {codes back : Nat → Nat} {B : List Nat} {R R' : List (Nat × Nd)} (h : Reg codes back B R) (hs : ∀ q, q ∈ R' → q ∈ R) : Reg codes back B R' := fun q hq => h q (hs q hq)

/-- The shape of the open states: all but the last one have an open transition, and the last one, but for the root, has a word. -/
structure Shp (st : List Un) : Prop where
 parts : ∃ Q v, st = Q ++ [v] ∧ (∀ u, u ∈ Q → u.last ≠ none) ∧ v.last = none ∧ (Q ≠ [] → v.nd.fin = true ∨ v.nd.arcs ≠ [])

structure BI (codes back : Nat → Nat) (M : Nat) (B : List Nat) (last : Nat) (R : List (Nat × Nd)) (st : List Un) (L : List (List Nat × Nat)) : Prop where
 h16 : 16 ≤ B.length
 lst : last = 1 ∨ 16 ≤ last ∧ last + 1 = B.length
 reg : Reg codes back B R
 means : mean (getB back B) st = L
 good : ∀ u, u ∈ st → Ug codes back B u
 small : ∀ q, q ∈ L → q.2 < 2 ^ 64
 room : B.length + pot st ≤ M
 shp : Shp st

theorem flat_ne {α β : Type} {l : List α} {f : α → List β} {a : α} (ha : a ∈ l) (h : f a ≠ []) : l.flatMap f ≠ [] := by
 intro e
 cases hf : f a with
 | nil => exact h hf
 | cons b r =>
  have : b ∈ l.flatMap f := List.mem_flatMap.2 ⟨a, ha, by rw [hf]; simp⟩
  rw [e] at this; cases this
theorem own_ne {codes back : Nat → Nat} {B : List Nat} {u : Un} (h : Ug codes back B u) (hn : u.nd.fin = true ∨ u.nd.arcs ≠ []) : own (getB back B) u.nd ≠ [] := by
 unfold own
 rcases hn with hn | hn
 ·simp [hn]
 ·cases ha : u.nd.arcs with
  | nil => exact absurd ha hn
  | cons t r =>
   have hk := (h.ok t (by rw [ha]; simp)).2
   intro e
   have e2 := (List.append_eq_nil_iff.1 e).2
   exact flat_ne (a := t) (by simp) (by simpa [pre] using hk) e2
/-- Open states stand for something. -/
theorem mean_ne {codes back : Nat → Nat} {B : List Nat} : ∀ (Q : List Un) (v : Un), (∀ u, u ∈ Q → u.last ≠ none) → Ug codes back B v → (v.nd.fin = true ∨ v.nd.arcs ≠ []) → mean (getB back B) (Q ++ [v]) ≠ []
 | [], v, _, hg, hn => by
  simp only [List.nil_append, mean]
  intro e
  exact own_ne hg hn (List.append_eq_nil_iff.1 e).1
 | u :: Q, v, hQ, hg, hn => by
  have ih := mean_ne Q v (fun w hw => hQ w (by simp [hw])) hg hn
  have hu := hQ u (by simp)
  simp only [List.cons_append, mean]
  cases hl : u.last with
  | none => exact absurd hl hu
  | some q =>
   intro e
   have := (List.append_eq_nil_iff.1 e).2
   simp only [pre, List.map_eq_nil_iff] at this
   exact ih this
theorem mean_up (get : Nat → Nd) : ∀ (P : List Un) (x : List Un), (∀ u, u ∈ P → u.last ≠ none) → ∀ q, q ∈ mean get x → ∃ q', q' ∈ mean get (P ++ x) ∧ q.2 ≤ q'.2
 | [], x, _, q, hq => ⟨q, hq, Nat.le_refl _⟩
 | u :: P, x, hP, q, hq => by
  obtain ⟨q', h1, h2⟩ := mean_up get P x (fun w hw => hP w (by simp [hw])) q hq
  have hu := hP u (by simp)
  cases hl : u.last with
  | none => exact absurd hl hu
  | some c =>
   refine ⟨(c.1 :: q'.1, c.2 + q'.2), ?_, by simp; omega⟩
   simp only [List.cons_append, mean, hl, List.mem_append]
   exact .inr (List.mem_map.2 ⟨q', h1, rfl⟩)
/-- The numbers in the open states are small. -/
theorem BI.sml {codes back : Nat → Nat} {M : Nat} {B : List Nat} {last : Nat} {R : List (Nat × Nd)} {st : List Un} {L : List (List Nat × Nat)} (h : BI codes back M B last R st L) {P r : List Un} {u : Un} (hs : st = P ++ u :: r) :
  (∀ t, t ∈ u.nd.arcs → t.2.1 < 2 ^ 64) ∧ u.nd.fout < 2 ^ 64 ∧ ∀ i o, u.last = some (i, o) → o < 2 ^ 64 := by
 obtain ⟨Q, v, h1, h2, h3, h4⟩ := h.shp.parts
 have hP : ∀ w, w ∈ P → w.last ≠ none := by
  intro w hw
  have e : P ++ u :: r = Q ++ [v] := by rw [← hs, h1]
  obtain ⟨k, hk1, hk⟩ := List.mem_iff_getElem.1 hw
  have hlen := congrArg List.length e
  simp only [List.length_append, List.length_cons, List.length_nil] at hlen
  have hkQ : k < Q.length := by omega
  have e2 : (P ++ u :: r)[k]? = (Q ++ [v])[k]? := by rw [e]
  rw [List.getElem?_append_left hk1, List.getElem?_append_left hkQ, List.getElem?_eq_getElem hk1, List.getElem?_eq_getElem hkQ, Option.some.injEq] at e2
  rw [← hk, e2]
  exact h2 _ (List.getElem_mem hkQ)
 have up : ∀ q, q ∈ mean (getB back B) (u :: r) → q.2 < 2 ^ 64 := fun q hq => by
  obtain ⟨q', m1, m2⟩ := mean_up (getB back B) P (u :: r) hP q hq
  have := h.small q' (by rw [← h.means, hs]; exact m1)
  omega
 have hu := h.good u (by rw [hs]; simp)
 refine ⟨fun t ht => ?_, ?_, fun i o hl => ?_⟩
 ·have hk := (hu.ok t ht).2
  cases hka : keysAt (getB back B) t.2.2 with
  | nil => exact absurd hka hk
  | cons q l =>
   have := up (t.1 :: q.1, t.2.1 + q.2) (by
    simp only [mean, own, List.mem_append, List.mem_flatMap]
    exact .inl (.inr ⟨t, ht, by rw [hka]; simp [pre]⟩))
   simp only at this
   omega
 ·cases hf : u.nd.fin with
  | false => rw [hu.no hf]; decide
  | true =>
   have := up ([], u.nd.fout) (by simp [mean, own, hf])
   exact this
 ·have hr : ∃ Q', r = Q' ++ [v] ∧ ∀ w, w ∈ Q' → w ∈ Q := by
   cases hr0 : r with
   | nil =>
    rw [hr0] at hs
    have e : P ++ [u] = Q ++ [v] := by rw [← hs, h1]
    have := (List.append_inj' e rfl).2
    simp only [List.cons.injEq, and_true] at this
    rw [this, h3] at hl
    cases hl
   | cons a b =>
    have e : P ++ u :: (a :: b) = Q ++ [v] := by rw [← hr0, ← hs, h1]
    refine ⟨(a :: b).dropLast, ?_, ?_⟩
    ·have e1 : (a :: b) = (a :: b).dropLast ++ [(a :: b).getLast (by simp)] := (List.dropLast_concat_getLast (by simp)).symm
     have e2 : (P ++ u :: (a :: b).dropLast) ++ [(a :: b).getLast (by simp)] = Q ++ [v] := by rw [← e, List.append_assoc, List.cons_append, ← e1]
     have e3 := (List.append_inj' e2 rfl).2
     simp only [List.cons.injEq, and_true] at e3
     rw [← e3]; exact e1
    ·have e1 : (a :: b) = (a :: b).dropLast ++ [(a :: b).getLast (by simp)] := (List.dropLast_concat_getLast (by simp)).symm
     have e2 : (P ++ u :: (a :: b).dropLast) ++ [(a :: b).getLast (by simp)] = Q ++ [v] := by rw [← e, List.append_assoc, List.cons_append, ← e1]
     have e3 := (List.append_inj' e2 rfl).1
     intro w hw
     rw [← e3]; simp [hw]
  obtain ⟨Q', e1, e2⟩ := hr
  have hQne : Q ≠ [] := by
   intro e0
   subst e0
   rw [h1, e1] at hs
   have := congrArg List.length hs
   simp at this
   omega
  have hne := mean_ne (codes := codes) (back := back) (B := B) Q' v (fun w hw => h2 w (e2 w hw)) (h.good v (by rw [h1]; simp)) (h4 hQne)
  rw [← e1] at hne
  cases hm : mean (getB back B) r with
  | nil => exact absurd hm hne
  | cons q l =>
   have := up (i :: q.1, o + q.2) (by simp [mean, hl, hm, pre])
   simp only at this
   omega
theorem inc_len {l : List Nat} (h : l.Pairwise (· < ·)) (hb : ∀ x, x ∈ l → x < 256) : l.length ≤ 256 := by
 have key : ∀ (l : List Nat) (n : Nat), l.Pairwise (· < ·) → (∀ x, x ∈ l → n ≤ x ∧ x < 256) → l.length + n ≤ 256 ∨ l = [] := by
  intro l
  induction l with
  | nil => intro n _ _; exact .inr rfl
  | cons a l ih =>
   intro n hp hb
   rw [List.pairwise_cons] at hp
   have ha := hb a (by simp)
   rcases ih (a + 1) hp.2 (fun x hx => ⟨hp.1 x hx, (hb x (by simp [hx])).2⟩) with h | h
   ·left; simp only [List.length_cons]; omega
   ·subst h; left; simp; omega
 rcases key l 0 h (fun x hx => ⟨Nat.zero_le _, hb x hx⟩) with h | h
 ·omega
 ·subst h; simp
/-- The last open state may be written. -/
theorem BI.wf {codes back : Nat → Nat} {M : Nat} {B : List Nat} {last : Nat} {R : List (Nat × Nd)} {Q : List Un} {v : Un} {L : List (List Nat × Nat)} (h : BI codes back M B last R (Q ++ [v]) L) : Wf B.length last v.nd := by
 have hs := h.sml (P := Q) (r := []) (u := v) rfl
 have hv := h.good v (by simp)
 refine ⟨⟨?_, hs.1, fun t ht => ?_, hs.2.1, hv.no⟩, fun t ht e => ?_, hv.byte, hv.inc⟩
 ·have := inc_len hv.inc (fun x hx => by obtain ⟨t, ht, rfl⟩ := List.mem_map.1 hx; exact hv.byte t ht)
  simpa using this
 ·have := (hv.ok t ht).1.lt
  have := h.h16
  omega
 ·have := (hv.ok t ht).1.lt
  rcases h.lst with h1 | h1
  ·omega
  ·exact h1.2

/-- What comes of closing a state: nothing written, found, or written anew. -/
inductive Cmp (codes : Nat → Nat) (B : List Nat) (last : Nat) (R : List (Nat × Nd)) (nd : Nd) : Nat → List Nat → Nat → List (Nat × Nd) → Prop
 | nil (h : nd.fin = true) (h1 : nd.arcs = []) (h2 : nd.fout = 0) : Cmp codes B last R nd 0 B last R
 | found (a : Nat) (R' : List (Nat × Nd)) (h : (a, nd) ∈ R) (hR : ∀ q, q ∈ R' → q ∈ R) : Cmp codes B last R nd a B last R'
 | new (R' : List (Nat × Nd)) (hR : ∀ q, q ∈ R' → q ∈ R ∨ q = (B.length + (encNd B.length last codes nd).length - 1, nd)) : Cmp codes B last R nd (B.length + (encNd B.length last codes nd).length - 1) (B ++ encNd B.length last codes nd) (B.length + (encNd B.length last codes nd).length - 1) R'

theorem Cmp.grow {codes : Nat → Nat} {B : List Nat} {last : Nat} {R : List (Nat × Nd)} {nd : Nd} {a : Nat} {B' : List Nat} {last' : Nat} {R' : List (Nat × Nd)} (h : Cmp codes B last R nd a B' last' R') : ∃ C, B' = B ++ C ∧ C.length ≤ 17 * nd.arcs.length + 11 := by
 cases h with
 | nil => exact ⟨[], by simp, by simp⟩
 | found => exact ⟨[], by simp, by simp⟩
 | new => exact ⟨_, rfl, enc_len _ _ _ _⟩

theorem BI.comp {codes back : Nat → Nat} (hc : Codes codes back) {M : Nat} (hM : M < 2 ^ 60) {B : List Nat} {last : Nat} {R : List (Nat × Nd)} {Q : List Un} {v : Un} {L : List (List Nat × Nat)} (h : BI codes back M B last R (Q ++ [v]) L) (hw : v.nd.fin = true ∨ v.nd.arcs ≠ [])
  {a : Nat} {B' : List Nat} {last' : Nat} {R' : List (Nat × Nd)} (hk : Cmp codes B last R v.nd a B' last' R') :
  Ok codes back B' a ∧ keysAt (getB back B') a = own (getB back B) v.nd ∧ a ≠ 1 ∧ Reg codes back B' R' ∧ (last' = 1 ∨ 16 ≤ last' ∧ last' + 1 = B'.length) ∧ keysAt (getB back B') a ≠ [] := by
 have hv := h.good v (by simp)
 have hne := own_ne hv hw
 have h16 := h.h16
 have hroom := h.room
 have h60 : (2 : Nat) ^ 60 < 2 ^ 64 := by decide
 cases hk with
 | nil f1 f2 f3 =>
  have e : keysAt (getB back B) 0 = own (getB back B) v.nd := by rw [keysAt_zero]; simp [own, f1, f2, f3]
  exact ⟨.zero, e, by omega, h.reg, h.lst, by rw [e]; exact hne⟩
 | found _ _ hf hR =>
  obtain ⟨r0, r1, r2, r3⟩ := h.reg _ hf
  have e : keysAt (getB back B) a = own (getB back B) v.nd := by rw [keys_own back B r0, r2]
  have := r1.lt
  exact ⟨r1, e, by omega, h.reg.sub hR, h.lst, r3⟩
 | new _ hR =>
  have hwf := h.wf
  obtain ⟨k1, k2, k3⟩ := ok_new hc h16 (by omega) hwf (fun t ht => (hv.ok t ht).1) (fun t ht => (hv.ok t ht).2)
  have h0 := enc_pos B.length last codes v.nd
  refine ⟨k1, k3, by omega, ?_, .inr ⟨by omega, by simp; omega⟩, by rw [k3]; exact hne⟩
  intro q hq
  rcases hR q hq with h1 | rfl
  ·exact h.reg.app _ q h1
  ·exact ⟨by simp only; omega, k1, k2, by simp only; rw [k3]; exact hne⟩
/-- A state is closed, the one above it gets its transition. -/
theorem BI.shut {codes back : Nat → Nat} (hc : Codes codes back) {M : Nat} (hM : M < 2 ^ 60) {B : List Nat} {last : Nat} {R : List (Nat × Nd)} {Q : List Un} {u v : Un} {L : List (List Nat × Nat)} (h : BI codes back M B last R (Q ++ [u, v]) L)
  {a : Nat} {B' : List Nat} {last' : Nat} {R' : List (Nat × Nd)} (hk : Cmp codes B last R v.nd a B' last' R') : a ≠ 1 ∧ BI codes back M B' last' R' (Q ++ [close u a]) L ∧ (u.last ≠ none) ∧ (close u a).last = none ∧ ((close u a).nd.fin = true ∨ (close u a).nd.arcs ≠ []) := by
 have h' : BI codes back M B last R ((Q ++ [u]) ++ [v]) L := by simpa using h
 obtain ⟨P, w, p1, p2, p3, p4⟩ := h.shp.parts
 have e0 : (Q ++ [u]) ++ [v] = P ++ [w] := by simpa using p1
 obtain ⟨e1, e2⟩ := List.append_inj' e0 rfl
 simp only [List.cons.injEq, and_true] at e2
 subst e2
 have hul : u.last ≠ none := p2 u (by rw [← e1]; simp)
 have hw := p4 (by rw [← e1]; simp)
 obtain ⟨c1, c2, c3, c4, c5, c6⟩ := h'.comp hc hM hw hk
 obtain ⟨C, g1, g2⟩ := hk.grow
 obtain ⟨i, o, hu⟩ : ∃ i o, u.last = some (i, o) := by
  cases hu : u.last with
  | none => exact absurd hu hul
  | some q => exact ⟨q.1, q.2, rfl⟩
 have hcl : close u a = ⟨⟨u.nd.fin, u.nd.fout, u.nd.arcs ++ [(i, o, a)]⟩, none⟩ := by simp [close, hu]
 have hgu := (h.good u (by simp)).app C
 rw [← g1] at hgu
 have hlb := hgu.lb i o hu
 refine ⟨c3, ⟨?_, c5, c4, ?_, ?_, h.small, ?_, ?_⟩, hul, by rw [hcl], .inr (by rw [hcl]; simp)⟩
 ·have := h.h16; rw [g1]; simp; omega
 ·rw [← h.means]
  have hst : ∀ x, x ∈ Q ++ [u, v] → ∀ t, t ∈ x.nd.arcs → Ok codes back B t.2.2 := fun x hx t ht => ((h.good x hx).ok t ht).1
  rw [← mean_app back B C (Q ++ [u, v]) hst, ← g1]
  refine mean_shut _ _ _ ?_ Q
  refine mean_close _ _ _ _ (fun _ => ?_)
  rw [c2, g1]
  simp only [mean, p3, List.append_nil]
  rw [own_app back B C v.nd (fun t ht => hst v (by simp) t ht)]
 ·intro x hx
  rcases List.mem_append.1 hx with hx | hx
  ·have := (h.good x (by simp [hx])).app C
   rwa [← g1] at this
  ·rw [List.mem_singleton] at hx
   subst hx
   rw [hcl]
   refine ⟨?_, ?_, ?_, hgu.no, by intro i o h; cases h⟩
   ·intro t ht
    rcases List.mem_append.1 ht with ht | ht
    ·exact hgu.ok t ht
    ·rw [List.mem_singleton] at ht; subst ht; exact ⟨c1, c6⟩
   ·intro t ht
    rcases List.mem_append.1 ht with ht | ht
    ·exact hgu.byte t ht
    ·rw [List.mem_singleton] at ht; subst ht; exact hlb.1
   ·simp only [List.map_append, List.map_cons, List.map_nil]
    rw [List.pairwise_append]
    refine ⟨hgu.inc, by simp, ?_⟩
    intro x hx y hy
    rw [List.mem_singleton] at hy
    subst hy
    obtain ⟨t, ht, rfl⟩ := List.mem_map.1 hx
    exact hlb.2 t ht
 ·have := h.room
  rw [g1]
  simp only [pot_app, pot_cons, pot_nil, List.length_append, hcl] at *
  simp only [pot1, hu, p3, Option.toList_some, Option.toList_none, List.length_append, List.length_cons, List.length_nil] at *
  omega
 ·refine ⟨Q, close u a, rfl, fun x hx => p2 x (by rw [← e1]; simp [hx]), by rw [hcl], fun _ => .inr (by rw [hcl]; simp)⟩
end Go.Proofs.YtmhlnijpimjjaaaGreatDoor.Fmt
namespace Go.Proofs.YtmhlnijpimjjaaaGreatDoor.Fmt

/-- Keys in order. -/
def klt : List Nat → List Nat → Prop
 | [], [] => False
 | [], _ :: _ => True
 | _ :: _, [] => False
 | a :: x, b :: y => a < b ∨ a = b ∧ klt x y
theorem klt_irrefl : ∀ x : List Nat, ¬ klt x x
 | [] => fun h => h
 | a :: x => fun h => by
  rcases h with h | h
  ·omega
  ·exact klt_irrefl x h.2
theorem klt_trans : ∀ {x y z : List Nat}, klt x y → klt y z → klt x z
 | [], [], _, h, _ => h.elim
 | [], _ :: _, [], _, h => h.elim
 | [], _ :: _, _ :: _, _, _ => trivial
 | _ :: _, [], _, h, _ => h.elim
 | _ :: _, _ :: _, [], _, h => h.elim
 | a :: x, b :: y, c :: z, h, k => by
  rcases h with h | ⟨h, h'⟩
  ·rcases k with k | ⟨k, k'⟩
   ·exact .inl (by omega)
   ·exact .inl (by omega)
  ·rcases k with k | ⟨k, k'⟩
   ·exact .inl (by omega)
   ·exact .inr ⟨by omega, klt_trans h' k'⟩
theorem klt_tri : ∀ x y : List Nat, klt x y ∨ x = y ∨ klt y x
 | [], [] => .inr (.inl rfl)
 | [], _ :: _ => .inl trivial
 | _ :: _, [] => .inr (.inr trivial)
 | a :: x, b :: y => by
  rcases Nat.lt_trichotomy a b with h | h | h
  ·exact .inl (.inl h)
  ·subst h
   rcases klt_tri x y with h | h | h
   ·exact .inl (.inr ⟨rfl, h⟩)
   ·subst h; exact .inr (.inl rfl)
   ·exact .inr (.inr (.inr ⟨rfl, h⟩))
  ·exact .inr (.inr (.inl h))

theorem addU_zero (v : Un) : addU 0 v = v := by
 obtain ⟨⟨f, o, a⟩, l⟩ := v
 simp only [addU, addN]
 congr 1
 ·congr 1
  ·split <;> simp
  ·simp
 ·cases l <;> simp
theorem addU_last (p : Nat) (v : Un) : (addU p v).last = none ↔ v.last = none := by simp [addU]
theorem addU_arcs (p : Nat) (v : Un) : (addU p v).nd.arcs = [] ↔ v.nd.arcs = [] := by simp [addU, addN]
theorem addU_pot (p : Nat) (v : Un) : pot1 (addU p v) = pot1 v := by
 simp only [pot1, addU, addN, List.length_map]
 cases v.last <;> simp

theorem Shp.move {P r : List Un} {u v : Un} {i lo c p : Nat} (h : Shp (P ++ u :: v :: r)) : Shp (P ++ ⟨u.nd, some (i, c)⟩ :: addU p v :: r) := by
 obtain ⟨Q, w, h1, h2, h3, h4⟩ := h.parts
 rcases List.eq_nil_or_concat r with rfl | ⟨r', w0, rfl⟩
 ·have e : (P ++ [u]) ++ [v] = Q ++ [w] := by simpa using h1
  obtain ⟨e1, e2⟩ := List.append_inj' e rfl
  simp only [List.cons.injEq, and_true] at e2
  subst e2
  refine ⟨P ++ [⟨u.nd, some (i, c)⟩], addU p v, by simp, fun x hx => ?_, (addU_last p v).2 h3, fun _ => ?_⟩
  ·rcases List.mem_append.1 hx with hx | hx
   ·exact h2 x (by rw [← e1]; simp [hx])
   ·rw [List.mem_singleton] at hx; subst hx; simp
  ·rcases h4 (by rw [← e1]; simp) with h | h
   ·exact .inl h
   ·exact .inr (fun e => h ((addU_arcs p v).1 e))
 ·have e : (P ++ u :: v :: r') ++ [w0] = Q ++ [w] := by simpa using h1
  obtain ⟨e1, e2⟩ := List.append_inj' e rfl
  simp only [List.cons.injEq, and_true] at e2
  subst e2
  refine ⟨P ++ ⟨u.nd, some (i, c)⟩ :: addU p v :: r', w0, by simp, fun x hx => ?_, h3, fun _ => h4 (by rw [← e1]; simp)⟩
  simp only [List.mem_append, List.mem_cons] at hx
  rcases hx with hx | rfl | rfl | hx
  ·exact h2 x (by rw [← e1]; simp [hx])
  ·simp
  ·exact fun e => h2 v (by rw [← e1]; simp) ((addU_last p v).1 e)
  ·exact h2 x (by rw [← e1]; simp [hx])
theorem BI.move {codes back : Nat → Nat} {M : Nat} {B : List Nat} {last : Nat} {R : List (Nat × Nd)} {P r : List Un} {u v : Un} {L : List (List Nat × Nat)} (h : BI codes back M B last R (P ++ u :: v :: r) L) {i lo c : Nat} (hu : u.last = some (i, lo)) (hc : c ≤ lo) :
  BI codes back M B last R (P ++ ⟨u.nd, some (i, c)⟩ :: addU (lo - c) v :: r) L := by
 refine ⟨h.h16, h.lst, h.reg, ?_, ?_, h.small, ?_, h.shp.move (lo := lo)⟩
 ·rw [← h.means]
  exact mean_shut _ _ _ (mean_move _ u v r i lo c hu hc) P
 ·intro x hx
  simp only [List.mem_append, List.mem_cons] at hx
  rcases hx with hx | rfl | rfl | hx
  ·exact h.good x (by simp [hx])
  ·have hg := h.good u (by simp)
   exact ⟨hg.ok, hg.byte, hg.inc, hg.no, fun i' o' e => by simp only [Option.some.injEq, Prod.mk.injEq] at e; obtain ⟨rfl, rfl⟩ := e; exact hg.lb i lo hu⟩
  ·exact (h.good v (by simp)).add _
  ·exact h.good x (by simp [hx])
 ·have := h.room
  simp only [pot_app, pot_cons, addU_pot] at this ⊢
  simp only [pot1, hu, Option.toList_some, List.length_cons, List.length_nil] at this ⊢
  exact this
/-- The common beginning, found. -/
theorem BI.cpre {codes back : Nat → Nat} {M : Nat} {B : List Nat} {last : Nat} {R : List (Nat × Nd)} {L : List (List Nat × Nat)} : ∀ (key : List Nat) (o : Nat) (P st : List Un), BI codes back M B last R (P ++ st) L → BI codes back M B last R (P ++ (cpre key o st).2.2) L
 | [], o, P, st, h => by simpa [Fmt.cpre] using h
 | b :: key, o, P, [], h => by simpa [Fmt.cpre] using h
 | b :: key, o, P, [u], h => by simpa [Fmt.cpre] using h
 | b :: key, o, P, u :: v :: r, h => by
  simp only [Fmt.cpre]
  cases hu : u.last with
  | none => exact h
  | some q =>
   obtain ⟨i, lo⟩ := q
   by_cases hi : i = b
   ·simp only [hi, if_true]
    have h1 := h.move hu (Nat.min_le_left lo o)
    have h2 := BI.cpre key (o - min lo o) (P ++ [⟨u.nd, some (i, min lo o)⟩]) (addU (lo - min lo o) v :: r) (by simpa using h1)
    rw [hi] at h2
    simpa using h2
   ·simp only [hi, if_false]; exact h
/-- Where the common beginning ends. -/
theorem cpre_end : ∀ (key : List Nat) (o : Nat) (st Q : List Un) (w : Un), st = Q ++ [w] → w.last = none → (∀ u, u ∈ Q → u.last ≠ none) → klt (along st).1 key →
  ∃ P u r b l, (cpre key o st).2.2 = P ++ u :: r ∧ P.length = (cpre key o st).1 ∧ key.drop (cpre key o st).1 = b :: l ∧ (u.last = none ∧ r = [] ∧ u.nd.arcs.length = w.nd.arcs.length ∨ ∃ i lo, u.last = some (i, lo) ∧ i < b)
 | key, o, [], Q, w, h, _, _, _ => by simp at h
 | [], o, u :: r, Q, w, h, hw, hQ, hlt => by
  simp only [along] at hlt
  cases hu : u.last with
  | none => rw [hu] at hlt; exact hlt.elim
  | some q => rw [hu] at hlt; exact hlt.elim
 | b :: key, o, [u], Q, w, h, hw, hQ, hlt => by
  have e : [] ++ [u] = Q ++ [w] := by simpa using h
  obtain ⟨e1, e2⟩ := List.append_inj' e rfl
  simp only [List.cons.injEq, and_true] at e2
  subst e2
  exact ⟨[], u, [], b, key, by simp [cpre], by simp [cpre], by simp [cpre], .inl ⟨hw, rfl, rfl⟩⟩
 | b :: key, o, u :: v :: r, Q, w, h, hw, hQ, hlt => by
  cases Q with
  | nil => simp at h
  | cons x Q =>
   simp only [List.cons_append, List.cons.injEq] at h
   obtain ⟨rfl, h⟩ := h
   have hu' := hQ u (by simp)
   simp only [cpre]
   cases hu : u.last with
   | none => exact absurd hu hu'
   | some q =>
    obtain ⟨i, lo⟩ := q
    simp only [along, hu, klt] at hlt
    by_cases hi : i = b
    ·simp only [hi, if_true]
     have hlt' : klt (along (v :: r)).1 key := by
      rcases hlt with hlt | hlt
      ·omega
      ·exact hlt.2
     have halong : (along (addU (lo - min lo o) v :: r)).1 = (along (v :: r)).1 := by
      simp only [along, addU]
      cases v.last <;> simp
     -- the addition moves nothing
     have hQ' : ∀ x, x ∈ Q → x.last ≠ none := fun x hx => hQ x (by simp [hx])
     cases Q with
     | nil =>
      simp only [List.nil_append, List.cons.injEq] at h
      obtain ⟨rfl, rfl⟩ := h
      obtain ⟨P, u1, r1, b1, l1, k1, k2, k3, k4⟩ := cpre_end key (o - min lo o) (addU (lo - min lo o) v :: []) [] (addU (lo - min lo o) v) rfl ((addU_last _ _).2 hw) (by simp) (by rw [halong]; exact hlt')
      refine ⟨⟨u.nd, some (b, min lo o)⟩ :: P, u1, r1, b1, l1, by rw [k1]; rfl, by simp [k2], by simpa using k3, ?_⟩
      rcases k4 with ⟨k4, k5, k6⟩ | k4
      ·exact .inl ⟨k4, k5, by rw [k6]; simp [addU, addN]⟩
      ·exact .inr k4
     | cons y Q =>
      simp only [List.cons_append, List.cons.injEq] at h
      obtain ⟨rfl, rfl⟩ := h
      obtain ⟨P, u1, r1, b1, l1, k1, k2, k3, k4⟩ := cpre_end key (o - min lo o) (addU (lo - min lo o) v :: (Q ++ [w])) (addU (lo - min lo o) v :: Q) w rfl hw
       (fun x hx => by
        rcases List.mem_cons.1 hx with rfl | hx
        ·exact fun e => hQ' v (by simp) ((addU_last _ _).1 e)
        ·exact hQ' x (by simp [hx])) (by rw [halong]; exact hlt')
      exact ⟨⟨u.nd, some (b, min lo o)⟩ :: P, u1, r1, b1, l1, by rw [k1]; rfl, by simp [k2], by simpa using k3, k4⟩
    ·simp only [hi, if_false]
     refine ⟨[], u, v :: r, b, key, rfl, rfl, rfl, .inr ⟨i, lo, hu, ?_⟩⟩
     rcases hlt with hlt | hlt
     ·exact hlt
     ·exact absurd hlt.1 hi
/-- The rest of a key is laid. -/
theorem chain_good (codes back : Nat → Nat) (B : List Nat) : ∀ (l : List Nat), (∀ x, x ∈ l → x < 256) → ∀ u, u ∈ chain l → Ug codes back B u
 | [], _, u, hu => by
  simp only [chain, List.mem_singleton] at hu
  subst hu
  exact ⟨by simp, by simp, by simp, by simp, by simp⟩
 | b :: l, hl, u, hu => by
  simp only [chain, List.mem_cons] at hu
  rcases hu with rfl | hu
  ·exact ⟨by simp, by simp, by simp, by simp, fun i o h => by simp only [Option.some.injEq, Prod.mk.injEq] at h; exact ⟨by rw [← h.1]; exact hl b (by simp), by simp⟩⟩
  ·exact chain_good codes back B l (fun x hx => hl x (by simp [hx])) u hu
theorem chain_pot (l : List Nat) : pot (chain l) = 28 * l.length + 11 := by
 induction l with
 | nil => simp [chain, pot, pot1]
 | cons b l ih =>
  simp only [chain, pot_cons, ih, List.length_cons]
  simp only [pot1, List.length_nil, Option.toList_some, List.length_cons]
  omega
theorem chain_shp (l : List Nat) : ∃ Q v, chain l = Q ++ [v] ∧ (∀ u, u ∈ Q → u.last ≠ none) ∧ v = ⟨⟨true, 0, []⟩, none⟩ := by
 induction l with
 | nil => exact ⟨[], _, rfl, by simp, rfl⟩
 | cons b l ih =>
  obtain ⟨Q, v, h1, h2, h3⟩ := ih
  refine ⟨⟨⟨false, 0, []⟩, some (b, 0)⟩ :: Q, v, by simp [chain, h1], fun u hu => ?_, h3⟩
  rcases List.mem_cons.1 hu with rfl | hu
  ·simp
  ·exact h2 u hu
theorem along_chain : ∀ l : List Nat, (along (chain l)).1 = l
 | [] => by simp [chain, along]
 | b :: l => by simp [chain, along, along_chain l]
theorem along_app : ∀ (P x : List Un), (∀ p, p ∈ P → p.last ≠ none) → (along (P ++ x)).1 = (along P).1 ++ (along x).1
 | [], x, _ => by simp [along]
 | p :: P, x, h => by
  have := h p (by simp)
  cases hl : p.last with
  | none => exact absurd hl this
  | some q => simp [along, hl, along_app P x (fun q hq => h q (by simp [hq]))]
/-- Between two keys: the last key lies open, behind it nothing. -/
structure Rst (st : List Un) (k : List Nat) : Prop where
 key : (along st).1 = k
 leaf : ∀ Q v, st = Q ++ [v] → v.nd.arcs = []
theorem BI.suffix {codes back : Nat → Nat} {M : Nat} {B : List Nat} {last : Nat} {R : List (Nat × Nd)} {P : List Un} {u : Un} {L : List (List Nat × Nat)} (h : BI codes back M B last R (P ++ [u]) L) {b o val : Nat} {l key : List Nat}
  (hP : ∀ p, p ∈ P → p.last ≠ none) (hu : u.last = none) (hb : ∀ x, x ∈ b :: l → x < 256) (hlt : ∀ t, t ∈ u.nd.arcs → t.1 < b) (hkey : key = (along P).1 ++ b :: l) (hval : (along P).2 + o = val) (h64 : val < 2 ^ 64) :
  BI codes back (M + 28 * key.length) B last R (P ++ ⟨u.nd, some (b, o)⟩ :: chain l) (L ++ [(key, val)]) ∧ Rst (P ++ ⟨u.nd, some (b, o)⟩ :: chain l) key := by
 obtain ⟨Q, v, c1, c2, c3⟩ := chain_shp l
 refine ⟨⟨h.h16, h.lst, h.reg, ?_, ?_, ?_, ?_, ?_⟩, ?_, ?_⟩
 ·rw [← h.means, mean_grow (getB back B) (⟨u.nd, some (b, o)⟩ :: chain l) [u] (b :: l, o) (mean_suffix _ u hu b l o) P hP, hkey, hval]
 ·intro x hx
  simp only [List.mem_append, List.mem_cons] at hx
  rcases hx with hx | rfl | hx
  ·exact h.good x (by simp [hx])
  ·have hg := h.good u (by simp)
   exact ⟨hg.ok, hg.byte, hg.inc, hg.no, fun i o' e => by simp only [Option.some.injEq, Prod.mk.injEq] at e; obtain ⟨rfl, rfl⟩ := e; exact ⟨hb _ (by simp), hlt⟩⟩
  ·exact chain_good codes back B l (fun x hx => hb x (by simp [hx])) x hx
 ·intro q hq
  rcases List.mem_append.1 hq with hq | hq
  ·exact h.small q hq
  ·rw [List.mem_singleton] at hq; subst hq; exact h64
 ·have := h.room
  have hlen : key.length = (along P).1.length + (l.length + 1) := by rw [hkey]; simp
  simp only [pot_app, pot_cons, pot_nil, chain_pot] at this ⊢
  simp only [pot1, hu, Option.toList_some, Option.toList_none, List.length_cons, List.length_nil] at this ⊢
  omega
 ·refine ⟨P ++ ⟨u.nd, some (b, o)⟩ :: Q, v, by rw [c1]; simp, fun x hx => ?_, by rw [c3], fun _ => .inl (by rw [c3])⟩
  simp only [List.mem_append, List.mem_cons] at hx
  rcases hx with hx | rfl | hx
  ·exact hP x hx
  ·simp
  ·exact c2 x hx
 ·rw [along_app _ _ hP, hkey]
  simp [along, along_chain]
 ·intro Q' v' e
  have e' : (P ++ ⟨u.nd, some (b, o)⟩ :: Q) ++ [v] = Q' ++ [v'] := by rw [← e, c1]; simp
  have := (List.append_inj' e' rfl).2
  simp only [List.cons.injEq, and_true] at this
  rw [← this, c3]
/-- The root, closed: all pairs lie behind its address. -/
theorem BI.root {codes back : Nat → Nat} (hc : Codes codes back) {M : Nat} (hM : M < 2 ^ 60) {B : List Nat} {last : Nat} {R : List (Nat × Nd)} {v : Un} {L : List (List Nat × Nat)} (h : BI codes back M B last R [v] L)
  {a : Nat} {B' : List Nat} {last' : Nat} {R' : List (Nat × Nd)} (hk : Cmp codes B last R v.nd a B' last' R') : Ok codes back B' a ∧ keysAt (getB back B') a = L ∧ 16 ≤ B'.length ∧ B'.length ≤ M := by
 have hv := h.good v (by simp)
 have h16 := h.h16
 have hroom := h.room
 have hm := h.means
 have hl : v.last = none := by
  obtain ⟨Q, w, p1, p2, p3, p4⟩ := h.shp.parts
  have := (List.append_inj' (show [] ++ [v] = Q ++ [w] by simpa using p1) rfl).2
  simp only [List.cons.injEq, and_true] at this
  rw [this]; exact p3
 simp only [mean, hl, List.append_nil] at hm
 simp only [pot_cons, pot_nil, pot1, hl, Option.toList_none, List.length_nil] at hroom
 have h60 : (2 : Nat) ^ 60 < 2 ^ 64 := by decide
 cases hk with
 | nil f1 f2 f3 =>
  refine ⟨.zero, ?_, h16, by omega⟩
  rw [keysAt_zero, ← hm]; simp [own, f1, f2, f3]
 | found _ _ hf hR =>
  obtain ⟨r0, r1, r2, r3⟩ := h.reg _ hf
  refine ⟨r1, ?_, h16, by omega⟩
  rw [keys_own back B r0, r2, hm]
 | new _ hR =>
  have hwf := BI.wf (Q := []) (v := v) h
  obtain ⟨k1, k2, k3⟩ := ok_new hc h16 (by omega) hwf (fun t ht => (hv.ok t ht).1) (fun t ht => (hv.ok t ht).2)
  have := enc_len B.length last codes v.nd
  exact ⟨k1, by rw [k3, hm], by simp; omega, by simp; omega⟩
end Go.Proofs.YtmhlnijpimjjaaaGreatDoor.Fmt
namespace Go.Proofs.YtmhlnijpimjjaaaGreatDoor.Fmt

abbrev Prs := List (List Nat × Nat)
/-- Keys rise. -/
def Srt (l : Prs) : Prop := l.Pairwise fun p q => klt p.1 q.1
/-- The values of a key, map by map. -/
def valsOf (sets : List Prs) (k : List Nat) : List Nat := sets.flatMap fun l => (l.filter fun p => decide (p.1 = k)).map fun p => p.2
/-- A merge of maps: keys rise, and each key has what J makes of its values. -/
structure Mrg (J : List Nat → Nat) (sets : List Prs) (D : Prs) : Prop where
 srt : Srt D
 mem : ∀ p, p ∈ D ↔ valsOf sets p.1 ≠ [] ∧ p.2 = J (valsOf sets p.1)
theorem srt_ext : ∀ {a b : Prs}, Srt a → Srt b → (∀ p, p ∈ a ↔ p ∈ b) → a = b
 | [], [], _, _, _ => rfl
 | [], q :: b, _, _, h => by have := (h q).2 (by simp); cases this
 | p :: a, [], _, _, h => by have := (h p).1 (by simp); cases this
 | p :: a, q :: b, ha, hb, h => by
  unfold Srt at ha hb
  rw [List.pairwise_cons] at ha hb
  have e : p = q := by
   rcases List.mem_cons.1 ((h p).1 (by simp)) with h1 | h1
   ·exact h1
   ·rcases List.mem_cons.1 ((h q).2 (by simp)) with h2 | h2
    ·exact h2.symm
    ·exact absurd (klt_trans (hb.1 p h1) (ha.1 q h2)) (klt_irrefl _)
  subst e
  congr 1
  refine srt_ext ha.2 hb.2 (fun x => ⟨fun hx => ?_, fun hx => ?_⟩)
  ·rcases List.mem_cons.1 ((h x).1 (by simp [hx])) with h1 | h1
   ·subst h1; exact absurd (ha.1 x hx) (klt_irrefl _)
   ·exact h1
  ·rcases List.mem_cons.1 ((h x).2 (by simp [hx])) with h1 | h1
   ·subst h1; exact absurd (hb.1 x hx) (klt_irrefl _)
   ·exact h1
theorem Mrg.uniq {J : List Nat → Nat} {sets : List Prs} {D D' : Prs} (h : Mrg J sets D) (h' : Mrg J sets D') : D = D' :=
 srt_ext h.srt h'.srt fun p => (h.mem p).trans (h'.mem p).symm
theorem vals_mem {sets : List Prs} {k : List Nat} : valsOf sets k ≠ [] ↔ ∃ l, l ∈ sets ∧ ∃ p, p ∈ l ∧ p.1 = k := by
 unfold valsOf
 constructor
 ·intro h
  cases e : (sets.flatMap fun l => (l.filter fun p => decide (p.1 = k)).map fun p => p.2) with
  | nil => exact absurd e h
  | cons v r =>
   have : v ∈ (sets.flatMap fun l => (l.filter fun p => decide (p.1 = k)).map fun p => p.2) := by rw [e]; simp
   obtain ⟨l, hl, hv⟩ := List.mem_flatMap.1 this
   obtain ⟨p, hp, _⟩ := List.mem_map.1 hv
   rw [List.mem_filter] at hp
   exact ⟨l, hl, p, hp.1, of_decide_eq_true hp.2⟩
 ·rintro ⟨l, hl, p, hp, rfl⟩ e
  have : p.2 ∈ (sets.flatMap fun l => (l.filter fun q => decide (q.1 = p.1)).map fun p => p.2) :=
   List.mem_flatMap.2 ⟨l, hl, List.mem_map.2 ⟨p, List.mem_filter.2 ⟨hp, by simp⟩, rfl⟩⟩
  rw [e] at this; cases this

/-- Maps gone through side by side: of each what is behind, and what is ahead; D: what has been given. -/
structure Run (J : List Nat → Nat) (ps : List (Prs × Prs)) (D : Prs) : Prop where
 mrg : Mrg J (ps.map fun p => p.1) D
 srt : ∀ p, p ∈ ps → Srt (p.1 ++ p.2)
 low : ∀ d, d ∈ D → ∀ p, p ∈ ps → ∀ q, q ∈ p.2 → klt d.1 q.1
theorem Run.start (J : List Nat → Nat) (sets : List Prs) (h : ∀ l, l ∈ sets → Srt l) : Run J (sets.map fun l => ([], l)) [] := by
 refine ⟨⟨List.Pairwise.nil, fun p => Iff.intro (fun h => (by simp at h)) (fun h => ?_)⟩, ?_, by simp⟩
 ·have := vals_mem.1 h.1
  obtain ⟨l, hl, q, hq, _⟩ := this
  simp only [List.map_map, List.mem_map, Function.comp] at hl
  obtain ⟨x, _, rfl⟩ := hl
  cases hq
 ·intro p hp
  obtain ⟨l, hl, rfl⟩ := List.mem_map.1 hp
  exact h l hl
/-- One map's step: where its first key is k, it is behind. -/
def adv (k : List Nat) (p : Prs × Prs) : Prs × Prs := match p.2 with
 | q :: r => if q.1 = k then (p.1 ++ [q], r) else p
 | [] => p
/-- The values at k of the maps' first pairs. -/
def heads (k : List Nat) (ps : List (Prs × Prs)) : List Nat := ps.flatMap fun p => match p.2 with
 | q :: _ => if q.1 = k then [q.2] else []
 | [] => []
theorem adv_app (k : List Nat) (p : Prs × Prs) : (adv k p).1 ++ (adv k p).2 = p.1 ++ p.2 := by
 unfold adv
 obtain ⟨c, r⟩ := p
 cases r with
 | nil => rfl
 | cons q r =>
  simp only
  split
  ·simp
  ·rfl
theorem vals_adv {k k' : List Nat} : ∀ (ps : List (Prs × Prs)), valsOf ((ps.map (adv k)).map fun p => p.1) k' = ps.flatMap fun p => ((p.1.filter fun q => decide (q.1 = k')).map fun q => q.2) ++ (match p.2 with
  | q :: _ => if q.1 = k ∧ k = k' then [q.2] else []
  | [] => [])
 | [] => rfl
 | p :: ps => by
  have ih := vals_adv (k := k) (k' := k') ps
  unfold valsOf at ih ⊢
  simp only [List.map_cons, List.flatMap_cons, ih]
  congr 1
  obtain ⟨c, r⟩ := p
  unfold adv
  cases r with
  | nil => simp
  | cons q r =>
   simp only
   by_cases h1 : q.1 = k
   ·by_cases h2 : k = k'
    ·subst h2; simp [h1]
    ·simp [h1, h2]
   ·simp [h1]
theorem Run.next {J : List Nat → Nat} {ps : List (Prs × Prs)} {D : Prs} (h : Run J ps D) {k : List Nat} (hmin : ∀ p, p ∈ ps → ∀ q r, p.2 = q :: r → q.1 = k ∨ klt k q.1) (hex : ∃ p, p ∈ ps ∧ ∃ q r, p.2 = q :: r ∧ q.1 = k) :
  Run J (ps.map (adv k)) (D ++ [(k, J (heads k ps))]) := by
 obtain ⟨p0, hp0, q0, r0, e0, rfl⟩ := hex
 have hD : ∀ d, d ∈ D → klt d.1 q0.1 := fun d hd => h.low d hd p0 hp0 q0 (by rw [e0]; simp)
 have hno : ∀ p, p ∈ ps → (p.1.filter fun q => decide (q.1 = q0.1)) = [] := by
  intro p hp
  rw [List.filter_eq_nil_iff]
  intro q hq hd
  have hk := of_decide_eq_true hd
  have hv : valsOf (ps.map fun p => p.1) q.1 ≠ [] := vals_mem.2 ⟨p.1, List.mem_map.2 ⟨p, hp, rfl⟩, q, hq, rfl⟩
  have := hD (q.1, J (valsOf (ps.map fun p => p.1) q.1)) ((h.mrg.mem _).2 ⟨hv, rfl⟩)
  simp only at this
  rw [hk] at this
  exact klt_irrefl _ this
 have hsame : ∀ k', k' ≠ q0.1 → valsOf ((ps.map (adv q0.1)).map fun p => p.1) k' = valsOf (ps.map fun p => p.1) k' := by
  intro k' hk'
  rw [vals_adv]
  unfold valsOf
  rw [List.flatMap_map]
  refine flatMap_congr' _ (fun p hp => ?_)
  obtain ⟨c, r⟩ := p
  cases r with
  | nil => simp
  | cons q r => simp [Ne.symm hk']
 have hnew : valsOf ((ps.map (adv q0.1)).map fun p => p.1) q0.1 = heads q0.1 ps := by
  rw [vals_adv]
  unfold heads
  refine flatMap_congr' _ (fun p hp => ?_)
  rw [hno p hp]
  obtain ⟨c, r⟩ := p
  cases r with
  | nil => simp
  | cons q r => simp
 have hhd : heads q0.1 ps ≠ [] := by
  intro e
  have : q0.2 ∈ heads q0.1 ps := by
   unfold heads
   exact List.mem_flatMap.2 ⟨p0, hp0, by rw [e0]; simp⟩
  rw [e] at this; cases this
 refine ⟨⟨?_, fun p => ?_⟩, ?_, ?_⟩
 ·unfold Srt
  rw [List.pairwise_append]
  exact ⟨h.mrg.srt, by simp, fun d hd x hx => by rw [List.mem_singleton] at hx; subst hx; exact hD d hd⟩
 ·rw [List.mem_append, List.mem_singleton]
  by_cases hp : p.1 = q0.1
  ·rw [hp, hnew]
   constructor
   ·rintro (h1 | rfl)
    ·have := hD p h1; rw [hp] at this; exact absurd this (klt_irrefl _)
    ·exact ⟨hhd, rfl⟩
   ·rintro ⟨_, h2⟩
    exact .inr (by rw [← h2, ← hp])
  ·rw [hsame p.1 hp, ← h.mrg.mem]
   exact ⟨fun h1 => h1.elim id (fun e => absurd (by rw [e]) hp), .inl⟩
 ·intro p hp
  obtain ⟨p', hp', rfl⟩ := List.mem_map.1 hp
  rw [adv_app]
  exact h.srt p' hp'
 ·intro d hd p hp q hq
  obtain ⟨p', hp', rfl⟩ := List.mem_map.1 hp
  have hs := h.srt p' hp'
  have hm := hmin p' hp'
  obtain ⟨c, r⟩ := p'
  have hq' : q ∈ r ∧ (∀ q1 r1, r = q1 :: r1 → klt q0.1 q.1) := by
   unfold adv at hq
   cases r with
   | nil => simp at hq
   | cons q1 r1 =>
    simp only at hq hs hm
    unfold Srt at hs
    rw [List.pairwise_append] at hs
    have hs2 := hs.2.1
    rw [List.pairwise_cons] at hs2
    by_cases h1 : q1.1 = q0.1
    ·rw [if_pos h1] at hq
     simp only at hq
     refine ⟨by simp [hq], fun a b e => ?_⟩
     have := hs2.1 q hq
     rw [h1] at this; exact this
    ·rw [if_neg h1] at hq
     simp only at hq
     refine ⟨hq, fun a b e => ?_⟩
     have h2 : klt q0.1 q1.1 := (hm q1 r1 rfl).resolve_left h1
     rcases List.mem_cons.1 hq with rfl | h3
     ·exact h2
     ·exact klt_trans h2 (hs2.1 q h3)
  rcases List.mem_append.1 hd with hd | hd
  ·exact h.low d hd _ hp' q hq'.1
  ·rw [List.mem_singleton] at hd
   subst hd
   cases hr : r with
   | nil => rw [hr] at hq'; cases hq'.1
   | cons a b => exact hq'.2 a b hr
theorem Run.done {J : List Nat → Nat} {ps : List (Prs × Prs)} {D : Prs} (h : Run J ps D) (he : ∀ p, p ∈ ps → p.2 = []) : Mrg J (ps.map fun p => p.1 ++ p.2) D := by
 have e : (ps.map fun p => p.1 ++ p.2) = ps.map fun p => p.1 := List.map_congr_left fun p hp => by rw [he p hp, List.append_nil]
 rw [e]; exact h.mrg
end Go.Proofs.YtmhlnijpimjjaaaGreatDoor.Fmt
namespace Go.Proofs.YtmhlnijpimjjaaaGreatDoor.Fmt

/-- The state at an address; at 0 the final one without transitions. -/
def nodeOf (get : Nat → Nd) (a : Nat) : Nd := if a = 0 then ⟨true, 0, []⟩ else get a
theorem nodeOf_pos {get : Nat → Nd} {a : Nat} (h : a ≠ 0) : nodeOf get a = get a := if_neg h
theorem keys_node (get : Nat → Nd) (hd : ∀ a, Down get a) (a : Nat) : keysAt get a = own get (nodeOf get a) := by
 by_cases h : a = 0
 ·subst h; rw [keysAt_zero]; simp [nodeOf, own]
 ·rw [nodeOf_pos h, keysAt_node h (hd a)]; rfl
theorem node_down {get : Nat → Nd} (hd : ∀ a, Down get a) {a : Nat} {t : Nat × Nat × Nat} (ht : t ∈ (nodeOf get a).arcs) : t.2.2 < a := by
 by_cases h : a = 0
 ·subst h; simp [nodeOf] at ht
 ·rw [nodeOf_pos h] at ht; exact hd a a (Nat.le_refl _) h t ht
/-- How many states lie behind an address, each as often as it is come to. -/
def tszN (get : Nat → Nd) : Nat → Nat → Nat
 | 0, _ => 0
 | n + 1, a => 1 + ((nodeOf get a).arcs.map fun t => tszN get n t.2.2).sum
def tsz (get : Nat → Nd) (a : Nat) : Nat := tszN get (a + 1) a
theorem tszN_fuel {get : Nat → Nd} (hd : ∀ a, Down get a) : ∀ (n m a : Nat), a < n → a < m → tszN get n a = tszN get m a
 | 0, _, _, h, _ => by omega
 | n + 1, 0, _, _, h => by omega
 | n + 1, m + 1, a, h1, h2 => by
  simp only [tszN]
  congr 2
  refine List.map_congr_left fun t ht => ?_
  have := node_down hd ht
  exact tszN_fuel hd n m t.2.2 (by omega) (by omega)
def arcSz (get : Nat → Nd) (a q : Nat) : Nat := (((nodeOf get a).arcs.drop q).map fun t => tsz get t.2.2).sum
theorem tsz_node {get : Nat → Nd} (hd : ∀ a, Down get a) (a : Nat) : tsz get a = 1 + arcSz get a 0 := by
 show tszN get (a + 1) a = _
 simp only [tszN, arcSz, List.drop_zero]
 congr 2
 refine List.map_congr_left fun t ht => ?_
 have := node_down hd ht
 exact tszN_fuel hd _ _ _ this (by omega)

def arcAt (get : Nat → Nd) (a q : Nat) : Nat × Nat × Nat := (nodeOf get a).arcs.getD q (0, 0, 0)
theorem arc_get {get : Nat → Nd} {a q : Nat} (h : q < (nodeOf get a).arcs.length) : (nodeOf get a).arcs[q]? = some (arcAt get a q) := by
 unfold arcAt; rw [List.getD_eq_getElem?_getD, List.getElem?_eq_getElem h]; rfl
theorem arc_mem {get : Nat → Nd} {a q : Nat} (h : q < (nodeOf get a).arcs.length) : arcAt get a q ∈ (nodeOf get a).arcs := List.mem_of_getElem? (arc_get h)
theorem arc_drop {get : Nat → Nd} {a q : Nat} (h : q < (nodeOf get a).arcs.length) : (nodeOf get a).arcs.drop q = arcAt get a q :: (nodeOf get a).arcs.drop (q + 1) := by
 rw [List.drop_eq_getElem_cons h]
 congr 1
 have := arc_get h
 rw [List.getElem?_eq_getElem h] at this
 exact Option.some.inj this
/-- The pairs behind a state's transitions from one on. -/
def arcKeys (get : Nat → Nd) (a q : Nat) : Prs := ((nodeOf get a).arcs.drop q).flatMap fun t => pre t.1 t.2.1 (keysAt get t.2.2)
theorem arcKeys_cons {get : Nat → Nd} {a q : Nat} (h : q < (nodeOf get a).arcs.length) : arcKeys get a q = pre (arcAt get a q).1 (arcAt get a q).2.1 (keysAt get (arcAt get a q).2.2) ++ arcKeys get a (q + 1) := by
 unfold arcKeys; rw [arc_drop h]; rfl
theorem arcKeys_nil {get : Nat → Nd} {a q : Nat} (h : (nodeOf get a).arcs.length ≤ q) : arcKeys get a q = [] := by
 unfold arcKeys; rw [List.drop_eq_nil_of_le h]; rfl
theorem arcSz_cons {get : Nat → Nd} {a q : Nat} (h : q < (nodeOf get a).arcs.length) : arcSz get a q = tsz get (arcAt get a q).2.2 + arcSz get a (q + 1) := by
 unfold arcSz; rw [arc_drop h]; simp
theorem arcSz_nil {get : Nat → Nd} {a q : Nat} (h : (nodeOf get a).arcs.length ≤ q) : arcSz get a q = 0 := by
 unfold arcSz; rw [List.drop_eq_nil_of_le h]; rfl

abbrev Way := List (Nat × Nat)
/-- A way from an address to another one: the states on it, each with the place of the transition that is taken. -/
def WayTo (get : Nat → Nd) : Nat → Way → Nat → Prop
 | r, [], a => r = a
 | r, (b, q) :: P, a => b = r ∧ q < (nodeOf get b).arcs.length ∧ WayTo get (arcAt get b q).2.2 P a
def wkey (get : Nat → Nd) (P : Way) : List Nat := P.map fun p => (arcAt get p.1 p.2).1
def wval (get : Nat → Nd) (P : Way) : Nat := (P.map fun p => (arcAt get p.1 p.2).2.1).sum
def ahead (get : Nat → Nd) : Way → Nat → Nat → Prs
 | [], a, q => arcKeys get a q
 | (b, p) :: P, a, q => pre (arcAt get b p).1 (arcAt get b p).2.1 (ahead get P a q) ++ arcKeys get b (p + 1)
def aheadSz (get : Nat → Nd) : Way → Nat → Nat → Nat
 | [], a, q => arcSz get a q
 | (b, p) :: P, a, q => aheadSz get P a q + arcSz get b (p + 1)
theorem way_snoc {get : Nat → Nd} : ∀ {P : Way} {r a q : Nat}, WayTo get r P a → q < (nodeOf get a).arcs.length → WayTo get r (P ++ [(a, q)]) (arcAt get a q).2.2
 | [], r, a, q, h, hq => by simp only [WayTo] at h; subst h; exact ⟨rfl, hq, rfl⟩
 | (b, p) :: P, r, a, q, h, hq => ⟨h.1, h.2.1, way_snoc h.2.2 hq⟩
theorem way_split {get : Nat → Nd} : ∀ {P1 P2 : Way} {r a b q : Nat}, WayTo get r (P1 ++ (b, q) :: P2) a → WayTo get r P1 b ∧ q < (nodeOf get b).arcs.length ∧ WayTo get (arcAt get b q).2.2 P2 a
 | [], P2, r, a, b, q, h => ⟨h.1.symm, h.2⟩
 | (c, p) :: P1, P2, r, a, b, q, h => by
  obtain ⟨h1, h2, h3⟩ := h
  obtain ⟨k1, k2⟩ := way_split h3
  exact ⟨⟨h1, h2, k1⟩, k2⟩
/-- A transition is taken. -/
theorem ahead_push {get : Nat → Nd} (hd : ∀ a, Down get a) : ∀ (P : Way) (a q : Nat), q < (nodeOf get a).arcs.length →
  ahead get P a q = (if (nodeOf get (arcAt get a q).2.2).fin then [(wkey get P ++ [(arcAt get a q).1], wval get P + ((arcAt get a q).2.1 + (nodeOf get (arcAt get a q).2.2).fout))] else []) ++ ahead get (P ++ [(a, q)]) (arcAt get a q).2.2 0
 | [], a, q, h => by
  simp only [ahead, List.nil_append]
  rw [arcKeys_cons h, keys_node get hd, own, pre_app, List.append_assoc]
  congr 1
  split <;> simp [pre, wkey, wval]
 | (b, p) :: P, a, q, h => by
  simp only [ahead, List.cons_append]
  rw [ahead_push hd P a q h, pre_app, List.append_assoc]
  congr 1
  split <;> simp [pre, wkey, wval, Nat.add_assoc]
theorem aheadSz_push {get : Nat → Nd} (hd : ∀ a, Down get a) : ∀ (P : Way) (a q : Nat), q < (nodeOf get a).arcs.length → aheadSz get P a q = 1 + aheadSz get (P ++ [(a, q)]) (arcAt get a q).2.2 0
 | [], a, q, h => by
  simp only [aheadSz, List.nil_append]
  rw [arcSz_cons h, tsz_node hd]; omega
 | (b, p) :: P, a, q, h => by
  simp only [aheadSz, List.cons_append]
  rw [aheadSz_push hd P a q h]; omega
/-- Back by one state. -/
theorem ahead_pop {get : Nat → Nd} : ∀ (P : Way) (b p a q : Nat), (nodeOf get a).arcs.length ≤ q → ahead get (P ++ [(b, p)]) a q = ahead get P b (p + 1)
 | [], b, p, a, q, h => by simp only [List.nil_append, ahead, arcKeys_nil h]; simp [pre]
 | (c, s) :: P, b, p, a, q, h => by simp only [List.cons_append, ahead, ahead_pop P b p a q h]
theorem aheadSz_pop {get : Nat → Nd} : ∀ (P : Way) (b p a q : Nat), (nodeOf get a).arcs.length ≤ q → aheadSz get (P ++ [(b, p)]) a q = aheadSz get P b (p + 1)
 | [], b, p, a, q, h => by simp only [List.nil_append, aheadSz, arcSz_nil h]; omega
 | (c, s) :: P, b, p, a, q, h => by simp only [List.cons_append, aheadSz, aheadSz_pop P b p a q h]
/-- Back by several states, of which those between have one transition. -/
theorem ahead_pops {get : Nat → Nd} : ∀ (n : Nat) (P2 P1 : Way) (b p a q r : Nat), P2.length = n → WayTo get r (P1 ++ (b, p) :: P2) a → (∀ x, x ∈ P2 → (nodeOf get x.1).arcs.length = 1) → (nodeOf get a).arcs.length ≤ q →
  ahead get (P1 ++ (b, p) :: P2) a q = ahead get P1 b (p + 1) ∧ aheadSz get (P1 ++ (b, p) :: P2) a q = aheadSz get P1 b (p + 1)
 | 0, P2, P1, b, p, a, q, r, hn, _, _, hq => by
  rw [List.length_eq_zero_iff] at hn
  subst hn
  exact ⟨ahead_pop P1 b p a q hq, aheadSz_pop P1 b p a q hq⟩
 | n + 1, P2, P1, b, p, a, q, r, hn, hw, h1, hq => by
  rcases List.eq_nil_or_concat P2 with rfl | ⟨P3, ⟨c, s⟩, hP⟩
  ·cases hn
  ·rw [List.concat_eq_append] at hP
   subst hP
   have e : P1 ++ (b, p) :: (P3 ++ [(c, s)]) = (P1 ++ (b, p) :: P3) ++ [(c, s)] := by simp
   rw [e] at hw ⊢
   obtain ⟨w1, w2, w3⟩ := way_split hw
   have hc := h1 (c, s) (by simp)
   simp only at hc
   rw [ahead_pop _ c s a q hq, aheadSz_pop _ c s a q hq]
   exact ahead_pops n P3 P1 b p c (s + 1) r (by simpa using hn) w1 (fun x hx => h1 x (by simp [hx])) (by omega)
theorem wkey_snoc (get : Nat → Nd) (P : Way) (a q : Nat) : wkey get (P ++ [(a, q)]) = wkey get P ++ [(arcAt get a q).1] := by simp [wkey]
theorem wval_snoc (get : Nat → Nd) (P : Way) (a q : Nat) : wval get (P ++ [(a, q)]) = wval get P + (arcAt get a q).2.1 := by simp [wval]
theorem ahead_root {get : Nat → Nd} (hd : ∀ a, Down get a) {r : Nat} (h : (nodeOf get r).fin = false) : ahead get [] r 0 = keysAt get r := by
 rw [keys_node get hd]; simp [own, h, ahead, arcKeys]

/-- Keys behind what was written rise. -/
theorem srt_pre {i o : Nat} {l : Prs} (h : Srt l) : Srt (pre i o l) := by
 unfold Srt pre
 rw [List.pairwise_map]
 exact h.imp fun hpq => .inr ⟨rfl, hpq⟩
theorem srt_arcs (get : Nat → Nd) : ∀ (l : List (Nat × Nat × Nat)), (l.map fun t => t.1).Pairwise (· < ·) → (∀ t, t ∈ l → Srt (keysAt get t.2.2)) → Srt (l.flatMap fun t => pre t.1 t.2.1 (keysAt get t.2.2))
 | [], _, _ => List.Pairwise.nil
 | t :: l, hi, hs => by
  simp only [List.map_cons, List.pairwise_cons] at hi
  simp only [List.flatMap_cons]
  unfold Srt
  rw [List.pairwise_append]
  refine ⟨srt_pre (hs t (by simp)), srt_arcs get l hi.2 (fun s h => hs s (by simp [h])), fun x hx y hy => ?_⟩
  obtain ⟨x', _, rfl⟩ := List.mem_map.1 hx
  obtain ⟨s, hs', hy⟩ := List.mem_flatMap.1 hy
  obtain ⟨y', _, rfl⟩ := List.mem_map.1 hy
  exact .inl (hi.1 s.1 (List.mem_map.2 ⟨s, hs', rfl⟩))
theorem srt_own (get : Nat → Nd) (s : Nd) (hi : (s.arcs.map fun t => t.1).Pairwise (· < ·)) (hs : ∀ t, t ∈ s.arcs → Srt (keysAt get t.2.2)) : Srt (own get s) := by
 unfold own Srt
 rw [List.pairwise_append]
 refine ⟨by split <;> simp, srt_arcs get s.arcs hi hs, fun x hx y hy => ?_⟩
 split at hx
 ·rw [List.mem_singleton] at hx
  subst hx
  obtain ⟨t, _, hy⟩ := List.mem_flatMap.1 hy
  obtain ⟨y', _, rfl⟩ := List.mem_map.1 hy
  exact trivial
 ·cases hx
theorem Ok.srt {codes back : Nat → Nat} (hc : Codes codes back) {B : List Nat} (hl : B.length < 2 ^ 64) : ∀ (n a : Nat), a < n → Ok codes back B a → Srt (keysAt (getB back B) a)
 | 0, a, h, _ => by omega
 | n + 1, a, h, hk => by
  by_cases h0 : a = 0
  ·subst h0; rw [keysAt_zero]; simp [Srt]
  ·obtain ⟨B0, R, last, _, _, hw, hs, _⟩ := hk.cases' hc hl h0
   rw [keysAt_node h0 (getB_down _ _ _)]
   exact srt_own _ _ hw.inc (fun t ht => Ok.srt hc hl n t.2.2 (by have := getB_down back B a a (Nat.le_refl _) h0 t ht; omega) (hs t ht).1)
theorem Ok.to {codes back : Nat → Nat} (hc : Codes codes back) {B : List Nat} (hl : B.length < 2 ^ 64) {a : Nat} (h : Ok codes back B a) {t : Nat × Nat × Nat} (ht : t ∈ (nodeOf (getB back B) a).arcs) : Ok codes back B t.2.2 ∧ keysAt (getB back B) t.2.2 ≠ [] := by
 by_cases h0 : a = 0
 ·subst h0; simp [nodeOf] at ht
 ·obtain ⟨_, _, _, _, _, _, hs, _⟩ := h.cases' hc hl h0
  rw [nodeOf_pos h0] at ht
  exact hs t ht
end Go.Proofs.YtmhlnijpimjjaaaGreatDoor.Fmt
