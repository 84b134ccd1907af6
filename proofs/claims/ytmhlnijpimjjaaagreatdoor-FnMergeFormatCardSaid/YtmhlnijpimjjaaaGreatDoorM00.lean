/- Numbers as bytes, the lowest first, in so many places. No condition. The pairs that a state's address stands for. Condition: transitions lead to lower addresses. The builder's open states as a list, and the pairs that they stand for. No condition. One more key in the builder's open states: the pairs that they stand for are those from before and the new one. No condition. Reading a state's bytes from the highest down gives the state back. Condition: transitions lead down, at most 256 of them, numbers below 2^64. Reading a state's bytes from the highest down gives the state back. Condition: transitions lead down, at most 256 of them, numbers below 2^64. The states in a row of bytes, each read at the place of its last byte; what is written behind changes none of them. Condition: short codes that go both ways. -/
set_option linter.unusedSimpArgs false
set_option linter.unusedVariables false
namespace Go.Proofs.YtmhlnijpimjjaaaGreatDoor.Fmt

/-- The number of bytes, the lowest first. -/
def unp : List Nat → Nat
 | [] => 0
 | b :: l => b + 256 * unp l
/-- A number's lowest bytes. -/
def pk (v : Nat) : Nat → List Nat
 | 0 => []
 | n + 1 => v % 256 :: pk (v / 256) n
theorem pk_len (v n : Nat) : (pk v n).length = n := by
 induction n generalizing v with
 | zero => rfl
 | succ n ih => simp [pk, ih]
theorem pk_lt (v n : Nat) : ∀ x, x ∈ pk v n → x < 256 := by
 induction n generalizing v with
 | zero => intro x hx; simp [pk] at hx
 | succ n ih =>
  intro x hx
  simp only [pk, List.mem_cons] at hx
  rcases hx with rfl | hx
  ·exact Nat.mod_lt _ (by decide)
  ·exact ih _ x hx
theorem unp_pk (v n : Nat) (h : v < 256 ^ n) : unp (pk v n) = v := by
 induction n generalizing v with
 | zero => simp only [Nat.pow_zero] at h; simp [pk, unp]; omega
 | succ n ih =>
  have h1 : v / 256 < 256 ^ n := by
   rw [Nat.pow_succ] at h
   exact Nat.div_lt_of_lt_mul (by rw [Nat.mul_comm]; exact h)
  simp only [pk, unp, ih _ h1]
  omega
theorem unp_lt (l : List Nat) (h : ∀ x, x ∈ l → x < 256) : unp l < 256 ^ l.length := by
 induction l with
 | nil => simp [unp]
 | cons b l ih =>
  have h1 := ih (fun x hx => h x (by simp [hx]))
  have h2 := h b (by simp)
  simp only [unp, List.length_cons, Nat.pow_succ]
  omega
/-- How many bytes a number takes. -/
def psz (v : Nat) : Nat :=
 if v < 2 ^ 8 then 1 else if v < 2 ^ 16 then 2 else if v < 2 ^ 24 then 3 else if v < 2 ^ 32 then 4 else if v < 2 ^ 40 then 5 else if v < 2 ^ 48 then 6 else if v < 2 ^ 56 then 7 else 8
theorem psz_fit {v : Nat} (h : v < 2 ^ 64) : v < 256 ^ psz v := by
 unfold psz
 (repeat' split) <;> simp only [Nat.reducePow] at * <;> omega
theorem psz_le (v : Nat) : 1 ≤ psz v ∧ psz v ≤ 8 := by
 unfold psz
 (repeat' split) <;> omega
theorem pow_mono {a b : Nat} (h : a ≤ b) : 256 ^ a ≤ 256 ^ b := Nat.pow_le_pow_right (by decide) h

/-- A state: final or not, what it gives as final, its transitions: byte, output, address. -/
structure Nd where
 fin : Bool
 fout : Nat
 arcs : List (Nat × Nat × Nat)

/-- How far an address lies below. -/
def delta (start a : Nat) : Nat := if a = 0 then 0 else start - a
def maxSz (l : List Nat) (m : Nat) : Nat := l.foldl (fun m v => max m (psz v)) m
theorem maxSz_ge (l : List Nat) : ∀ m, m ≤ maxSz l m ∧ ∀ v, v ∈ l → psz v ≤ maxSz l m := by
 induction l with
 | nil => intro m; exact ⟨Nat.le_refl _, by simp⟩
 | cons a l ih =>
  intro m
  have h := ih (max m (psz a))
  simp only [maxSz, List.foldl_cons] at *
  refine ⟨by omega, fun v hv => ?_⟩
  rcases List.mem_cons.1 hv with rfl | hv
  ·omega
  ·exact h.2 v hv

/-- The bytes of a state of many transitions, the lowest first. -/
def encMany (start : Nat) (s : Nd) : List Nat :=
 let far := maxSz (s.arcs.map fun a => delta start a.2.2) 0
 let any := decide (s.fout ≠ 0) || s.arcs.any fun a => decide (a.2.1 ≠ 0)
 let out := if any then maxSz (s.arcs.map fun a => a.2.1) (psz s.fout) else 0
 (if any && s.fin then pk s.fout out else []) ++ (if any then (s.arcs.reverse.flatMap fun a => pk a.2.1 out) else []) ++ (s.arcs.reverse.flatMap fun a => pk (delta start a.2.2) far) ++ (s.arcs.reverse.map fun a => a.1) ++ [far * 16 + out] ++
  (if s.arcs.length = 256 then [1] else if s.arcs.length = 0 ∨ 63 < s.arcs.length then [s.arcs.length] else []) ++ [(if 63 < s.arcs.length then 0 else s.arcs.length) + (if s.fin then 64 else 0)]
/-- The bytes of a state of one transition. -/
def encOne (start last : Nat) (codes : Nat → Nat) (i o a : Nat) : List Nat :=
 let tail := (if codes i = 0 then [i] else [])
 if o = 0 ∧ a = last then tail ++ [192 + codes i]
 else
  let out := if o = 0 then 0 else psz o
  pk o out ++ pk (delta start a) (psz (delta start a)) ++ [psz (delta start a) * 16 + out] ++ tail ++ [128 + codes i]
/-- The bytes of a state that is written at a place, behind the one at last. -/
def encNd (start last : Nat) (codes : Nat → Nat) (s : Nd) : List Nat :=
 match s.fin, s.arcs with
 | false, [(i, o, a)] => encOne start last codes i o a
 | _, _ => encMany start s
end Go.Proofs.YtmhlnijpimjjaaaGreatDoor.Fmt
namespace Go.Proofs.YtmhlnijpimjjaaaGreatDoor.Fmt

/-- The keys behind an address with what they give, in order; n: more than the address. -/
def lng (get : Nat → Nd) : Nat → Nat → List (List Nat × Nat)
 | 0, _ => []
 | n + 1, a => if a = 0 then [([], 0)] else (if (get a).fin then [([], (get a).fout)] else []) ++ (get a).arcs.flatMap fun t => (lng get n t.2.2).map fun q => (t.1 :: q.1, t.2.1 + q.2)
/-- Transitions lead down. -/
def Down (get : Nat → Nd) (a : Nat) : Prop := ∀ b, b ≤ a → b ≠ 0 → ∀ t, t ∈ (get b).arcs → t.2.2 < b
theorem Down.le {get : Nat → Nd} {a b : Nat} (h : Down get a) (hb : b ≤ a) : Down get b := fun c hc => h c (by omega)
theorem flatMap_congr' {α β : Type} {f g : α → List β} (l : List α) (h : ∀ a, a ∈ l → f a = g a) : l.flatMap f = l.flatMap g := by
 induction l with
 | nil => rfl
 | cons a l ih => simp only [List.flatMap_cons, h a (by simp), ih (fun b hb => h b (by simp [hb]))]
theorem lng_fuel {get : Nat → Nd} : ∀ (n m a : Nat), a < n → a < m → Down get a → lng get n a = lng get m a
 | 0, _, _, h, _, _ => by omega
 | n + 1, 0, _, _, h, _ => by omega
 | n + 1, m + 1, a, h1, h2, hd => by
  simp only [lng]
  by_cases h0 : a = 0
  ·simp [h0]
  ·rw [if_neg h0, if_neg h0]
   congr 1
   refine flatMap_congr' _ (fun t ht => ?_)
   have ht' := hd a (Nat.le_refl _) h0 t ht
   rw [lng_fuel n m t.2.2 (by omega) (by omega) (hd.le (by omega))]
/-- The keys behind an address. -/
def keysAt (get : Nat → Nd) (a : Nat) : List (List Nat × Nat) := lng get (a + 1) a
theorem keysAt_zero (get : Nat → Nd) : keysAt get 0 = [([], 0)] := by simp [keysAt, lng]
theorem keysAt_node {get : Nat → Nd} {a : Nat} (h0 : a ≠ 0) (hd : Down get a) : keysAt get a = (if (get a).fin then [([], (get a).fout)] else []) ++ (get a).arcs.flatMap fun t => (keysAt get t.2.2).map fun q => (t.1 :: q.1, t.2.1 + q.2) := by
 unfold keysAt
 rw [show lng get (a + 1) a = (if (get a).fin then [([], (get a).fout)] else []) ++ (get a).arcs.flatMap (fun t => (lng get a t.2.2).map fun q => (t.1 :: q.1, t.2.1 + q.2)) by simp only [lng]; rw [if_neg h0]]
 congr 1
 refine flatMap_congr' _ (fun t ht => ?_)
 have ht' := hd a (Nat.le_refl _) h0 t ht
 rw [lng_fuel a (t.2.2 + 1) t.2.2 ht' (by omega) (hd.le (by omega))]
/-- What is written above changes nothing below. -/
theorem keysAt_congr {get get' : Nat → Nd} : ∀ (a : Nat), Down get a → (∀ b, b ≤ a → b ≠ 0 → get' b = get b) → keysAt get' a = keysAt get a := by
 intro a
 induction a using Nat.strongRecOn with
 | _ a ih =>
  intro hd he
  by_cases h0 : a = 0
  ·subst h0; rw [keysAt_zero, keysAt_zero]
  ·have hd' : Down get' a := fun b hb hb0 t ht => by rw [he b hb hb0] at ht; exact hd b hb hb0 t ht
   rw [keysAt_node h0 hd, keysAt_node h0 hd', he a (Nat.le_refl _) h0]
   congr 1
   refine flatMap_congr' _ (fun t ht => ?_)
   have ht' := hd a (Nat.le_refl _) h0 t ht
   rw [ih t.2.2 ht' (hd.le (by omega)) (fun b hb => he b (by omega))]
end Go.Proofs.YtmhlnijpimjjaaaGreatDoor.Fmt
namespace Go.Proofs.YtmhlnijpimjjaaaGreatDoor.Fmt

/-- An open state: what is there, and its last transition, that leads to the next open state. -/
structure Un where
 nd : Nd
 last : Option (Nat × Nat)
def pre (i o : Nat) (l : List (List Nat × Nat)) : List (List Nat × Nat) := l.map fun q => (i :: q.1, o + q.2)
def own (get : Nat → Nd) (s : Nd) : List (List Nat × Nat) := (if s.fin then [([], s.fout)] else []) ++ s.arcs.flatMap fun t => pre t.1 t.2.1 (keysAt get t.2.2)
/-- The pairs that the open states stand for, the root first. -/
def mean (get : Nat → Nd) : List Un → List (List Nat × Nat)
 | [] => []
 | u :: r => own get u.nd ++ match u.last with
  | some (i, o) => pre i o (mean get r)
  | none => []
/-- More output ahead of a state. -/
def addN (p : Nat) (s : Nd) : Nd := ⟨s.fin, if s.fin then p + s.fout else s.fout, s.arcs.map fun t => (t.1, p + t.2.1, t.2.2)⟩
def addU (p : Nat) (u : Un) : Un := ⟨addN p u.nd, u.last.map fun q => (q.1, p + q.2)⟩
def bump (p : Nat) (l : List (List Nat × Nat)) : List (List Nat × Nat) := l.map fun q => (q.1, p + q.2)
theorem bump_app (p : Nat) (a b : List (List Nat × Nat)) : bump p (a ++ b) = bump p a ++ bump p b := by simp [bump]
theorem bump_pre (p i o : Nat) (l : List (List Nat × Nat)) : bump p (pre i o l) = pre i (p + o) l := by simp [bump, pre, Nat.add_assoc]
theorem pre_bump (p i o : Nat) (l : List (List Nat × Nat)) : pre i o (bump p l) = pre i (o + p) l := by simp [bump, pre, Nat.add_assoc]
theorem pre_app (i o : Nat) (a b : List (List Nat × Nat)) : pre i o (a ++ b) = pre i o a ++ pre i o b := by simp [pre]
theorem own_add (get : Nat → Nd) (p : Nat) (s : Nd) : own get (addN p s) = bump p (own get s) := by
 unfold own addN
 rw [bump_app]
 congr 1
 ·cases s.fin <;> simp [bump]
 ·generalize s.arcs = l
  induction l with
  | nil => simp [bump]
  | cons t l ih => simp only [List.map_cons, List.flatMap_cons, bump_app, bump_pre]; rw [← ih]
theorem mean_add (get : Nat → Nd) (p : Nat) (u : Un) (r : List Un) : mean get (addU p u :: r) = bump p (mean get (u :: r)) := by
 simp only [mean, addU, bump_app, own_add]
 congr 1
 cases u.last with
 | none => simp [bump]
 | some q => simp only [Option.map_some]; rw [bump_pre]
/-- Output moved from a transition down to the state that it leads to. -/
theorem mean_move (get : Nat → Nd) (u v : Un) (r : List Un) (i o c : Nat) (hu : u.last = some (i, o)) (hc : c ≤ o) :
  mean get (⟨u.nd, some (i, c)⟩ :: addU (o - c) v :: r) = mean get (u :: v :: r) := by
 have h := mean_add get (o - c) v r
 simp only [mean, hu] at h ⊢
 rw [h, pre_bump, show c + (o - c) = o by omega]
/-- A state that is closed: its last transition leads to an address that stands for what was open below. -/
def close (u : Un) (a : Nat) : Un := match u.last with
 | some (i, o) => ⟨⟨u.nd.fin, u.nd.fout, u.nd.arcs ++ [(i, o, a)]⟩, none⟩
 | none => u
theorem own_snoc (get : Nat → Nd) (s : Nd) (i o a : Nat) : own get ⟨s.fin, s.fout, s.arcs ++ [(i, o, a)]⟩ = own get s ++ pre i o (keysAt get a) := by
 simp [own]
theorem mean_close (get : Nat → Nd) (u : Un) (r : List Un) (a : Nat) (h : u.last ≠ none → keysAt get a = mean get r) : mean get [close u a] = mean get (u :: r) := by
 unfold close
 cases hu : u.last with
 | none => simp [mean, hu]
 | some q =>
  obtain ⟨i, o⟩ := q
  simp only [mean, hu, own_snoc, h (by rw [hu]; simp), List.append_nil]
/-- A key's rest, laid as open states. -/
def chain : List Nat → List Un
 | [] => [⟨⟨true, 0, []⟩, none⟩]
 | b :: l => ⟨⟨false, 0, []⟩, some (b, 0)⟩ :: chain l
theorem mean_chain (get : Nat → Nd) (l : List Nat) : mean get (chain l) = [(l, 0)] := by
 induction l with
 | nil => simp [chain, mean, own]
 | cons b l ih => simp [chain, mean, own, ih, pre]
end Go.Proofs.YtmhlnijpimjjaaaGreatDoor.Fmt
namespace Go.Proofs.YtmhlnijpimjjaaaGreatDoor.Fmt

/-- The common beginning of a key and of what is open: how long, what output is left, the open states with outputs moved down. -/
def cpre : List Nat → Nat → List Un → Nat × Nat × List Un
 | b :: key, o, u :: v :: r => match u.last with
  | some (i, lo) => if i = b then
    ((cpre key (o - min lo o) (addU (lo - min lo o) v :: r)).1 + 1, (cpre key (o - min lo o) (addU (lo - min lo o) v :: r)).2.1, ⟨u.nd, some (i, min lo o)⟩ :: (cpre key (o - min lo o) (addU (lo - min lo o) v :: r)).2.2)
   else (0, o, u :: v :: r)
  | none => (0, o, u :: v :: r)
 | _, o, st => (0, o, st)
/-- The bytes and the outputs along open states. -/
def along : List Un → List Nat × Nat
 | [] => ([], 0)
 | u :: r => match u.last with
  | some (i, o) => (i :: (along r).1, o + (along r).2)
  | none => ([], 0)
/-- A pair more at the end below is a pair more at the end. -/
theorem mean_grow (get : Nat → Nd) (x y : List Un) (e : List Nat × Nat) (h : mean get x = mean get y ++ [e]) : ∀ (P : List Un), (∀ p, p ∈ P → p.last ≠ none) → mean get (P ++ x) = mean get (P ++ y) ++ [((along P).1 ++ e.1, (along P).2 + e.2)]
 | [], _ => by simp [along, h]
 | p :: P, hP => by
  have ih := mean_grow get x y e h P (fun q hq => hP q (by simp [hq]))
  have hp := hP p (by simp)
  cases hl : p.last with
  | none => exact absurd hl hp
  | some q =>
   obtain ⟨i, o⟩ := q
   simp only [List.cons_append, mean, hl, along]
   rw [ih, pre_app, List.append_assoc]
   simp [pre, Nat.add_assoc]
/-- What is open below is closed. -/
theorem mean_shut (get : Nat → Nd) (x y : List Un) (h : mean get x = mean get y) : ∀ (P : List Un), mean get (P ++ x) = mean get (P ++ y)
 | [] => by simpa using h
 | p :: P => by
  have ih := mean_shut get x y h P
  simp only [List.cons_append, mean]
  rw [ih]
/-- A new key's rest behind a closed state. -/
theorem mean_suffix (get : Nat → Nd) (u : Un) (hu : u.last = none) (b : Nat) (l : List Nat) (o : Nat) : mean get (⟨u.nd, some (b, o)⟩ :: chain l) = mean get [u] ++ [(b :: l, o)] := by
 simp [mean, hu, mean_chain, pre]
/-- How the common beginning cuts the key and its output. -/
theorem cpre_along : ∀ (key : List Nat) (o : Nat) (st : List Un), st ≠ [] → ∃ P x, (cpre key o st).2.2 = P ++ x ∧ x ≠ [] ∧ P.length = (cpre key o st).1 ∧ (∀ p, p ∈ P → p.last ≠ none) ∧ (along P).1 = key.take (cpre key o st).1 ∧ (along P).2 + (cpre key o st).2.1 = o ∧ (cpre key o st).1 ≤ key.length
 | [], o, st, h => ⟨[], st, by simp [cpre], h, by simp [cpre], by simp, by simp [along], by simp [cpre, along], by simp [cpre]⟩
 | b :: key, o, [], h => absurd rfl h
 | b :: key, o, [u], h => ⟨[], [u], by simp [cpre], by simp, by simp [cpre], by simp, by simp [cpre, along], by simp [cpre, along], by simp [cpre]⟩
 | b :: key, o, u :: v :: r, h => by
  simp only [cpre]
  cases hu : u.last with
  | none => exact ⟨[], u :: v :: r, rfl, by simp, rfl, by simp, by simp [along], by simp [along], by simp⟩
  | some q =>
   obtain ⟨i, lo⟩ := q
   by_cases hi : i = b
   ·simp only [hi, if_true]
    obtain ⟨P, x, h1, h2, h3, h4, h5, h6, h7⟩ := cpre_along key (o - min lo o) (addU (lo - min lo o) v :: r) (by simp)
    refine ⟨⟨u.nd, some (b, min lo o)⟩ :: P, x, by rw [h1]; rfl, h2, by simp [h3], ?_, ?_, ?_, ?_⟩
    ·intro p hp
     rcases List.mem_cons.1 hp with rfl | hp
     ·simp
     ·exact h4 p hp
    ·simp [along, h5]
    ·simp only [along]; omega
    ·simp; omega
   ·simp only [hi, if_false]
    exact ⟨[], u :: v :: r, rfl, by simp, rfl, by simp, by simp [along], by simp [along], by simp⟩
end Go.Proofs.YtmhlnijpimjjaaaGreatDoor.Fmt
namespace Go.Proofs.YtmhlnijpimjjaaaGreatDoor.Fmt

/-- A number of so many bytes, read from the highest down. -/
def rdN (n : Nat) (l : List Nat) : Nat := unp ((l.take n).reverse)
theorem rdN_pk (v n : Nat) (h : v < 256 ^ n) (r : List Nat) : rdN n ((pk v n).reverse ++ r) = v := by
 unfold rdN
 rw [List.take_left' (by simp [pk_len]), List.reverse_reverse, unp_pk v n h]
theorem drop_pk (v n : Nat) (r : List Nat) : ((pk v n).reverse ++ r).drop n = r := List.drop_left' (by simp [pk_len])
/-- The address so far below. -/
def target (first d : Nat) : Nat := if d = 0 ∨ first < d then 0 else first - d
theorem target_delta {start a : Nat} (h : a < start) : target start (delta start a) = a := by
 unfold target delta
 by_cases h0 : a = 0
 ·simp [h0]
 ·rw [if_neg h0, if_neg (by omega)]; omega
/-- Numbers of one size, one behind the other. -/
def rdNs (sz : Nat) : Nat → List Nat → List Nat
 | 0, _ => []
 | n + 1, l => rdN sz l :: rdNs sz n (l.drop sz)
theorem rdNs_pk (sz : Nat) : ∀ (vs : List Nat) (r : List Nat), (∀ v, v ∈ vs → v < 256 ^ sz) → rdNs sz vs.length ((vs.reverse.flatMap fun v => pk v sz).reverse ++ r) = vs ∧ ((vs.reverse.flatMap fun v => pk v sz).reverse ++ r).drop (vs.length * sz) = r
 | [], r, _ => by simp [rdNs]
 | v :: vs, r, h => by
  have e : ((v :: vs).reverse.flatMap fun v => pk v sz).reverse ++ r = (pk v sz).reverse ++ ((vs.reverse.flatMap fun v => pk v sz).reverse ++ r) := by simp
  obtain ⟨h1, h2⟩ := rdNs_pk sz vs r (fun x hx => h x (by simp [hx]))
  rw [e]
  simp only [List.length_cons, rdNs, rdN_pk v sz (h v (by simp)), drop_pk, h1]
  refine ⟨trivial, ?_⟩
  rw [show (vs.length + 1) * sz = sz + vs.length * sz by rw [Nat.add_mul]; omega, ← List.drop_drop, drop_pk, h2]
end Go.Proofs.YtmhlnijpimjjaaaGreatDoor.Fmt
namespace Go.Proofs.YtmhlnijpimjjaaaGreatDoor.Fmt

def rdOne (back : Nat → Nat) (h : Nat) (l : List Nat) : Nd :=
 let i := if h % 64 = 0 then l.headD 0 else back (h % 64)
 let l1 := if h % 64 = 0 then l.tail else l
 if h / 64 % 2 = 1 then ⟨false, 0, [(i, 0, l1.length - 1)]⟩
 else
  let sz := l1.headD 0
  let l2 := l1.tail
  let l3 := l2.drop (sz / 16)
  ⟨false, 0, [(i, rdN (sz % 16) l3, target (l3.drop (sz % 16)).length (rdN (sz / 16) l2))]⟩
def rdBody (fin : Bool) (n : Nat) (l1 : List Nat) : Nd :=
 let sz := l1.headD 0
 let l2 := l1.tail
 let l3 := l2.drop n
 let l4 := l3.drop (n * (sz / 16))
 let l5 := l4.drop (n * (sz % 16))
 let fo := if sz % 16 ≠ 0 ∧ fin = true then rdN (sz % 16) l5 else 0
 let l6 := if sz % 16 ≠ 0 ∧ fin = true then l5.drop (sz % 16) else l5
 ⟨fin, fo, (l2.take n).zip ((rdNs (sz % 16) n l4).zip ((rdNs (sz / 16) n l3).map (target l6.length)))⟩
def rdMany (h : Nat) (l : List Nat) : Nd :=
 rdBody (decide (h / 64 % 2 = 1)) (if h % 64 = 0 then (if l.headD 0 = 1 then 256 else l.headD 0) else h % 64) (if h % 64 = 0 then l.tail else l)
def rdNd (back : Nat → Nat) : List Nat → Nd
 | [] => ⟨true, 0, []⟩
 | h :: l => if 128 ≤ h then rdOne back h l else rdMany h l

/-- The short codes and the bytes that they stand for. -/
structure Codes (codes back : Nat → Nat) : Prop where
 lt : ∀ i, codes i < 64
 inv : ∀ i, codes i ≠ 0 → back (codes i) = i

theorem rd_one {codes back : Nat → Nat} (hc : Codes codes back) {start last i o a : Nat} {r : List Nat} (hr : r.length = start) (ho : o < 2 ^ 64) (hs : start < 2 ^ 64) (ha : a < start) (hl : a = last → last + 1 = start) :
  rdNd back ((encOne start last codes i o a).reverse ++ r) = ⟨false, 0, [(i, o, a)]⟩ := by
 have hcl := hc.lt i
 have hd : delta start a < 2 ^ 64 := by unfold delta; split <;> omega
 unfold encOne
 by_cases h1 : o = 0 ∧ a = last
 ·rw [if_pos h1]
  obtain ⟨rfl, rfl⟩ := h1
  have := hl rfl
  by_cases h0 : codes i = 0
  ·simp only [h0, if_true, List.reverse_append, List.reverse_cons, List.reverse_nil, List.nil_append, List.cons_append, rdNd, rdOne]
   simp
   omega
  ·have e1 : (192 + codes i) % 64 = codes i := by omega
   have e2 : (192 + codes i) / 64 % 2 = 1 := by omega
   simp only [if_neg h0, List.reverse_append, List.reverse_cons, List.reverse_nil, List.nil_append, List.cons_append, rdNd, rdOne, e1, e2, hc.inv i h0]
   rw [if_pos (by omega)]
   simp [h0]
   omega
 ·rw [if_neg h1]
  obtain ⟨p1, p2⟩ := psz_le (delta start a)
  obtain ⟨q1, q2⟩ := psz_le o
  generalize hO : (if o = 0 then 0 else psz o) = out
  have hout : out ≤ 8 := by rw [← hO]; split <;> omega
  have hof : o < 256 ^ out := by
   rw [← hO]
   by_cases hz : o = 0
   ·rw [if_pos hz, hz]; decide
   ·rw [if_neg hz]; exact psz_fit ho
  generalize hF : psz (delta start a) = far at *
  have hdf : delta start a < 256 ^ far := by rw [← hF]; exact psz_fit hd
  have e1 : (far * 16 + out) / 16 = far := by omega
  have e2 : (far * 16 + out) % 16 = out := by omega
  have e3 : (128 + codes i) / 64 % 2 = 0 := by omega
  have e4 : (128 + codes i) % 64 = codes i := by omega
  by_cases h0 : codes i = 0
  ·simp only [h0, if_true, List.reverse_append, List.reverse_cons, List.reverse_nil, List.nil_append, List.cons_append, List.append_assoc, rdNd, rdOne]
   simp [e1, e2, rdN_pk _ _ hdf, rdN_pk _ _ hof, drop_pk, hr, target_delta ha]
  ·simp only [if_neg h0, List.reverse_append, List.reverse_cons, List.reverse_nil, List.nil_append, List.cons_append, List.append_assoc, rdNd, rdOne, e3, e4, hc.inv i h0]
   rw [if_pos (by omega)]
   simp [h0, e1, e2, rdN_pk _ _ hdf, rdN_pk _ _ hof, drop_pk, hr, target_delta ha]

theorem maxSz_le (l : List Nat) : ∀ m, m ≤ 8 → maxSz l m ≤ 8 := by
 induction l with
 | nil => intro m h; simpa [maxSz] using h
 | cons a l ih =>
  intro m h
  have h1 := psz_le a
  simp only [maxSz, List.foldl_cons] at *
  exact ih (max m (psz a)) (by omega)
/-- A state that can be written at a place. -/
structure WfM (start : Nat) (s : Nd) : Prop where
 len : s.arcs.length ≤ 256
 out : ∀ t, t ∈ s.arcs → t.2.1 < 2 ^ 64
 adr : ∀ t, t ∈ s.arcs → t.2.2 < start
 fo : s.fout < 2 ^ 64
 no : s.fin = false → s.fout = 0
theorem zip3 : ∀ (l : List (Nat × Nat × Nat)), (l.map fun t => t.1).zip ((l.map fun t => t.2.1).zip (l.map fun t => t.2.2)) = l
 | [] => rfl
 | t :: l => by simp only [List.map_cons, List.zip_cons_cons, zip3 l]
theorem rd_many {start : Nat} {s : Nd} {r : List Nat} (hr : r.length = start) (hs : start < 2 ^ 64) (h : WfM start s) (back : Nat → Nat) : rdNd back ((encMany start s).reverse ++ r) = s := by
 obtain ⟨fin, fout, arcs⟩ := s
 have hlen := h.len
 have hno := h.no
 simp only at hlen hno
 unfold encMany
 simp only
 generalize hA : (decide (fout ≠ 0) || arcs.any fun a => decide (a.2.1 ≠ 0)) = any
 generalize hF : maxSz (arcs.map fun a => delta start a.2.2) 0 = far
 generalize hO : (if any = true then maxSz (arcs.map fun a => a.2.1) (psz fout) else 0) = out
 have hf8 : far ≤ 8 := by rw [← hF]; exact maxSz_le _ _ (by omega)
 have ho8 : out ≤ 8 := by
  rw [← hO]
  split
  ·exact maxSz_le _ _ (psz_le fout).2
  ·omega
 have hdf : ∀ v, v ∈ (arcs.map fun a => delta start a.2.2) → v < 256 ^ far := fun v hv => by
  have h1 := (maxSz_ge (arcs.map fun a => delta start a.2.2) 0).2 v hv
  rw [hF] at h1
  obtain ⟨t, ht, rfl⟩ := List.mem_map.1 hv
  have h2 : delta start t.2.2 < 2 ^ 64 := by unfold delta; split <;> omega
  exact Nat.lt_of_lt_of_le (psz_fit h2) (pow_mono h1)
 have hof : ∀ v, v ∈ (arcs.map fun a => a.2.1) → v < 256 ^ out := fun v hv => by
  obtain ⟨t, ht, rfl⟩ := List.mem_map.1 hv
  cases any with
  | true =>
   have h1 := (maxSz_ge (arcs.map fun a => a.2.1) (psz fout)).2 t.2.1 hv
   rw [← hO]
   simp only [if_true]
   exact Nat.lt_of_lt_of_le (psz_fit (h.out t ht)) (pow_mono h1)
  | false =>
   rw [Bool.or_eq_false_iff, List.any_eq_false] at hA
   have := hA.2 t ht
   simp at this
   rw [this]
   exact Nat.pow_pos (by decide)
 have hff : fout < 256 ^ out := by
  cases any with
  | true =>
   have h1 := (maxSz_ge (arcs.map fun a => a.2.1) (psz fout)).1
   rw [← hO]
   simp only [if_true]
   exact Nat.lt_of_lt_of_le (psz_fit h.fo) (pow_mono h1)
  | false =>
   rw [Bool.or_eq_false_iff] at hA
   have := hA.1
   simp at this
   rw [this]
   exact Nat.pow_pos (by decide)
 have hou : any = false → out = 0 := fun e => by rw [← hO, e]; rfl
 have hou1 : any = true → out ≠ 0 := fun e => by
  rw [← hO, e]
  simp only [if_true]
  have h1 := (maxSz_ge (arcs.map fun a => a.2.1) (psz fout)).1
  have h2 := psz_le fout
  omega
 have e1 : (far * 16 + out) / 16 = far := by omega
 have e2 : (far * 16 + out) % 16 = out := by omega
 have eD : (arcs.reverse.flatMap fun a => pk (delta start a.2.2) far) = ((arcs.map fun a => delta start a.2.2).reverse.flatMap fun v => pk v far) := by rw [← List.map_reverse, List.flatMap_map]
 have eO : (if any = true then arcs.reverse.flatMap fun a => pk a.2.1 out else []) = ((arcs.map fun a => a.2.1).reverse.flatMap fun v => pk v out) := by
  rw [← List.map_reverse, List.flatMap_map]
  cases any with
  | true => rfl
  | false => rw [hou rfl]; simp [pk]
 have eF : (if (any && fin) = true then pk fout out else []) = if out ≠ 0 ∧ fin = true then pk fout out else [] := by
  cases any with
  | true => simp [hou1 rfl]
  | false => simp [hou rfl]
 have key : rdBody fin arcs.length ((far * 16 + out) :: ((arcs.map fun a => a.1) ++ (((arcs.map fun a => delta start a.2.2).reverse.flatMap fun v => pk v far).reverse ++ (((arcs.map fun a => a.2.1).reverse.flatMap fun v => pk v out).reverse ++ ((if out ≠ 0 ∧ fin = true then pk fout out else []).reverse ++ r))))) = ⟨fin, fout, arcs⟩ := by
  have d1 := rdNs_pk far (arcs.map fun a => delta start a.2.2) (((arcs.map fun a => a.2.1).reverse.flatMap fun v => pk v out).reverse ++ ((if out ≠ 0 ∧ fin = true then pk fout out else []).reverse ++ r)) hdf
  have d2 := rdNs_pk out (arcs.map fun a => a.2.1) ((if out ≠ 0 ∧ fin = true then pk fout out else []).reverse ++ r) hof
  rw [List.length_map] at d1 d2
  have t1 : ((arcs.map fun a => a.1) ++ (((arcs.map fun a => delta start a.2.2).reverse.flatMap fun v => pk v far).reverse ++ (((arcs.map fun a => a.2.1).reverse.flatMap fun v => pk v out).reverse ++ ((if out ≠ 0 ∧ fin = true then pk fout out else []).reverse ++ r)))).take arcs.length = arcs.map fun a => a.1 := List.take_left' (by simp)
  have t2 : ((arcs.map fun a => a.1) ++ (((arcs.map fun a => delta start a.2.2).reverse.flatMap fun v => pk v far).reverse ++ (((arcs.map fun a => a.2.1).reverse.flatMap fun v => pk v out).reverse ++ ((if out ≠ 0 ∧ fin = true then pk fout out else []).reverse ++ r)))).drop arcs.length = _ := List.drop_left' (by simp)
  unfold rdBody
  simp only [List.headD_cons, List.tail_cons, e1, e2, t1, t2, d1.1, d1.2, d2.1, d2.2]
  have hmap : ((arcs.map fun a => delta start a.2.2).map (target start)) = arcs.map fun a => a.2.2 := by
   rw [List.map_map]
   exact List.map_congr_left (fun t ht => target_delta (h.adr t ht))
  by_cases hx : out ≠ 0 ∧ fin = true
  ·simp only [if_pos hx, rdN_pk _ _ hff, drop_pk, hr, hmap, zip3]
  ·simp only [if_neg hx, List.reverse_nil, List.nil_append, hr, hmap, zip3]
   congr 1
   by_cases hz : out = 0
   ·rw [hz] at hff; simp at hff; omega
   ·have hfn : fin = false := by
     cases fin with
     | false => rfl
     | true => exact absurd ⟨hz, rfl⟩ hx
    exact (hno hfn).symm
 rw [eF, eO, eD]
 have b1 : ∀ x : Nat, x < 64 → (x + (if fin = true then 64 else 0)) % 64 = x := fun x hx => by split <;> omega
 have b2 : ∀ x : Nat, x < 64 → decide ((x + (if fin = true then 64 else 0)) / 64 % 2 = 1) = fin := fun x hx => by
  cases fin with
  | true => simp; omega
  | false => simp; omega
 have b3 : ∀ x : Nat, x < 64 → ¬ 128 ≤ x + (if fin = true then 64 else 0) := fun x hx => by split <;> omega
 have hlist : ∀ (X : List Nat) (c : Nat), (((((((if out ≠ 0 ∧ fin = true then pk fout out else []) ++ ((arcs.map fun a => a.2.1).reverse.flatMap fun v => pk v out)) ++ ((arcs.map fun a => delta start a.2.2).reverse.flatMap fun v => pk v far)) ++ (arcs.reverse.map fun a => a.1)) ++ [far * 16 + out]) ++ X) ++ [c]).reverse ++ r = c :: (X.reverse ++ ((far * 16 + out) :: ((arcs.map fun a => a.1) ++ (((arcs.map fun a => delta start a.2.2).reverse.flatMap fun v => pk v far).reverse ++ (((arcs.map fun a => a.2.1).reverse.flatMap fun v => pk v out).reverse ++ ((if out ≠ 0 ∧ fin = true then pk fout out else []).reverse ++ r)))))) := fun X c => by
  simp only [List.reverse_append, List.reverse_cons, List.reverse_nil, List.nil_append, List.cons_append, List.append_assoc, List.map_reverse, List.reverse_reverse]
 rw [hlist]
 by_cases c1 : 63 < arcs.length
 ·rw [if_pos c1]
  have hm := b1 0 (by omega)
  have hd := b2 0 (by omega)
  have hn := b3 0 (by omega)
  simp only [rdNd, if_neg hn, rdMany, hm, hd, if_true]
  by_cases c2 : arcs.length = 256
  ·simp only [if_pos c2, List.reverse_cons, List.reverse_nil, List.nil_append, List.cons_append, List.headD_cons, List.tail_cons, if_true]
   rw [← c2]; exact key
  ·simp only [if_neg c2, if_pos (show arcs.length = 0 ∨ 63 < arcs.length from .inr c1), List.reverse_cons, List.reverse_nil, List.nil_append, List.cons_append, List.headD_cons, List.tail_cons]
   rw [if_neg (by omega)]; exact key
 ·rw [if_neg c1]
  have hm := b1 arcs.length (by omega)
  have hd := b2 arcs.length (by omega)
  have hn := b3 arcs.length (by omega)
  simp only [rdNd, if_neg hn, rdMany, hm, hd]
  rw [if_neg (show ¬ arcs.length = 256 by omega)]
  by_cases c0 : arcs.length = 0
  ·simp only [if_pos c0, if_pos (show arcs.length = 0 ∨ 63 < arcs.length from .inl c0), List.reverse_cons, List.reverse_nil, List.nil_append, List.cons_append, List.headD_cons, List.tail_cons]
   rw [if_neg (by omega)]; exact key
  ·simp only [if_neg c0, if_neg (show ¬ (arcs.length = 0 ∨ 63 < arcs.length) by omega), List.reverse_nil, List.nil_append]
   exact key
end Go.Proofs.YtmhlnijpimjjaaaGreatDoor.Fmt
namespace Go.Proofs.YtmhlnijpimjjaaaGreatDoor.Fmt

/-- The state at a place. -/
def getB (back : Nat → Nat) (B : List Nat) (a : Nat) : Nd := rdNd back ((B.take (a + 1)).reverse)
theorem target_le (f d : Nat) : target f d ≤ f := by unfold target; split <;> omega
theorem rdOne_lt {back : Nat → Nat} {h : Nat} {l : List Nat} {t : Nat × Nat × Nat} (ht : t ∈ (rdOne back h l).arcs) : t.2.2 ≤ l.length - 1 := by
 unfold rdOne at ht
 simp only at ht
 have hl : (if h % 64 = 0 then l.tail else l).length ≤ l.length := by split <;> simp
 generalize (if h % 64 = 0 then l.tail else l) = l1 at *
 split at ht
 ·simp only [List.mem_singleton] at ht
  subst ht
  simp only
  omega
 ·simp only [List.mem_singleton] at ht
  subst ht
  simp only
  refine Nat.le_trans (target_le _ _) ?_
  simp only [List.length_drop, List.length_tail]
  omega
theorem rdMany_lt {h : Nat} {l : List Nat} {t : Nat × Nat × Nat} (ht : t ∈ (rdMany h l).arcs) : t.2.2 ≤ l.length - 1 := by
 unfold rdMany at ht
 have hl : (if h % 64 = 0 then l.tail else l).length ≤ l.length := by split <;> simp
 generalize (if h % 64 = 0 then l.tail else l) = l1 at *
 generalize (if h % 64 = 0 then (if l.headD 0 = 1 then 256 else l.headD 0) else h % 64) = n at *
 unfold rdBody at ht
 simp only at ht
 obtain ⟨i, o, a⟩ := t
 have h1 := (List.of_mem_zip ht).2
 have h2 := (List.of_mem_zip h1).2
 obtain ⟨d, _, hd⟩ := List.mem_map.1 h2
 simp only
 rw [← hd]
 refine Nat.le_trans (target_le _ _) ?_
 split <;> simp only [List.length_drop, List.length_tail] <;> omega
theorem getB_down (back : Nat → Nat) (B : List Nat) (a : Nat) : Down (getB back B) a := by
 intro b hb h0 t ht
 unfold getB at ht
 have hlen : ((B.take (b + 1)).reverse).length ≤ b + 1 := by simp; omega
 cases hl : (B.take (b + 1)).reverse with
 | nil => rw [hl] at ht; simp [rdNd] at ht
 | cons h l =>
  rw [hl] at ht hlen
  simp only [rdNd] at ht
  simp only [List.length_cons] at hlen
  split at ht
  ·have := rdOne_lt ht; omega
  ·have := rdMany_lt ht; omega
theorem getB_app (back : Nat → Nat) (B C : List Nat) {a : Nat} (h : a < B.length) : getB back (B ++ C) a = getB back B a := by
 unfold getB
 rw [List.take_append_of_le_length (by omega)]

/-- What a state must be to be written. -/
structure Wf (start last : Nat) (s : Nd) : Prop where
 m : WfM start s
 last : ∀ t, t ∈ s.arcs → t.2.2 = last → last + 1 = start
 byte : ∀ t, t ∈ s.arcs → t.1 < 256
 inc : (s.arcs.map fun t => t.1).Pairwise (· < ·)
theorem enc_pos (start last : Nat) (codes : Nat → Nat) (s : Nd) : 0 < (encNd start last codes s).length := by
 unfold encNd
 split
 ·unfold encOne
  simp only
  split <;> simp only [List.length_append, List.length_cons] <;> omega
 ·unfold encMany
  simp only [List.length_append, List.length_cons]
  omega
theorem enc_lt {start last : Nat} {codes back : Nat → Nat} (hc : Codes codes back) {s : Nd} (hw : Wf start last s) (hs : start < 2 ^ 64) : ∀ x, x ∈ encNd start last codes s → x < 256 := by
 obtain ⟨fin, fout, arcs⟩ := s
 have hm : ∀ x, x ∈ encMany start ⟨fin, fout, arcs⟩ → x < 256 := by
  intro x hx
  have hf8 : maxSz (arcs.map fun a => delta start a.2.2) 0 ≤ 8 := maxSz_le _ _ (by omega)
  have ho8 : maxSz (arcs.map fun a => a.2.1) (psz fout) ≤ 8 := maxSz_le _ _ (psz_le fout).2
  have hlen := hw.m.len
  simp only at hlen
  unfold encMany at hx
  simp only [List.mem_append] at hx
  rcases hx with (((((hx | hx) | hx) | hx) | hx) | hx) | hx
  ·split at hx
   ·exact pk_lt _ _ x hx
   ·simp at hx
  ·split at hx
   ·obtain ⟨t, _, h⟩ := List.mem_flatMap.1 hx
    exact pk_lt _ _ x h
   ·simp at hx
  ·obtain ⟨t, _, h⟩ := List.mem_flatMap.1 hx
   exact pk_lt _ _ x h
  ·obtain ⟨t, ht, rfl⟩ := List.mem_map.1 hx
   exact hw.byte t (List.mem_reverse.1 ht)
  ·rw [List.mem_singleton] at hx
   rw [hx]
   split <;> omega
  ·split at hx
   ·simp at hx; omega
   ·split at hx
    ·rw [List.mem_singleton] at hx; omega
    ·simp at hx
  ·rw [List.mem_singleton] at hx
   rw [hx]
   split <;> split <;> omega
 unfold encNd
 split
 ·rename_i i o a h1 h2
  simp only at h2
  subst h2
  intro x hx
  have hi := hw.byte (i, o, a) (by simp)
  have hcl := hc.lt i
  have q1 := psz_le (delta start a)
  have q2 := psz_le o
  simp only at hi
  unfold encOne at hx
  simp only at hx
  split at hx
  ·simp only [List.mem_append, List.mem_singleton] at hx
   rcases hx with hx | hx
   ·split at hx
    ·simp at hx; omega
    ·simp at hx
   ·omega
  ·simp only [List.mem_append, List.mem_singleton] at hx
   rcases hx with (((hx | hx) | hx) | hx) | hx
   ·exact pk_lt _ _ x hx
   ·exact pk_lt _ _ x hx
   ·rw [hx]; split <;> omega
   ·split at hx
    ·simp at hx; omega
    ·simp at hx
   ·omega
 ·exact hm
theorem flat_len {α : Type} (l : List α) (f : α → List Nat) (k : Nat) (h : ∀ a, (f a).length ≤ k) : (l.flatMap f).length ≤ k * l.length := by
 induction l with
 | nil => simp
 | cons a l ih => simp only [List.flatMap_cons, List.length_append, List.length_cons, Nat.mul_add]; have := h a; omega
theorem enc_len (start last : Nat) (codes : Nat → Nat) (s : Nd) : (encNd start last codes s).length ≤ 17 * s.arcs.length + 11 := by
 obtain ⟨fin, fout, arcs⟩ := s
 unfold encNd
 split
 ·rename_i i o a h1 h2
  simp only at h2
  subst h2
  have q1 := psz_le (delta start a)
  have q2 := psz_le o
  unfold encOne
  simp only
  split
  ·split <;> simp
  ·simp only [List.length_append, pk_len, List.length_cons, List.length_nil]
   split <;> split <;> simp <;> omega
 ·have hf8 : maxSz (arcs.map fun a => delta start a.2.2) 0 ≤ 8 := maxSz_le _ _ (by omega)
  have ho8 : maxSz (arcs.map fun a => a.2.1) (psz fout) ≤ 8 := maxSz_le _ _ (psz_le fout).2
  unfold encMany
  simp only
  generalize (decide (fout ≠ 0) || arcs.any fun a => decide (a.2.1 ≠ 0)) = any
  have hO : (if any = true then maxSz (arcs.map fun a => a.2.1) (psz fout) else 0) ≤ 8 := by split <;> omega
  generalize (if any = true then maxSz (arcs.map fun a => a.2.1) (psz fout) else 0) = out at *
  generalize maxSz (arcs.map fun a => delta start a.2.2) 0 = far at *
  have f1 := flat_len arcs.reverse (fun a => pk a.2.1 out) 8 (fun a => by rw [pk_len]; exact hO)
  have f2 := flat_len arcs.reverse (fun a => pk (delta start a.2.2) far) 8 (fun a => by rw [pk_len]; exact hf8)
  rw [List.length_reverse] at f1 f2
  simp only [List.length_append, List.length_map, List.length_reverse, List.length_cons, List.length_nil]
  have g1 : (if (any && fin) = true then pk fout out else []).length ≤ 8 := by split <;> simp [pk_len]; omega
  have g2 : (if any = true then arcs.reverse.flatMap fun a => pk a.2.1 out else []).length ≤ 8 * arcs.length := by split <;> simp_all
  have g3 : (if arcs.length = 256 then [1] else if arcs.length = 0 ∨ 63 < arcs.length then [arcs.length] else []).length ≤ 1 := by
   split
   ·simp
   ·split <;> simp
  omega
theorem rd_nd {codes back : Nat → Nat} (hc : Codes codes back) {start last : Nat} {s : Nd} {r : List Nat} (hr : r.length = start) (hs : start < 2 ^ 64) (hw : Wf start last s) : rdNd back ((encNd start last codes s).reverse ++ r) = s := by
 obtain ⟨fin, fout, arcs⟩ := s
 unfold encNd
 split
 ·rename_i i o a h1 h2
  simp only at h1 h2
  subst h2 h1
  have h3 := hw.m.no rfl
  simp only at h3
  subst h3
  exact rd_one hc hr (hw.m.out (i, o, a) (by simp)) hs (hw.m.adr (i, o, a) (by simp)) (fun h => hw.last (i, o, a) (by simp) h)
 ·exact rd_many hr hs hw.m back
theorem getB_enc {codes back : Nat → Nat} (hc : Codes codes back) {B0 R : List Nat} {last : Nat} {s : Nd} (hs : B0.length < 2 ^ 64) (hw : Wf B0.length last s) : getB back (B0 ++ (encNd B0.length last codes s ++ R)) (B0.length + (encNd B0.length last codes s).length - 1) = s := by
 have h0 := enc_pos B0.length last codes s
 unfold getB
 rw [show B0.length + (encNd B0.length last codes s).length - 1 + 1 = (B0 ++ encNd B0.length last codes s).length by simp; omega, ← List.append_assoc, List.take_left, List.reverse_append]
 exact rd_nd hc (by simp) hs hw

theorem keys_lt (back : Nat → Nat) (B C : List Nat) {a : Nat} (h : a < B.length) : keysAt (getB back (B ++ C)) a = keysAt (getB back B) a :=
 keysAt_congr a (getB_down _ _ _) (fun b hb h0 => getB_app back B C (by omega))
/-- An address: no state, or one that was written, and so those that it leads to, each with a word. -/
inductive Ok (codes back : Nat → Nat) (B : List Nat) : Nat → Prop
 | zero : Ok codes back B 0
 | node (B0 R : List Nat) (last : Nat) (s : Nd) (hB : B = B0 ++ (encNd B0.length last codes s ++ R)) (h16 : 16 ≤ B0.length) (hw : Wf B0.length last s) (hs : ∀ t, t ∈ s.arcs → Ok codes back B t.2.2) (hk : ∀ t, t ∈ s.arcs → keysAt (getB back B) t.2.2 ≠ []) :
   Ok codes back B (B0.length + (encNd B0.length last codes s).length - 1)
theorem Ok.app {codes back : Nat → Nat} {B : List Nat} {a : Nat} (h : Ok codes back B a) (C : List Nat) : Ok codes back (B ++ C) a := by
 induction h with
 | zero => exact .zero
 | node B0 R last s hB h16 hw _ hk ih =>
  refine .node B0 (R ++ C) last s (by rw [hB]; simp) h16 hw ih (fun t ht => ?_)
  have := hw.m.adr t ht
  have hlen : B.length = B0.length + ((encNd B0.length last codes s).length + R.length) := by rw [hB]; simp
  rw [keys_lt back B C (by omega)]; exact hk t ht
theorem Ok.lt {codes back : Nat → Nat} {B : List Nat} {a : Nat} (h : Ok codes back B a) : a = 0 ∨ 16 ≤ a ∧ a < B.length := by
 cases h with
 | zero => exact .inl rfl
 | node B0 R last s hB h16 hw _ =>
  have h0 := enc_pos B0.length last codes s
  have : B.length = B0.length + ((encNd B0.length last codes s).length + R.length) := by rw [hB]; simp
  exact .inr ⟨by omega, by omega⟩
theorem Ok.cases' {codes back : Nat → Nat} (hc : Codes codes back) {B : List Nat} (hl : B.length < 2 ^ 64) {a : Nat} (h : Ok codes back B a) (h0 : a ≠ 0) : ∃ B0 R last, B = B0 ++ (encNd B0.length last codes (getB back B a) ++ R) ∧ 16 ≤ B0.length ∧ Wf B0.length last (getB back B a) ∧ (∀ t, t ∈ (getB back B a).arcs → Ok codes back B t.2.2 ∧ keysAt (getB back B) t.2.2 ≠ []) ∧ a = B0.length + (encNd B0.length last codes (getB back B a)).length - 1 := by
 cases h with
 | zero => exact absurd rfl h0
 | node B0 R last s hB h16 hw hs hk =>
  have : B.length = B0.length + ((encNd B0.length last codes s).length + R.length) := by rw [hB]; simp
  have e : getB back B (B0.length + (encNd B0.length last codes s).length - 1) = s := by
   subst hB
   exact getB_enc hc (by omega) hw
  rw [e]
  exact ⟨B0, R, last, hB, h16, hw, fun t ht => ⟨hs t ht, hk t ht⟩, rfl⟩
/-- The pairs behind an address stay. -/
theorem keys_app (back : Nat → Nat) (B C : List Nat) {codes : Nat → Nat} {a : Nat} (h : Ok codes back B a) : keysAt (getB back (B ++ C)) a = keysAt (getB back B) a := by
 refine keysAt_congr a (getB_down _ _ _) (fun b hb h0 => ?_)
 have := h.lt
 exact getB_app back B C (by omega)
theorem own_app (back : Nat → Nat) (B C : List Nat) {codes : Nat → Nat} (s : Nd) (h : ∀ t, t ∈ s.arcs → Ok codes back B t.2.2) : own (getB back (B ++ C)) s = own (getB back B) s := by
 unfold own
 congr 1
 refine flatMap_congr' _ (fun t ht => ?_)
 rw [keys_app back B C (h t ht)]
theorem mean_app (back : Nat → Nat) (B C : List Nat) {codes : Nat → Nat} : ∀ (st : List Un), (∀ u, u ∈ st → ∀ t, t ∈ u.nd.arcs → Ok codes back B t.2.2) → mean (getB back (B ++ C)) st = mean (getB back B) st
 | [], _ => rfl
 | u :: r, h => by
  simp only [mean]
  rw [own_app back B C u.nd (h u (by simp)), mean_app back B C r (fun v hv => h v (by simp [hv]))]
theorem keys_own (back : Nat → Nat) (B : List Nat) {a : Nat} (h0 : a ≠ 0) : keysAt (getB back B) a = own (getB back B) (getB back B a) := keysAt_node h0 (getB_down _ _ _)
/-- A state that is written. -/
theorem ok_new {codes back : Nat → Nat} (hc : Codes codes back) {B : List Nat} {last : Nat} {s : Nd} (h16 : 16 ≤ B.length) (hl : B.length < 2 ^ 64) (hw : Wf B.length last s) (hs : ∀ t, t ∈ s.arcs → Ok codes back B t.2.2) (hk : ∀ t, t ∈ s.arcs → keysAt (getB back B) t.2.2 ≠ []) :
  Ok codes back (B ++ encNd B.length last codes s) (B.length + (encNd B.length last codes s).length - 1) ∧ getB back (B ++ encNd B.length last codes s) (B.length + (encNd B.length last codes s).length - 1) = s ∧
  keysAt (getB back (B ++ encNd B.length last codes s)) (B.length + (encNd B.length last codes s).length - 1) = own (getB back B) s := by
 have e : getB back (B ++ encNd B.length last codes s) (B.length + (encNd B.length last codes s).length - 1) = s := by
  have := getB_enc hc (R := []) hl hw
  simpa using this
 refine ⟨.node B [] last s (by simp) h16 hw (fun t ht => (hs t ht).app _) (fun t ht => (by rw [keys_app back B _ (hs t ht)]; exact hk t ht)), e, ?_⟩
 have h0 := enc_pos B.length last codes s
 rw [keys_own _ _ (by omega), e, own_app back B _ s hs]
end Go.Proofs.YtmhlnijpimjjaaaGreatDoor.Fmt
