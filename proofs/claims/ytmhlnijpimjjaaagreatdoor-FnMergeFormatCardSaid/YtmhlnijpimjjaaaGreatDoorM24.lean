/- The iterator in memory: its core and six rows; its states. Condition: none. What an iterator is at: Current. Condition: it was made by the builder's bytes. An iterator goes on: next. Condition: keys of at most 2^20 bytes. -/
import Derived.Test.YtmhlnijpimjjaaaGreatDoorM23
import Derived.Test.YtmhlnijpimjjaaaGreatDoorM20
import Derived.Test.YtmhlnijpimjjaaaGreatDoorM15
import Derived.Deep.DeepCutAuto
import Derived.Stop.Asserts
import Derived.Deep.Light
import Derived.Deep.QuietTactic
import Derived.BigQuiet
set_option linter.unusedSimpArgs false
set_option linter.unusedVariables false
namespace Go.Proofs.YtmhlnijpimjjaaaGreatDoor
section
open Go.RowKit Fmt
/-- What an iterator's rows hold: 0 states, 1 the key, 2 places, 3 outputs, 4 the automaton's states, 5 the key that was left. -/
def rty : Nat → TypeId
 | 0 => 206
 | 1 => 5
 | 2 => 3
 | 3 => 40
 | 4 => 3
 | _ => 5
def icells (fb ab : Nat) (v : Nat → Value) : List Value := [.pointer (some ⟨fb, 0, none⟩), .iface 186 (.pointer (some ⟨ab, 0, none⟩)), .slice none 0 0, .slice none 0 0, v 0, v 1, v 2, v 3, v 4, v 5, .int .u8 0]
structure Ic (w : World) (col : Col) (c ib fb ab : Nat) (v : Nat → Value) (n : Nat → Nat) (F : Nat → List Value) : Prop where
 blk : BlkC w col c ib (icells fb ab v) 144
 row : ∀ k, k < 6 → RowC w col (c + 1 + k) (rty k) 1 (v k) (n k) (F k)
section
variable {w w1 : World} {C : Nat → Prop} {col col1 : Col} {c ib fb ab : Nat} {v : Nat → Value} {n : Nat → Nat} {F : Nat → List Value}
theorem Ic.kp (h : Ic w col c ib fb ab v n F) (k : Kp C col w col1 w1) (hn : ∀ d, c ≤ d → d ≤ c + 6 → ¬ C d) : Ic w1 col1 c ib fb ab v n F :=
 ⟨h.blk.kp k (hn c (Nat.le_refl _) (by omega)), fun j hj => (h.row j hj).kp k (hn _ (by omega) (by omega))⟩
theorem Ic.drew (h : Ic w col c ib fb ab v n F) : Ic w.drew col c ib fb ab v n F := ⟨h.blk.drew, fun j hj => (h.row j hj).drew⟩
theorem icells_set (fb ab : Nat) (v : Nat → Value) {k : Nat} (hk : k < 6) (x : Value) : (icells fb ab v).set (4 + k) x = icells fb ab (upd v k x) := by
 rcases k with _ | _ | _ | _ | _ | _ | k <;> first | rfl | omega
theorem icells_at (fb ab : Nat) (v : Nat → Value) {k : Nat} (hk : k < 6) : (icells fb ab v)[4 + k]? = some (v k) := by
 rcases k with _ | _ | _ | _ | _ | _ | k <;> first | rfl | omega
theorem upd_same' {α : Type} (f : Nat → α) (k : Nat) (x : α) : upd f k x k = x := if_pos rfl
theorem upd_ne' {α : Type} (f : Nat → α) {k j : Nat} (x : α) (h : j ≠ k) : upd f k x j = f j := if_neg h
/-- A row was appended to, and its slice is stored. -/
theorem Ic.app {k : Nat} (hk : k < 6) (h : Ic w col c ib fb ab v n F) {v' : Value} {n' : Nat} {F' : List Value} (hr : RowF w1 (rty k) 1 v' n' F') (hF : Fr (fun q => (v k).ownBlock = some q) w w1) (hv : v'.ownBlock = (v k).ownBlock ∨ ∃ b', v'.ownBlock = some b' ∧ w.heap.size ≤ b') :
  Ic (w1.setCell ⟨ib, 4 + k, none⟩ v') (paint w.heap.size (c + 1 + k) col) c ib fb ab (upd v k v') (upd n k n') (upd F k F') ∧ Kp (fun d => d = c ∨ d = c + 1 + k) col w (paint w.heap.size (c + 1 + k) col) (w1.setCell ⟨ib, 4 + k, none⟩ v') := by
 have hrow := h.row k hk
 have K3 : Kp (fun d => d = c + 1 + k) col w (paint w.heap.size (c + 1 + k) col) w1 := Kp.of hF (c + 1 + k) (fun q _ e => hrow.col q e) rfl
 have hib : paint w.heap.size (c + 1 + k) col ib = c := (paint_lt h.blk.lt).trans h.blk.col
 have K4 : Kp (fun d => d = c ∨ d = c + 1 + k) col w (paint w.heap.size (c + 1 + k) col) (w1.setCell ⟨ib, 4 + k, none⟩ v') := (K3.mono (fun _ e => .inr e)).set (p := ⟨ib, 4 + k, none⟩) _ (.inl hib)
 have hS : Fr (fun q => q = ib) w1 (w1.setCell ⟨ib, 4 + k, none⟩ v') := Fr.setCell (F := fun q => q = ib) (p := ⟨ib, 4 + k, none⟩) (Fr.refl _ w1) (fun _ => rfl) _
 have hcol' : ∀ q, v'.ownBlock = some q → paint w.heap.size (c + 1 + k) col q = c + 1 + k := by
  intro q hq
  rcases hv with e | ⟨b', e, hb⟩
  ·rw [e] at hq
   exact (paint_lt (hrow.row.lt hq)).trans (hrow.col q hq)
  ·rw [e] at hq
   cases hq
   exact paint_ge hb
 refine ⟨⟨?_, fun j hj => ?_⟩, K4⟩
 ·have hb := (h.blk.kp K3 (by omega)).blk.set (4 + k) v'
  rw [icells_set fb ab v hk] at hb
  exact ⟨hb, hib⟩
 ·by_cases e : j = k
  ·subst e
   rw [upd_same', upd_same', upd_same']
   exact ⟨hr.fr hS (fun q hq e => by have h1 := hcol' q hq; rw [e, hib] at h1; omega), hcol'⟩
  ·rw [upd_ne' _ _ e, upd_ne' _ _ e, upd_ne' _ _ e]
   exact (h.row j hj).kp K4 (by omega)
/-- A row's slice is cut short. -/
theorem Ic.cut {k : Nat} (hk : k < 6) (h : Ic w col c ib fb ab v n F) {A : Option Addr} {cp m : Nat} (hv : v k = .slice A (n k) cp) (hm : m ≤ n k) :
  Ic (w.setCell ⟨ib, 4 + k, none⟩ (.slice A m cp)) col c ib fb ab (upd v k (.slice A m cp)) (upd n k m) F ∧ Kp (fun d => d = c) col w col (w.setCell ⟨ib, 4 + k, none⟩ (.slice A m cp)) := by
 have hrow := h.row k hk
 have K4 : Kp (fun d => d = c) col w col (w.setCell ⟨ib, 4 + k, none⟩ (.slice A m cp)) := (Kp.refl _ col w).set (p := ⟨ib, 4 + k, none⟩) _ h.blk.col
 refine ⟨⟨?_, fun j hj => ?_⟩, K4⟩
 ·have hb := h.blk.blk.set (4 + k) (.slice A m cp)
  rw [icells_set fb ab v hk] at hb
  exact ⟨hb, h.blk.col⟩
 ·by_cases e : j = k
  ·subst e
   rw [upd_same', upd_same']
   have hk2 := hrow.kp K4 (by omega)
   exact ⟨hk2.row.cut hm A cp hv, fun q hq => hk2.col q (by rw [hv]; cases A <;> exact hq)⟩
  ·rw [upd_ne' _ _ e, upd_ne' _ _ e]
   exact (h.row j hj).kp K4 (by omega)
end
/-- The states in the row, those behind its end too. -/
structure Sts (w : World) (col : Col) (c : Nat) (sl : List (Option Nat)) : Prop where
 nd : ∀ (i j b : Nat), sl[i]? = some (some b) → sl[j]? = some (some b) → i = j
 old : ∀ (i b : Nat), sl[i]? = some (some b) → col b = c + 7 ∧ ∃ cs, cs.length = 18 ∧ Blk w b cs 257
theorem Sts.kp {w w1 : World} {C : Nat → Prop} {col col1 : Col} {c : Nat} {sl : List (Option Nat)} (h : Sts w col c sl) (k : Kp C col w col1 w1) (hn : ¬ C (c + 7)) : Sts w1 col1 c sl :=
 ⟨h.nd, fun i b hb => by
  obtain ⟨h1, cs, h2, h3⟩ := h.old i b hb
  exact ⟨(k.same b h3.lt).trans h1, cs, h2, h3.fr k.fr (by rw [h1]; exact hn)⟩⟩
/-- An iterator at a place on the way: P the states above, each with the place of the transition that was taken; a the state on top. -/
structure It (w : World) (col : Col) (c ib fb ab db g cap : Nat) (L : Prs) (D B : List Nat) (root : Nat) (K0 : List Nat) (v : Nat → Value) (n : Nat → Nat) (F : Nat → List Value) (sl : List (Option Nat)) (P : Fmt.Way) (a : Nat) : Prop where
 ic : Ic w col c ib fb ab v n F
 fst : Fst w fb db g cap L D B root
 far : col fb = 0 ∧ col db = 0 ∧ col g = 0 ∧ 0 < c
 gl : g < w.heap.size
 way : WayTo (getB backN B) root P a
 n0 : n 0 = P.length + 1
 n1 : n 1 = P.length
 n2 : n 2 = P.length
 n3 : n 3 = P.length
 n4 : n 4 = P.length + 1
 n5 : n 5 = K0.length
 f0 : F 0 = sl.map slot
 f1 : ∀ (i : Nat) (x : Nat × Nat), P[i]? = some x → (F 1)[i]? = some (.int .u8 ((arcAt (getB backN B) x.1 x.2).1 : Int))
 f2 : ∀ (i : Nat) (x : Nat × Nat), P[i]? = some x → (F 2)[i]? = some (.int .i64 (x.2 : Int))
 f3 : ∀ (i : Nat) (x : Nat × Nat), P[i]? = some x → (F 3)[i]? = some (.int .u64 ((arcAt (getB backN B) x.1 x.2).2.1 : Int))
 f4 : ∀ (i : Nat), i ≤ P.length → (F 4)[i]? = some (.int .i64 0)
 f5 : ∀ (i x : Nat), K0[i]? = some x → (F 5)[i]? = some (.int .u8 (x : Int))
 sts : Sts w col c sl
 act : ∀ (i : Nat) (x : Nat), (P.map (fun p => p.1) ++ [a])[i]? = some x → ∃ b, sl[i]? = some (some b) ∧ StC w b D g cap x (nodeOf (getB backN B) x)
theorem It.kp {w w1 : World} {C : Nat → Prop} {col col1 : Col} {c ib fb ab db g cap : Nat} {L : Prs} {D B : List Nat} {root : Nat} {K0 : List Nat} {v : Nat → Value} {n : Nat → Nat} {F : Nat → List Value} {sl : List (Option Nat)} {P : Fmt.Way} {a : Nat}
  (h : It w col c ib fb ab db g cap L D B root K0 v n F sl P a) (k : Kp C col w col1 w1) (hn : ∀ d, c ≤ d → d ≤ c + 7 → ¬ C d) (h0 : ¬ C 0) : It w1 col1 c ib fb ab db g cap L D B root K0 v n F sl P a := by
 obtain ⟨e1, e2, e3, e4⟩ := h.far
 have hs : Sts w1 col1 c sl := h.sts.kp k (hn _ (by omega) (by omega))
 exact { h with
  ic := h.ic.kp k (fun d h1 h2 => hn d h1 (by omega))
  fst := h.fst.fr k.fr (by rw [e1]; exact h0) (by rw [e2]; exact h0) (by rw [e3]; exact h0)
  far := ⟨(k.same _ h.fst.fst.lt).trans e1, (k.same _ h.fst.dec.lt).trans e2, (k.same _ h.gl).trans e3, e4⟩
  gl := Nat.lt_of_lt_of_le h.gl k.size
  sts := hs
  act := fun i x hx => by
   obtain ⟨b, h1, h2⟩ := h.act i x hx
   exact ⟨b, h1, h2.fr k.fr (by rw [(h.sts.old i b h1).1]; exact hn _ (by omega) (by omega))⟩ }
theorem It.drew {w : World} {col : Col} {c ib fb ab db g cap : Nat} {L : Prs} {D B : List Nat} {root : Nat} {K0 : List Nat} {v : Nat → Value} {n : Nat → Nat} {F : Nat → List Value} {sl : List (Option Nat)} {P : Fmt.Way} {a : Nat}
  (h : It w col c ib fb ab db g cap L D B root K0 v n F sl P a) : It w.drew col c ib fb ab db g cap L D B root K0 v n F sl P a :=
 h.kp (C := fun _ => False) (Kp.refl _ col w).drew (fun _ _ _ h => h) (fun h => h)
/-- A key runs on to a key of the map. -/
theorem way_keys {get : Nat → Nd} (hd : ∀ a, Down get a) : ∀ {P : Fmt.Way} {r a : Nat}, WayTo get r P a → keysAt get a ≠ [] → ∃ k o, (wkey get P ++ k, o) ∈ keysAt get r
 | [], r, a, h, hne => by
  simp only [WayTo] at h
  subst h
  obtain ⟨p, hp⟩ := List.exists_mem_of_ne_nil _ hne
  exact ⟨p.1, p.2, by simpa [wkey] using hp⟩
 | (b, q) :: P, r, a, h, hne => by
  obtain ⟨rfl, hq, hw⟩ := h
  obtain ⟨k, o, hk⟩ := way_keys hd hw hne
  refine ⟨k, (arcAt get b q).2.1 + o, ?_⟩
  rw [keys_node get hd b]
  unfold own
  refine List.mem_append_right _ ?_
  refine List.mem_flatMap.2 ⟨arcAt get b q, arc_mem hq, ?_⟩
  unfold pre
  refine List.mem_map.2 ⟨_, hk, ?_⟩
  simp [wkey]
theorem way_ok {codes back : Nat → Nat} (hc : Codes codes back) {B : List Nat} (hl : B.length < 2 ^ 64) : ∀ {P : Fmt.Way} {r a : Nat}, WayTo (getB back B) r P a → Ok codes back B r → Ok codes back B a ∧ (keysAt (getB back B) r ≠ [] → keysAt (getB back B) a ≠ [])
 | [], r, a, h, hr => by simp only [WayTo] at h; subst h; exact ⟨hr, fun h => h⟩
 | (b, q) :: P, r, a, h, hr => by
  obtain ⟨rfl, hq, hw⟩ := h
  obtain ⟨h1, h2⟩ := hr.to hc hl (arc_mem hq)
  obtain ⟨h3, h4⟩ := way_ok hc hl hw h1
  exact ⟨h3, fun _ => h4 h2⟩
/-- What append of one element leaves of a row. -/
def AppF (F : List Value) (n : Nat) (x : Value) (F' : List Value) (z : Value) : Prop := F' = F.take n ++ [x] ++ F.drop (n + 1) ∨ ∃ k, F' = F.take n ++ [x] ++ List.replicate k z
theorem AppF.lt {F F' : List Value} {n : Nat} {x z : Value} (h : AppF F n x F' z) (hn : n ≤ F.length) {i : Nat} (hi : i < n) : F'[i]? = F[i]? := by
 have hl : (F.take n).length = n := by simp; omega
 rcases h with rfl | ⟨k, rfl⟩ <;>
 ·rw [List.append_assoc, List.getElem?_append_left (by omega), List.getElem?_take, if_pos hi]
theorem AppF.at_ {F F' : List Value} {n : Nat} {x z : Value} (h : AppF F n x F' z) (hn : n ≤ F.length) : F'[n]? = some x := by
 have hl : (F.take n).length = n := by simp; omega
 rcases h with rfl | ⟨k, rfl⟩ <;>
 ·rw [List.append_assoc, List.getElem?_append_right (by omega), hl, Nat.sub_self]; rfl
theorem zeros_one (z : Value) (k : Nat) : zeros #[z] k = List.replicate k z := by
 apply List.ext_getElem?
 intro i
 by_cases hi : i < k
 ·rw [zeros_at (by simpa using hi), List.getElem?_replicate, if_pos hi]
  simp [Nat.mod_one]
 ·rw [List.getElem?_eq_none (by rw [zeros_len]; simp; omega), List.getElem?_replicate, if_neg hi]
/-- The row of states behind an append. -/
def slNew (sl : List (Option Nat)) (m sb : Nat) : List (Option Nat) → Prop := fun sl' => sl' = sl.take m ++ [some sb] ++ sl.drop (m + 1) ∨ ∃ k, sl' = sl.take m ++ [some sb] ++ List.replicate k none
theorem slNew_of {sl : List (Option Nat)} {m sb : Nat} {F' : List Value} (h : AppF (sl.map slot) m (slot (some sb)) F' .nilIface) : ∃ sl', F' = sl'.map slot ∧ slNew sl m sb sl' := by
 rcases h with rfl | ⟨k, rfl⟩
 ·exact ⟨_, by simp, .inl rfl⟩
 ·exact ⟨_, by simp [slot], .inr ⟨k, rfl⟩⟩
theorem slNew.at_ {sl sl' : List (Option Nat)} {m sb : Nat} (h : slNew sl m sb sl') (hm : m ≤ sl.length) : (∀ i, i < m → sl'[i]? = sl[i]?) ∧ sl'[m]? = some (some sb) ∧ (∀ (i b : Nat), m < i → sl'[i]? = some (some b) → sl[i]? = some (some b)) := by
 have hl : (sl.take m).length = m := by simp; omega
 rcases h with rfl | ⟨k, rfl⟩
 ·refine ⟨fun i hi => ?_, ?_, fun i b hi hb => ?_⟩
  ·rw [List.append_assoc, List.getElem?_append_left (by omega), List.getElem?_take, if_pos hi]
  ·rw [List.append_assoc, List.getElem?_append_right (by omega), hl, Nat.sub_self]; rfl
  ·rw [List.append_assoc, List.getElem?_append_right (by omega), hl, List.getElem?_append_right (by simp; omega), List.getElem?_drop] at hb
   simp only [List.length_cons, List.length_nil] at hb
   rw [← hb]; congr 1; omega
 ·refine ⟨fun i hi => ?_, ?_, fun i b hi hb => ?_⟩
  ·rw [List.append_assoc, List.getElem?_append_left (by omega), List.getElem?_take, if_pos hi]
  ·rw [List.append_assoc, List.getElem?_append_right (by omega), hl, Nat.sub_self]; rfl
  ·rw [List.append_assoc, List.getElem?_append_right (by omega), hl, List.getElem?_append_right (by simp; omega), List.getElem?_replicate] at hb
   split at hb <;> cases hb
section
variable {w w1 w2 : World} {col col1 col2 : Col} {c ib fb ab db g cap : Nat} {L : Prs} {D B : List Nat} {root : Nat} {K0 : List Nat} {v v' : Nat → Value} {n n' : Nat → Nat} {F F' : Nat → List Value} {sl sl' : List (Option Nat)} {P : Fmt.Way} {a q sb : Nat}
/-- A state more on the way. -/
theorem It.pushed (h : It w col c ib fb ab db g cap L D B root K0 v n F sl P a) (hq : q < (nodeOf (getB backN B) a).arcs.length)
  {pre : Option Nat} (hpre : ∀ (b : Nat), pre = some b → sl[P.length + 1]? = some (some b)) (hs : StC w1 sb D g cap (arcAt (getB backN B) a q).2.2 (nodeOf (getB backN B) (arcAt (getB backN B) a q).2.2)) (hF1 : Fr (fun k => pre = some k) w w1) (hsb : pre = some sb ∨ pre = none ∧ w.heap.size ≤ sb) (hsc : col1 sb = c + 7) (hK1 : Kp (fun d => d = c + 7) col w col1 w1)
  (hI : Ic w2 col2 c ib fb ab v' n' F') (hK : Kp (fun d => c ≤ d ∧ d ≤ c + 6) col1 w1 col2 w2) (hn0 : n' 0 = P.length + 2) (hn1 : n' 1 = P.length + 1) (hn2 : n' 2 = P.length + 1) (hn3 : n' 3 = P.length + 1) (hn4 : n' 4 = P.length + 2) (hn5 : n' 5 = n 5)
  (hf0 : F' 0 = sl'.map slot) (hsl : slNew sl (P.length + 1) sb sl') (hf1 : AppF (F 1) P.length (.int .u8 ((arcAt (getB backN B) a q).1 : Int)) (F' 1) (.int .u8 0)) (hf2 : AppF (F 2) P.length (.int .i64 (q : Int)) (F' 2) (.int .i64 0)) (hf3 : AppF (F 3) P.length (.int .u64 ((arcAt (getB backN B) a q).2.1 : Int)) (F' 3) (.int .u64 0)) (hf4 : AppF (F 4) (P.length + 1) (.int .i64 0) (F' 4) (.int .i64 0)) (hf5 : F' 5 = F 5) :
  It w2 col2 c ib fb ab db g cap L D B root K0 v' n' F' sl' (P ++ [(a, q)]) (arcAt (getB backN B) a q).2.2 := by
 have h7 : ∀ d, c ≤ d → d ≤ c + 6 → ¬ d = c + 7 := fun d _ h2 => by omega
 have hc0 := h.far.2.2.2
 have hlen : ∀ k, k < 6 → n k ≤ (F k).length := fun k hk => by
  obtain ⟨A, cp, e1, e2, e3, e4⟩ := (h.ic.row k hk).row.slc
  rw [e4]; omega
 have hl0 := hlen 0 (by decide); rw [h.n0, h.f0, List.length_map] at hl0
 have hl1 := hlen 1 (by decide); rw [h.n1] at hl1
 have hl2 := hlen 2 (by decide); rw [h.n2] at hl2
 have hl3 := hlen 3 (by decide); rw [h.n3] at hl3
 have hl4 := hlen 4 (by decide); rw [h.n4] at hl4
 obtain ⟨s1, s2, s3⟩ := hsl.at_ hl0
 have hK2 : Kp (fun d => c ≤ d ∧ d ≤ c + 7) col w col2 w2 := (hK1.mono (fun d e => by omega)).trans (hK.mono (fun d e => by omega))
 have hnew : ∀ (i b : Nat), i ≠ P.length + 1 → sl'[i]? = some (some b) → sl[i]? = some (some b) := by
  intro i b hi hb
  rcases Nat.lt_or_gt_of_ne hi with hlt | hgt
  ·rw [s1 i hlt] at hb; exact hb
  ·exact s3 i b hgt hb
 have hsbne : ∀ (i : Nat), i ≠ P.length + 1 → sl[i]? ≠ some (some sb) := by
  intro i hi hb
  rcases hsb with e | ⟨_, e⟩
  ·exact hi (h.sts.nd i _ sb hb (hpre sb e))
  ·obtain ⟨_, cs, _, hbl⟩ := h.sts.old i sb hb
   have := hbl.lt; omega
 have hold : ∀ (i b : Nat), i ≠ P.length + 1 → sl[i]? = some (some b) → ¬ pre = some b := by
  intro i b hi hb e
  exact hi (h.sts.nd i _ b hb (hpre b e))
 have hsbt : ∀ k, k < w1.heap.size → k = sb → col1 k = c + 7 := fun k _ e => by rw [e]; exact hsc
 obtain ⟨f1, f2, f3, f4⟩ := h.far
 refine { ic := hI, fst := ?_, far := ?_, gl := Nat.lt_of_lt_of_le h.gl hK2.size, way := way_snoc h.way hq, n0 := by rw [hn0]; simp, n1 := by rw [hn1]; simp, n2 := by rw [hn2]; simp, n3 := by rw [hn3]; simp, n4 := by rw [hn4]; simp, n5 := by rw [hn5]; exact h.n5, f0 := hf0, f1 := ?_, f2 := ?_, f3 := ?_, f4 := ?_, f5 := by rw [hf5]; exact h.f5, sts := ?_, act := ?_ }
 ·exact h.fst.fr hK2.fr (by rw [f1]; omega) (by rw [f2]; omega) (by rw [f3]; omega)
 ·exact ⟨(hK2.same _ h.fst.fst.lt).trans f1, (hK2.same _ h.fst.dec.lt).trans f2, (hK2.same _ h.gl).trans f3, f4⟩
 ·intro i x hx
  rcases Nat.lt_or_ge i P.length with hlt | hge
  ·rw [List.getElem?_append_left hlt] at hx
   rw [hf1.lt hl1 hlt]; exact h.f1 i x hx
  ·rw [List.getElem?_append_right hge] at hx
   have hi : i = P.length := by
    have := (List.getElem?_eq_some_iff.1 hx).1; simp at this; omega
   subst hi
   simp at hx
   subst hx
   exact hf1.at_ hl1
 ·intro i x hx
  rcases Nat.lt_or_ge i P.length with hlt | hge
  ·rw [List.getElem?_append_left hlt] at hx
   rw [hf2.lt hl2 hlt]; exact h.f2 i x hx
  ·rw [List.getElem?_append_right hge] at hx
   have hi : i = P.length := by
    have := (List.getElem?_eq_some_iff.1 hx).1; simp at this; omega
   subst hi
   simp at hx
   subst hx
   exact hf2.at_ hl2
 ·intro i x hx
  rcases Nat.lt_or_ge i P.length with hlt | hge
  ·rw [List.getElem?_append_left hlt] at hx
   rw [hf3.lt hl3 hlt]; exact h.f3 i x hx
  ·rw [List.getElem?_append_right hge] at hx
   have hi : i = P.length := by
    have := (List.getElem?_eq_some_iff.1 hx).1; simp at this; omega
   subst hi
   simp at hx
   subst hx
   exact hf3.at_ hl3
 ·intro i hi
  rw [List.length_append] at hi
  simp only [List.length_cons, List.length_nil] at hi
  rcases Nat.lt_or_ge i (P.length + 1) with hlt | hge
  ·rw [hf4.lt hl4 hlt]; exact h.f4 i (by omega)
  ·have : i = P.length + 1 := by omega
   subst this
   exact hf4.at_ hl4
 ·refine ⟨fun i j b hi hj => ?_, fun i b hi => ?_⟩
  ·by_cases ei : i = P.length + 1
   ·by_cases ej : j = P.length + 1
    ·omega
    ·rw [ei, s2] at hi
     cases hi
     exact absurd (hnew j _ ej hj) (hsbne j ej)
   ·by_cases ej : j = P.length + 1
    ·rw [ej, s2] at hj
     cases hj
     exact absurd (hnew i _ ei hi) (hsbne i ei)
    ·exact h.sts.nd i j b (hnew i b ei hi) (hnew j b ej hj)
  ·by_cases ei : i = P.length + 1
   ·rw [ei, s2] at hi
    cases hi
    obtain ⟨cs, k1, k2⟩ := hs
    exact ⟨(hK.same _ k2.lt).trans hsc, cs, k1.len, k2.fr hK.fr (by rw [hsc]; omega)⟩
   ·obtain ⟨k0, cs, k1, k2⟩ := h.sts.old i b (hnew i b ei hi)
    have k3 := k2.fr hF1 (hold i b ei (hnew i b ei hi))
    have k4 : col1 b = c + 7 := (hK1.same _ k2.lt).trans k0
    exact ⟨(hK.same _ k3.lt).trans k4, cs, k1, k3.fr hK.fr (by rw [k4]; omega)⟩
 ·intro i x hx
  by_cases ei : i = P.length + 1
  ·subst ei
   rw [List.map_append, List.append_assoc, List.getElem?_append_right (by simp)] at hx
   simp at hx
   subst hx
   exact ⟨sb, s2, hs.fr hK.fr (by rw [hsc]; omega)⟩
  ·have hlt : i < P.length + 1 := by
    have := (List.getElem?_eq_some_iff.1 hx).1
    simp at this; omega
   have hx' : (P.map (fun p => p.1) ++ [a])[i]? = some x := by
    rw [List.map_append, List.getElem?_append_left (by simp; omega)] at hx
    simpa using hx
   obtain ⟨b, k1, k2⟩ := h.act i x hx'
   refine ⟨b, by rw [s1 i hlt]; exact k1, ?_⟩
   have k3 := k2.fr hF1 (hold i b ei k1)
   obtain ⟨k0, cs, _, kb⟩ := h.sts.old i b k1
   have k4 : col1 b = c + 7 := (hK1.same _ kb.lt).trans k0
   exact k3.fr hK.fr (by rw [k4]; omega)
/-- Back on the way. -/
theorem It.popped (h : It w col c ib fb ab db g cap L D B root K0 v n F sl P a) {P1 P2 : Fmt.Way} {b p : Nat} (hP : P = P1 ++ (b, p) :: P2) (hI : Ic w2 col2 c ib fb ab v' n' F) (hK : Kp (fun d => c ≤ d ∧ d ≤ c + 6) col w col2 w2) (hn0 : n' 0 = P1.length + 1) (hn1 : n' 1 = P1.length) (hn2 : n' 2 = P1.length) (hn3 : n' 3 = P1.length) (hn4 : n' 4 = P1.length + 1) (hn5 : n' 5 = n 5) :
  It w2 col2 c ib fb ab db g cap L D B root K0 v' n' F sl P1 b := by
 obtain ⟨f1, f2, f3, f4⟩ := h.far
 have hpre : ∀ (i : Nat) (x : Nat × Nat), P1[i]? = some x → P[i]? = some x := fun i x hx => by
  rw [hP, List.getElem?_append_left (List.getElem?_eq_some_iff.1 hx).1]; exact hx
 have hl : P1.length < P.length := by rw [hP]; simp
 refine { ic := hI, fst := ?_, far := ?_, gl := Nat.lt_of_lt_of_le h.gl hK.size, way := (way_split (by rw [← hP]; exact h.way)).1, n0 := hn0, n1 := hn1, n2 := hn2, n3 := hn3, n4 := hn4, n5 := by rw [hn5]; exact h.n5, f0 := h.f0, f1 := fun i x hx => h.f1 i x (hpre i x hx), f2 := fun i x hx => h.f2 i x (hpre i x hx), f3 := fun i x hx => h.f3 i x (hpre i x hx), f4 := fun i hi => h.f4 i (by omega), f5 := h.f5, sts := h.sts.kp hK (by omega), act := ?_ }
 ·exact h.fst.fr hK.fr (by rw [f1]; omega) (by rw [f2]; omega) (by rw [f3]; omega)
 ·exact ⟨(hK.same _ h.fst.fst.lt).trans f1, (hK.same _ h.fst.dec.lt).trans f2, (hK.same _ h.gl).trans f3, f4⟩
 ·intro i x hx
  have hx' : (P.map (fun p => p.1) ++ [a])[i]? = some x := by
   rw [hP, List.map_append, List.append_assoc]
   have hi := (List.getElem?_eq_some_iff.1 hx).1
   rw [List.length_append, List.length_map] at hi
   simp only [List.length_cons, List.length_nil] at hi
   rcases Nat.lt_or_ge i P1.length with hlt | hge
   ·rw [List.getElem?_append_left (by simpa using hlt)] at hx ⊢; exact hx
   ·rw [List.getElem?_append_right (by simpa using hge)] at hx ⊢
    have : i = P1.length := by omega
    subst this
    simpa using hx
  obtain ⟨y, k1, k2⟩ := h.act i x hx'
  exact ⟨y, k1, k2.fr hK.fr (by rw [(h.sts.old i y k1).1]; omega)⟩
end
end
section
open Go.RowKit Fmt
section
variable {w : World} {col : Col} {c ib fb ab db g cap : Nat} {L : Prs} {D B : List Nat} {root : Nat} {K0 : List Nat} {v : Nat → Value} {n : Nat → Nat} {F : Nat → List Value} {sl : List (Option Nat)} {P : Fmt.Way} {a : Nat}
/-- The row of states, its last one. -/
theorem It.top (h : It w col c ib fb ab db g cap L D B root K0 v n F sl P a) : ∃ g0 c0 b, v 0 = .slice (some ⟨g0, 0, none⟩) (P.length + 1) c0 ∧ P.length + 1 ≤ c0 ∧ c0 ≤ maxLen ∧ sl.length = c0 ∧ sl[P.length]? = some (some b) ∧ Blk w g0 (sl.map slot) 206 ∧ col g0 = c + 1 ∧
  w.cell? ⟨g0, P.length, none⟩ = some (.iface 254 (.pointer (some ⟨b, 0, none⟩))) ∧ StC w b D g cap a (nodeOf (getB backN B) a) := by
 obtain ⟨b, hb, hs⟩ := h.act P.length a (by simp)
 have hr := h.ic.row 0 (by decide)
 have hf : (F 0)[P.length]? = some (slot (some b)) := by rw [h.f0, List.getElem?_map, hb]; rfl
 obtain ⟨g0, c0, e1, e2, e3, e4, e5, e6, e7⟩ := hr.row.at_ hf
 rw [h.n0] at e1 e2
 rw [h.f0] at e4 e5
 exact ⟨g0, c0, b, e1, e2, e3, by simpa using e4, hb, e5, by have := hr.col g0 (by rw [e1]; rfl); simpa using this, e6, hs⟩
theorem It.addr (h : It w col c ib fb ab db g cap L D B root K0 v n F sl P a) : a < D.length ∧ D.length < 9223372036854775808 ∧ Ok codesN backN B a := by
 have h1 := h.fst.file.len
 have h2 := h.fst.file.dlen
 have h3 := (way_ok codesOk (by omega) h.way h.fst.file.ok).1
 have h4 := h3.lt
 have h5 := h.fst.file.h16
 exact ⟨by omega, by omega, h3⟩
/-- The sum of what lies on the way, so far. -/
def vsum (get : Nat → Nd) (P : Fmt.Way) (k : Nat) : Nat := wval get (P.take k)
theorem vsum_succ (get : Nat → Nd) {P : Fmt.Way} {k : Nat} {x : Nat × Nat} (h : P[k]? = some x) : vsum get P (k + 1) = vsum get P k + (arcAt get x.1 x.2).2.1 := by
 unfold vsum
 rw [List.take_add_one, h]
 simp [wval]
theorem vsum_le (get : Nat → Nd) (P : Fmt.Way) (k : Nat) : vsum get P k ≤ wval get P := by
 unfold vsum
 conv => rhs; rw [← List.take_append_drop k P]
 unfold wval
 rw [List.map_append, List.sum_append]
 omega
set_option maxHeartbeats 1000000 in
set_option maxRecDepth 100000 in
theorem cur_none (h : It w col c ib fb ab db g cap L D B root K0 v n F sl P a) (hf : (nodeOf (getB backN B) a).fin = false) :
  Calls Tryz.prog 128 #[.pointer (some ⟨ib, 0, none⟩)] w fun e w' => e = .returned (.tuple #[.slice none 0 0, .int .u64 0]) ∧ Fr (fun _ => False) w w' := by
 obtain ⟨g0, c0, b, e1, e2, e3, e4, e5, e6, e7, rt, hs⟩ := h.top
 have r4 := h.ic.blk.blk.cell 4 rfl
 rw [e1] at r4
 have hP := h.addr
 generalize P.length = m at *
 obtain ⟨m1, hm1⟩ : ∃ m1, Hid (m + 1 = m1) := ⟨_, Lib.hid rfl⟩
 have hm1' := hm1.out
 rw [hm1.out] at r4 e2
 unfold maxLen at e3
 have f1 : IntKind.i64.wrap ((m1 : Int) - 1) = (m : Int) := by rw [IntWalk.i64_in _ (by omega)]; omega
 have f2 : (m : Int) < (m1 : Int) := by omega
 have hfc := fin_calls (hs.fr (Fr.refl (fun _ => False) w).drew (fun h => h))
 rw [hf] at hfc
 have HE := Lib.hid (Fr.refl (fun _ => False) w).drew
 have q1 := mt_fin ⟨b, 0, none⟩
 have q2 := nt_fin ⟨b, 0, none⟩
 clear h hs e1 e4 e5 e6 e7 hP hm1' hf
 go_enter Tryz.func128, Tryz.ntmps128
 go_wp2_with fail
 refine wp_region_seqV (fun W => W.cell? ⟨ib, 4, none⟩ = some (.slice (some ⟨g0, 0, none⟩) m1 c0) ∧ W.cell? ⟨g0, m, none⟩ = some (.iface 254 (.pointer (some ⟨b, 0, none⟩)))) (fun i => decide (True)) (fun i => ![3, 7, 11].contains i && decide (True)) (fun i => false) [0, 1, 2, 3, 4, 5, 6, 7, 8, 9, 10, 11, 12] (by kernel_rfl) (by kernel_rfl) (fun c a d v w h => by cases d <;> exact h) ⟨r4, rt⟩ ?_
 iterate 3 (apply seqV_pure (ho := rfl) (hr := rfl) (hg := rfl); (intro w'; go_simp; rfl))
 (apply seqV_read (ho := rfl) (hr := rfl) (hp := rfl) (hg := rfl); (rintro w' ⟨q0, q1⟩; go_simp; rfl))
 go_simp
 iterate 3 (apply seqV_pure (ho := rfl) (hr := rfl) (hg := rfl); (intro w'; go_simp; rfl))
 (apply seqV_read (ho := rfl) (hr := rfl) (hp := rfl) (hg := rfl); (rintro w' ⟨q0, q1⟩; go_simp; rfl))
 go_simp
 iterate 3 (apply seqV_pure (ho := rfl) (hr := rfl) (hg := rfl); (intro w'; go_simp; rfl))
 (apply seqV_read (ho := rfl) (hr := rfl) (hp := rfl) (hg := rfl); (rintro w' ⟨q0, q1⟩; go_simp; rfl))
 go_simp
 iterate 1 (apply seqV_pure (ho := rfl) (hr := rfl) (hg := rfl); (intro w'; go_simp; rfl))
 unfold seqV
 go_simp
 go_wp2_with fail
 refine hfc.mono ?_
 rintro e w' ⟨rfl, rfl⟩
 go_wp2_with fail
 go_ret2
 exact ⟨rfl, HE.out⟩
set_option maxHeartbeats 1000000 in
set_option maxRecDepth 100000 in
theorem cur_some (h : It w col c ib fb ab db g cap L D B root K0 v n F sl P a) (hf : (nodeOf (getB backN B) a).fin = true) (hv : wval (getB backN B) P + (nodeOf (getB backN B) a).fout < 18446744073709551616) :
  Calls Tryz.prog 128 #[.pointer (some ⟨ib, 0, none⟩)] w fun e w' => e = .returned (.tuple #[v 1, .int .u64 ((wval (getB backN B) P + (nodeOf (getB backN B) a).fout : Nat) : Int)]) ∧ Fr (fun _ => False) w w' := by
 obtain ⟨g0, c0, b, e1, e2, e3, e4, e5, e6, e7, rt, hs⟩ := h.top
 have r4 := h.ic.blk.blk.cell 4 rfl
 have r7 := h.drew.ic.blk.blk.cell 7 rfl
 have r5 := h.drew.ic.blk.blk.cell 5 rfl
 rw [e1] at r4
 obtain ⟨A3, c3, s1, s2, s3, s4⟩ := (h.ic.row 3 (by decide)).row.slc
 obtain ⟨A1, c1, s5, s6, s7, s8⟩ := (h.ic.row 1 (by decide)).row.slc
 rw [h.n3] at s1 s2
 rw [s1] at r7
 rw [s5] at r5 ⊢
 have hP := h.addr
 have hfst := h.fst.fr (Fr.refl (fun _ => False) w).drew (fun h => h) (fun h => h) (fun h => h)
 have HP : Hid (∀ k, k < P.length → ∃ g3 x, A3 = some ⟨g3, 0, none⟩ ∧ P[k]? = some x ∧ w.drew.cell? ⟨g3, k, none⟩ = some (.int .u64 ((arcAt (getB backN B) x.1 x.2).2.1 : Int))) := Lib.hid (fun k hk => by
  obtain ⟨x, hx⟩ : ∃ x, P[k]? = some x := ⟨_, List.getElem?_eq_getElem hk⟩
  obtain ⟨g3, cap3, q1, q2, q3, q4, q5, q6, q7⟩ := (h.drew.ic.row 3 (by decide)).row.at_ (h.f3 k x hx)
  rw [s1] at q1
  injection q1 with q1
  exact ⟨g3, x, q1, hx, q6⟩)
 have hfc := fin_calls (hs.fr (Fr.refl (fun _ => False) w).drew (fun h => h))
 rw [hf] at hfc
 have hfo := finout_calls (hs.fr (Fr.refl (fun _ => False) w).drew (fun h => h)) hfst.byts hfst.cap.1 hfst.cap.2 hP.1
 rw [hf, if_pos rfl] at hfo
 have HL := Lib.hid (show P.take P.length = P from List.take_length)
 have HV := Lib.hid (fun k => vsum_le (getB backN B) P k)
 obtain ⟨fo, hfo1⟩ : ∃ fo, Hid ((nodeOf (getB backN B) a).fout = fo) := ⟨_, Lib.hid rfl⟩
 rw [hfo1.out] at hfo hv ⊢
 generalize hm0 : P.length = m at *
 obtain ⟨m1, hm1⟩ : ∃ m1, Hid (m + 1 = m1) := ⟨_, Lib.hid rfl⟩
 have hm1' := hm1.out
 rw [hm1.out] at r4 e2
 unfold maxLen at e3
 have f1 : IntKind.i64.wrap ((m1 : Int) - 1) = (m : Int) := by rw [IntWalk.i64_in _ (by omega)]; omega
 have f2 : (m : Int) < (m1 : Int) := by omega
 have HE := Lib.hid (Fr.refl (fun _ => False) w).drew
 have q1 := mt_fin ⟨b, 0, none⟩
 have q2 := nt_fin ⟨b, 0, none⟩
 have q3 := mt_fout ⟨b, 0, none⟩
 have q4 := nt_fout ⟨b, 0, none⟩
 have hm63 : m < 9223372036854775807 := by omega
 obtain ⟨wv, hwv⟩ : ∃ wv, Hid (wval (getB backN B) P = wv) := ⟨_, Lib.hid rfl⟩
 have HV2 := Lib.hid (fun k => show vsum (getB backN B) P k ≤ wv by rw [← hwv.out]; exact HV.out k)
 rw [hwv.out] at hv ⊢
 obtain ⟨tt, htt⟩ : ∃ tt, Hid (wv + fo = tt) := ⟨_, Lib.hid rfl⟩
 have htt' := htt.out
 have f3 : IntKind.u64.wrap ((wv : Int) + (fo : Int)) = (tt : Int) := by rw [IntWalk.u64_in _ (by omega)]; omega
 rw [htt.out]
 have hv' : wv < 18446744073709551616 := by omega
 clear h hs e1 e2 e3 e4 e5 e6 e7 hP hm1' hf hfst s1 s2 s3 s4 s5 s6 s7 s8 hv htt' hm0
 go_enter Tryz.func128, Tryz.ntmps128
 go_wp2_with fail
 refine wp_region_seqV (fun W => W.cell? ⟨ib, 4, none⟩ = some (.slice (some ⟨g0, 0, none⟩) m1 c0) ∧ W.cell? ⟨g0, m, none⟩ = some (.iface 254 (.pointer (some ⟨b, 0, none⟩)))) (fun i => decide (True)) (fun i => ![3, 7, 11].contains i && decide (True)) (fun i => false) [0, 1, 2, 3, 4, 5, 6, 7, 8, 9, 10, 11, 12] (by kernel_rfl) (by kernel_rfl) (fun c a d v w h => by cases d <;> exact h) ⟨r4, rt⟩ ?_
 iterate 3 (apply seqV_pure (ho := rfl) (hr := rfl) (hg := rfl); (intro w'; go_simp; rfl))
 (apply seqV_read (ho := rfl) (hr := rfl) (hp := rfl) (hg := rfl); (rintro w' ⟨q0, q1⟩; go_simp; rfl))
 go_simp
 iterate 3 (apply seqV_pure (ho := rfl) (hr := rfl) (hg := rfl); (intro w'; go_simp; rfl))
 (apply seqV_read (ho := rfl) (hr := rfl) (hp := rfl) (hg := rfl); (rintro w' ⟨q0, q1⟩; go_simp; rfl))
 go_simp
 iterate 3 (apply seqV_pure (ho := rfl) (hr := rfl) (hg := rfl); (intro w'; go_simp; rfl))
 (apply seqV_read (ho := rfl) (hr := rfl) (hp := rfl) (hg := rfl); (rintro w' ⟨q0, q1⟩; go_simp; rfl))
 go_simp
 iterate 1 (apply seqV_pure (ho := rfl) (hr := rfl) (hg := rfl); (intro w'; go_simp; rfl))
 unfold seqV
 go_simp
 go_wp2_with fail
 refine hfc.mono ?_
 rintro e w' ⟨rfl, rfl⟩
 clear hfc rt r4
 go_wp2_with fail
 go_loopg [27, 5] (m + 1) (fun g i t wx => ∃ k : Nat, k ≤ m ∧ g = m - k + 1 ∧ i = .int .i64 (k : Int) ∧ t = .int .u64 (vsum (getB backN B) P k : Int) ∧ wx = w.drew)
 case atStart => exact ⟨0, by omega, by omega, rfl, rfl, rfl⟩
 case round =>
  obtain ⟨k, hk, rfl, rfl, rfl, rfl⟩ := hrel
  by_cases hkm : k < m
  ·have d1 : (k : Int) < (m : Int) := by omega
   obtain ⟨g3, x, rfl, hx, hc⟩ := HP.out k hkm
   have hsu := vsum_succ (getB backN B) hx
   have hle := HV2.out (k + 1)
   obtain ⟨y, hy⟩ : ∃ y, Hid ((arcAt (getB backN B) x.1 x.2).2.1 = y) := ⟨_, Lib.hid rfl⟩
   rw [hy.out] at hc hsu
   obtain ⟨u, hu⟩ : ∃ u, Hid (vsum (getB backN B) P k = u) := ⟨_, Lib.hid rfl⟩
   obtain ⟨u1, hu1⟩ : ∃ u1, Hid (vsum (getB backN B) P (k + 1) = u1) := ⟨_, Lib.hid rfl⟩
   rw [hu.out, hu1.out] at hsu
   rw [hu1.out] at hle
   rw [hu.out]
   have d2 : IntKind.u64.wrap ((u : Int) + (y : Int)) = (u1 : Int) := by rw [IntWalk.u64_in _ (by omega)]; omega
   have d3 : IntKind.i64.wrap ((k : Int) + 1) = ((k + 1 : Nat) : Int) := by rw [IntWalk.i64_in _ (by omega)]; omega
   clear hsu hle hx hfo hv'
   go_wp2_with fail
   go_roundg (m - (k + 1) + 1)
   case measure => omega
   case rel => exact ⟨k + 1, by omega, rfl, by simp, by rw [hu1.out], rfl⟩
  ·obtain rfl : k = m := by omega
   have d1 : ¬ (k : Int) < (k : Int) := by omega
   have hvs : vsum (getB backN B) P k = wv := by unfold vsum; rw [HL.out]; exact hwv.out
   rw [hvs]
   clear hvs
   go_wp2_with fail
   refine hfo.mono ?_
   rintro e w2 ⟨rfl, hF2⟩
   have r5' := hF2.cell r5 (fun h => h)
   have HF := Lib.hid (HE.out.trans hF2 (fun _ _ h => h))
   clear hF2 hfo r5 r7
   go_wp2_with fail
   go_ret2
   exact ⟨rfl, HF.out⟩
end
end
section
open Go.RowKit Fmt
section
variable {ops : Array Oper} {o : Oper} {a : Act} {K : Act → World → Prop} {Q : Exit → Act → World → Prop} {E : Prop} {w : World}
/-- append of m elements in a region that draws its order. -/
theorem stepF (hgd : o.guard = none) (s x : Operand) (t : TypeId) (ho : o.op = .call { callee := .builtin .append, args := #[s, x], argTypes := #[t, t] })
  (e : TypeId) (z : Value) (size bytes : Nat) (ht : Tryz.prog.underlying t = some (.slice e)) (hinfo : (Tryz.prog.info? e).map (fun i => (i.zero, i.size, i.bytes)) = some (some z, size, bytes)) (hzs : z.cells.size = size)
  (v : Value) (n : Nat) (full : List Value) (hs : a.eval s = v) (h : RowF w e size v n full) (ad : Addr) (m c : Nat) (news : List Value) (hx : a.eval x = .slice (some ad) m c) (hl : news.length = m * size) (hnews : ∀ j u, news[j]? = some u → w.cell? (ad.add j) = some u) (h1 : ∀ u ∈ news, u.oneCell' = true)
  (h0 : 0 < m) (h63 : n + m ≤ maxLen) (hbytes : (n + m) * bytes ≤ 140737488355328)
  (hk : ∀ v' w' full', RowF w' e size v' (n + m) full' → Fr (fun k => v.ownBlock = some k) w w' →
   ((v'.ownBlock = v.ownBlock ∧ full' = full.take (n * size) ++ news ++ full.drop ((n + m) * size)) ∨ (v'.ownBlock = some w.heap.size ∧ ∃ k, full' = full.take (n * size) ++ news ++ zeros z.cells k)) → K (a.put o.dst v') w') :
  if Region.wanted o (yielded ops a.tmps) = true then Oper.wp Tryz.prog o a w K Q else E := by
 obtain ⟨i0, hi, hzz⟩ := Option.map_eq_some_iff.1 hinfo
 simp only [Prod.mk.injEq] at hzz
 obtain ⟨hz0, hz1, hz2⟩ := hzz
 obtain ⟨v', w', full', hr, h2, h3, h4⟩ := run_append_full (P := Tryz.prog) w t o.type e i0 z size bytes ht hi hz0 hz1 hz2 hzs v n full h ad m c news hl hnews h1 h0 h63 hbytes
 have hw : Region.wanted o (yielded ops a.tmps) = true := by simp [Region.wanted, hgd]
 rw [if_pos hw]
 unfold Oper.wp execOp
 simp only [ho, resolve, invoke, builtin, Sem.run_bind, Sem.run_pure, Result.andThen_ok, List.map_toArray, List.map_cons, List.map_nil, hs, hx, hr]
 exact hk v' w' full' h2 h3 h4
end
/-- ErrIteratorDone. -/
structure Done (w : World) (col : Col) (T : TypeId) (ea : Addr) : Prop where
 cell : w.cell? ⟨0, 0, none⟩ = some (.iface T (.pointer (some ea)))
 col : col 0 = 0
theorem Done.kp {w w1 : World} {C : Nat → Prop} {col col1 : Col} {T : TypeId} {ea : Addr} (h : Done w col T ea) (k : Kp C col w col1 w1) (h0 : ¬ C 0) : Done w1 col1 T ea :=
 ⟨k.fr.cell h.cell (by rw [h.col]; exact h0), (k.same _ (World.block_lt_of_cell? w _ h.cell)).trans h.col⟩
/-- The colours of an iterator. -/
def itc (c : Nat) (d : Nat) : Prop := c ≤ d ∧ d ≤ c + 7
section
variable {w w1 w2 : World} {col col1 col2 : Col} {c ib fb ab db g cap : Nat} {L : Prs} {D B : List Nat} {root : Nat} {K0 : List Nat} {v v' : Nat → Value} {n n' : Nat → Nat} {F F' : Nat → List Value} {sl sl' : List (Option Nat)} {P : Fmt.Way} {a q sb : Nat}
/-- The key at hand is kept. -/
theorem It.left (h : It w col c ib fb ab db g cap L D B root K0 v n F sl P a) (hI : Ic w2 col2 c ib fb ab v' n' F') (hK : Kp (itc c) col w col2 w2) (hK7 : Kp (fun d => d = c ∨ d = c + 6) col w col2 w2) (hn : ∀ k, k ≠ 5 → n' k = n k) (hF : ∀ k, k ≠ 5 → F' k = F k) {K1 : List Nat} (hn5 : n' 5 = K1.length) (hf5 : ∀ (i x : Nat), K1[i]? = some x → (F' 5)[i]? = some (.int .u8 (x : Int))) :
  It w2 col2 c ib fb ab db g cap L D B root K1 v' n' F' sl P a := by
 obtain ⟨f1, f2, f3, f4⟩ := h.far
 exact { ic := hI
         fst := h.fst.fr hK.fr (by rw [f1]; unfold itc; omega) (by rw [f2]; unfold itc; omega) (by rw [f3]; unfold itc; omega)
         far := ⟨(hK.same _ h.fst.fst.lt).trans f1, (hK.same _ h.fst.dec.lt).trans f2, (hK.same _ h.gl).trans f3, f4⟩
         gl := Nat.lt_of_lt_of_le h.gl hK.size
         way := h.way
         n0 := by rw [hn 0 (by decide)]; exact h.n0
         n1 := by rw [hn 1 (by decide)]; exact h.n1
         n2 := by rw [hn 2 (by decide)]; exact h.n2
         n3 := by rw [hn 3 (by decide)]; exact h.n3
         n4 := by rw [hn 4 (by decide)]; exact h.n4
         n5 := hn5
         f0 := by rw [hF 0 (by decide)]; exact h.f0
         f1 := by rw [hF 1 (by decide)]; exact h.f1
         f2 := by rw [hF 2 (by decide)]; exact h.f2
         f3 := by rw [hF 3 (by decide)]; exact h.f3
         f4 := by rw [hF 4 (by decide)]; exact h.f4
         f5 := hf5
         sts := h.sts.kp hK7 (by omega)
         act := fun i x hx => by
          obtain ⟨y, k1, k2⟩ := h.act i x hx
          exact ⟨y, k1, k2.fr hK7.fr (by rw [(h.sts.old i y k1).1]; omega)⟩ }
/-- The key's bytes in memory. -/
theorem It.key (h : It w col c ib fb ab db g cap L D B root K0 v n F sl P a) : Sby w (v 1) (wkey (getB backN B) P) := by
 have hl : (wkey (getB backN B) P).length = P.length := by simp [wkey]
 obtain ⟨A1, c1, s5, s6, s7, s8⟩ := (h.ic.row 1 (by decide)).row.slc
 rw [h.n1] at s5
 rcases Nat.eq_zero_or_pos P.length with h0 | h0
 ·have hP : P = [] := List.length_eq_zero_iff.1 h0
  subst hP
  cases A1 with
  | none => exact .inr ⟨rfl, c1, s5⟩
  | some A =>
   rcases (h.ic.row 1 (by decide)).row with ⟨e, _⟩ | ⟨b, cp, e, _⟩
   ·rw [s5] at e; cases e
   ·rw [s5] at e
    injection e with e
    refine .inl ⟨b, 0, c1, ?_, ⟨fun j x hj => by simp [wkey] at hj⟩⟩
    rw [s5, e]; rfl
 ·obtain ⟨x, hx⟩ : ∃ x, P[0]? = some x := ⟨_, List.getElem?_eq_getElem h0⟩
  obtain ⟨b, cp, q1, q2, q3, q4, q5, q6, q7⟩ := (h.ic.row 1 (by decide)).row.at_ (h.f1 0 x hx)
  rw [h.n1] at q1
  refine .inl ⟨b, 0, cp, by rw [q1, hl], ⟨fun j y hj => ?_⟩⟩
  unfold wkey at hj
  rw [List.getElem?_map, Option.map_eq_some_iff] at hj
  obtain ⟨z, hz, rfl⟩ := hj
  rw [Nat.zero_add]
  exact q5.cell j (h.f1 j z hz)
theorem It.keyLeft (h : It w col c ib fb ab db g cap L D B root K0 v n F sl P a) : Sby w (v 5) K0 := by
 obtain ⟨A1, c1, s5, s6, s7, s8⟩ := (h.ic.row 5 (by decide)).row.slc
 rw [h.n5] at s5
 rcases Nat.eq_zero_or_pos K0.length with h0 | h0
 ·have hP : K0 = [] := List.length_eq_zero_iff.1 h0
  subst hP
  cases A1 with
  | none => exact .inr ⟨rfl, c1, s5⟩
  | some A =>
   rcases (h.ic.row 5 (by decide)).row with ⟨e, _⟩ | ⟨b, cp, e, _⟩
   ·rw [s5] at e; cases e
   ·rw [s5] at e
    injection e with e
    refine .inl ⟨b, 0, c1, ?_, ⟨fun j x hj => by simp at hj⟩⟩
    rw [s5, e]
 ·obtain ⟨x, hx⟩ : ∃ x, K0[0]? = some x := ⟨_, List.getElem?_eq_getElem h0⟩
  obtain ⟨b, cp, q1, q2, q3, q4, q5, q6, q7⟩ := (h.ic.row 5 (by decide)).row.at_ (h.f5 0 x hx)
  rw [h.n5] at q1
  exact .inl ⟨b, 0, cp, q1, ⟨fun j y hj => by rw [Nat.zero_add]; exact q5.cell j (h.f5 j y hj)⟩⟩
theorem Kp.itF {c : Nat} {col : Col} {w w1 : World} (hF : Fr (fun _ => False) w w1) : Kp (itc c) col w (paint w.heap.size (c + 7) col) w1 := Kp.news hF (c + 7) (by unfold itc; omega)
/-- Nothing old was written. -/
theorem It.frF (h : It w col c ib fb ab db g cap L D B root K0 v n F sl P a) (hF : Fr (fun _ => False) w w1) : It w1 (paint w.heap.size (c + 7) col) c ib fb ab db g cap L D B root K0 v n F sl P a := by
 have hk : Kp (fun d => d = c + 7) col w (paint w.heap.size (c + 7) col) w1 := Kp.news hF (c + 7) rfl
 obtain ⟨e1, e2, e3, e4⟩ := h.far
 exact { h with
  ic := h.ic.kp hk (fun d h1 h2 e => by omega)
  fst := h.fst.fr hF (fun h => h) (fun h => h) (fun h => h)
  far := ⟨(hk.same _ h.fst.fst.lt).trans e1, (hk.same _ h.fst.dec.lt).trans e2, (hk.same _ h.gl).trans e3, e4⟩
  gl := Nat.lt_of_lt_of_le h.gl hk.size
  sts := ⟨h.sts.nd, fun i b hb => by
   obtain ⟨h1, cs, h2, h3⟩ := h.sts.old i b hb
   exact ⟨(hk.same _ h3.lt).trans h1, cs, h2, h3.fr hF (fun h => h)⟩⟩
  act := fun i x hx => by
   obtain ⟨b, h1, h2⟩ := h.act i x hx
   exact ⟨b, h1, h2.fr hF (fun h => h)⟩ }
theorem Sby.fr {w w1 : World} {v : Value} {l : List Nat} (h : Sby w v l) (hF : Fr (fun _ => False) w w1) : Sby w1 v l := by
 rcases h with ⟨b, o, c, e, hb⟩ | h
 ·exact .inl ⟨b, o, c, e, hb.fr hF (fun h => h)⟩
 ·exact .inr h
theorem ok_bytes {B : List Nat} (hl : B.length < 2 ^ 64) {a : Nat} (h : Ok codesN backN B a) : ∀ t, t ∈ (nodeOf (getB backN B) a).arcs → t.1 < 256 := by
 intro t ht
 by_cases h0 : a = 0
 ·subst h0; simp [nodeOf] at ht
 ·rw [nodeOf_pos h0] at ht
  obtain ⟨S, _, _, _, _, _, k, _⟩ := h.view codesOk hl h0 []
  exact (k t ht).1
theorem way_lt {B : List Nat} (hl : B.length < 2 ^ 64) : ∀ {P : Fmt.Way} {r a : Nat}, WayTo (getB backN B) r P a → Ok codesN backN B r → ∀ x, x ∈ wkey (getB backN B) P → x < 256
 | [], r, a, h, hr, x, hx => by simp [wkey] at hx
 | (b, q) :: P, r, a, h, hr, x, hx => by
  obtain ⟨rfl, hq, hw⟩ := h
  simp only [wkey, List.map_cons, List.mem_cons] at hx
  rcases hx with rfl | hx
  ·exact ok_bytes hl hr _ (arc_mem hq)
  ·exact way_lt hl hw (hr.to codesOk hl (arc_mem hq)).1 x hx
theorem It.keyLt (h : It w col c ib fb ab db g cap L D B root K0 v n F sl P a) : ∀ x, x ∈ wkey (getB backN B) P → x < 256 :=
 way_lt (by have := h.fst.file.len; omega) h.way h.fst.file.ok
/-- What the data say at an address on the way. -/
theorem It.viewOf (h : It w col c ib fb ab db g cap L D B root K0 v n F sl P a) {x : Nat} (hx : Ok codesN backN B x) : View D x (nodeOf (getB backN B) x) := by
 have h1 := h.fst.file.len
 have h2 := h.fst.file.dlen
 by_cases h0 : x = 0
 ·subst h0; exact .inl ⟨rfl, rfl⟩
 ·right
  rw [nodeOf_pos h0, h.fst.file.eq]
  obtain ⟨S, k1, k2, k3, k4, k5, k6, k7, k8⟩ := hx.view codesOk (by omega) h0 (pk L.length 8 ++ pk root 8)
  exact ⟨h0, S, k1, k2, by rw [← h.fst.file.eq]; omega, k4, k5, k6, k7, k8⟩
end
/-- Zeroes of an iterator's rows. -/
def rzr : Nat → Value
 | 0 => .nilIface
 | 1 => .int .u8 0
 | 2 => .int .i64 0
 | 3 => .int .u64 0
 | _ => .int .i64 0
/-- The first j rows were appended to. -/
def Psh (w : World) (col : Col) (c ib fb ab : Nat) (v : Nat → Value) (n : Nat → Nat) (F : Nat → List Value) (xs : Nat → Value) (j : Nat) (X : World) : Prop :=
 ∃ (col6 : Col) (v6 : Nat → Value) (n6 : Nat → Nat) (F6 : Nat → List Value), Ic X col6 c ib fb ab v6 n6 F6 ∧ Kp (fun d => c ≤ d ∧ d ≤ c + 6) col w col6 X ∧
  (∀ k, k < j → n6 k = n k + 1 ∧ AppF (F k) (n k) (xs k) (F6 k) (rzr k)) ∧ (∀ k, j ≤ k → n6 k = n k ∧ F6 k = F k ∧ v6 k = v k)
theorem Psh.zero {w : World} {col : Col} {c ib fb ab : Nat} {v : Nat → Value} {n : Nat → Nat} {F : Nat → List Value} (xs : Nat → Value) (h : Ic w col c ib fb ab v n F) : Psh w col c ib fb ab v n F xs 0 w :=
 ⟨col, v, n, F, h, Kp.refl _ _ _, fun k hk => by omega, fun k _ => ⟨rfl, rfl, rfl⟩⟩
theorem Psh.step {w X w5 : World} {col : Col} {c ib fb ab : Nat} {v : Nat → Value} {n : Nat → Nat} {F : Nat → List Value} {xs : Nat → Value} {j : Nat} {v' : Value} {full' : List Value} (hj : j < 5) (h : Psh w col c ib fb ab v n F xs j X) (hr : RowF w5 (rty j) 1 v' (n j + 1) full') (hF : Fr (fun q => (v j).ownBlock = some q) X w5)
  (hc : (v'.ownBlock = (v j).ownBlock ∧ full' = (F j).take (n j * 1) ++ [xs j] ++ (F j).drop ((n j + 1) * 1)) ∨ ((∃ b', v'.ownBlock = some b' ∧ X.heap.size ≤ b') ∧ ∃ k, full' = (F j).take (n j * 1) ++ [xs j] ++ zeros #[rzr j] k)) :
  Psh w col c ib fb ab v n F xs (j + 1) (w5.setCell ⟨ib, 4 + j, none⟩ v') := by
 obtain ⟨col6, v6, n6, F6, hI, hK, h1, h2⟩ := h
 obtain ⟨e1, e2, e3⟩ := h2 j (Nat.le_refl _)
 rw [← e3] at hF hc
 obtain ⟨hI', hK'⟩ := hI.app (k := j) (by omega) hr hF (by
  rcases hc with ⟨e, _⟩ | ⟨e, _⟩
  ·exact .inl e
  ·exact .inr e)
 refine ⟨_, _, _, _, hI', hK.trans (hK'.mono fun d e => by omega), fun k hk => ?_, fun k hk => ?_⟩
 ·by_cases hkj : k = j
  ·subst hkj
   rw [upd_same', upd_same']
   refine ⟨rfl, ?_⟩
   rcases hc with ⟨_, e⟩ | ⟨_, z, e⟩
   ·left; rw [e, Nat.mul_one, Nat.mul_one]
   ·right; exact ⟨z, by rw [e, Nat.mul_one, zeros_one]⟩
  ·rw [upd_ne' _ _ hkj, upd_ne' _ _ hkj]
   exact h1 k (by omega)
 ·rw [upd_ne' _ _ (by omega), upd_ne' _ _ (by omega), upd_ne' _ _ (by omega)]
  exact h2 k (by omega)
theorem Psh.at_ {w X : World} {col : Col} {c ib fb ab : Nat} {v : Nat → Value} {n : Nat → Nat} {F : Nat → List Value} {xs : Nat → Value} {j : Nat} (hj : j < 6) (h : Psh w col c ib fb ab v n F xs j X) : (∃ cs, Blk X ib cs 144 ∧ cs[4 + j]? = some (v j)) ∧ RowF X (rty j) 1 (v j) (n j) (F j) := by
 obtain ⟨col6, v6, n6, F6, hI, hK, h1, h2⟩ := h
 obtain ⟨e1, e2, e3⟩ := h2 j (Nat.le_refl _)
 have hr := (hI.row j hj).row
 rw [e1, e2, e3] at hr
 exact ⟨⟨_, hI.blk.blk, by rw [icells_at _ _ _ hj, e3]⟩, hr⟩
/-- The first j rows were cut short. -/
def Pct (w : World) (col : Col) (c ib fb ab : Nat) (v : Nat → Value) (n : Nat → Nat) (F : Nat → List Value) (ns : Nat → Nat) (j : Nat) (X : World) : Prop :=
 ∃ (v6 : Nat → Value) (n6 : Nat → Nat), Ic X col c ib fb ab v6 n6 F ∧ Kp (fun d => d = c) col w col X ∧ (∀ k, k < j → n6 k = ns k) ∧ (∀ k, j ≤ k → n6 k = n k ∧ v6 k = v k)
theorem Pct.zero {w : World} {col : Col} {c ib fb ab : Nat} {v : Nat → Value} {n : Nat → Nat} {F : Nat → List Value} (ns : Nat → Nat) (h : Ic w col c ib fb ab v n F) : Pct w col c ib fb ab v n F ns 0 w :=
 ⟨v, n, h, Kp.refl _ _ _, fun k hk => by omega, fun k _ => ⟨rfl, rfl⟩⟩
theorem Pct.step {w X : World} {col : Col} {c ib fb ab : Nat} {v : Nat → Value} {n : Nat → Nat} {F : Nat → List Value} {ns : Nat → Nat} {j : Nat} {A : Option Addr} {cp : Nat} (hj : j < 5) (h : Pct w col c ib fb ab v n F ns j X) (hv : v j = .slice A (n j) cp) (hm : ns j ≤ n j) :
  Pct w col c ib fb ab v n F ns (j + 1) (X.drew.setCell ⟨ib, 4 + j, none⟩ (.slice A (ns j) cp)) := by
 obtain ⟨v6, n6, hI, hK, h1, h2⟩ := h
 obtain ⟨e1, e2⟩ := h2 j (Nat.le_refl _)
 obtain ⟨hI', hK'⟩ := hI.drew.cut (k := j) (by omega) (A := A) (cp := cp) (m := ns j) (by rw [e2, e1]; exact hv) (by rw [e1]; exact hm)
 refine ⟨_, _, hI', hK.drew.trans hK', fun k hk => ?_, fun k hk => ?_⟩
 ·by_cases hkj : k = j
  ·subst hkj; rw [upd_same']
  ·rw [upd_ne' _ _ hkj]; exact h1 k (by omega)
 ·rw [upd_ne' _ _ (by omega), upd_ne' _ _ (by omega)]
  exact h2 k (by omega)
theorem Pct.at_ {w X : World} {col : Col} {c ib fb ab : Nat} {v : Nat → Value} {n : Nat → Nat} {F : Nat → List Value} {ns : Nat → Nat} {j : Nat} (hj : j < 6) (h : Pct w col c ib fb ab v n F ns j X) : X.cell? ⟨ib, 4 + j, none⟩ = some (v j) ∧ X.frozen? ⟨ib, 4 + j, none⟩ = false := by
 obtain ⟨v6, n6, hI, hK, h1, h2⟩ := h
 obtain ⟨e1, e2⟩ := h2 j (Nat.le_refl _)
 exact ⟨hI.blk.blk.cell (4 + j) (by rw [icells_at _ _ _ hj, e2]), hI.blk.blk.frz _⟩
theorem pop_split {P : Fmt.Way} {r : Nat} (hr : r < P.length) : ∃ b p, P[r]? = some (b, p) ∧ P = P.take r ++ (b, p) :: P.drop (r + 1) := by
 refine ⟨P[r].1, P[r].2, List.getElem?_eq_getElem hr, ?_⟩
 conv => lhs; rw [← List.take_append_drop r P, List.drop_eq_getElem_cons hr]
section
variable {w w1 w2 : World} {col col1 col2 : Col} {c ib fb ab db g cap : Nat} {L : Prs} {D B : List Nat} {root : Nat} {K0 : List Nat} {v v' : Nat → Value} {n n' : Nat → Nat} {F F' : Nat → List Value} {sl sl' : List (Option Nat)} {P : Fmt.Way} {a q sb : Nat}
/-- States lie apart from the map. -/
theorem It.neSt (h : It w col c ib fb ab db g cap L D B root K0 v n F sl P a) {i b : Nat} (hb : sl[i]? = some (some b)) : ¬ g = b ∧ ¬ db = b ∧ ¬ fb = b ∧ ¬ ib = b := by
 obtain ⟨e1, e2, e3, e4⟩ := h.far
 have hc := (h.sts.old i b hb).1
 have hi := h.ic.blk.col
 exact ⟨fun e => by rw [← e] at hc; omega, fun e => by rw [← e] at hc; omega, fun e => by rw [← e] at hc; omega, fun e => by rw [← e] at hc; omega⟩
/-- stateAt with what lies in the next place. -/
theorem It.stateAt (h : It w col c ib fb ab db g cap L D B root K0 v n F sl P a) (hT : Tabs w col) {pre : Option Nat} {i : Nat} (hpre : ∀ (b : Nat), pre = some b → sl[i]? = some (some b)) {x : Nat} (hx : Ok codesN backN B x) :
  Calls Tryz.prog 137 #[.pointer (some ⟨db, 0, none⟩), .int .i64 (x : Int), slot pre] w fun e w' => StPost w pre D g cap x (nodeOf (getB backN B) x) e w' := by
 cases pre with
 | none => exact stateAt_new h.fst.dec hT h.gl h.fst.byts h.fst.cap.1 h.addr.2.1 (h.viewOf hx)
 | some b =>
  obtain ⟨hc, cs, hl, hb⟩ := h.sts.old i b (hpre b rfl)
  obtain ⟨n1, n2, n3, n4⟩ := h.neSt (hpre b rfl)
  exact stateAt_old h.fst.dec hT h.fst.byts h.fst.cap.1 h.addr.2.1 (h.viewOf hx) hb hl (by rw [hc]; omega) n1 n2
/-- The colours behind stateAt. -/
theorem It.stKp (h : It w col c ib fb ab db g cap L D B root K0 v n F sl P a) {pre : Option Nat} {i : Nat} (hpre : ∀ (b : Nat), pre = some b → sl[i]? = some (some b)) (hF : Fr (fun k => pre = some k) w w1) (hsb : pre = some sb ∨ pre = none ∧ w.heap.size ≤ sb) :
  Kp (fun d => d = c + 7) col w (paint w.heap.size (c + 7) col) w1 ∧ paint w.heap.size (c + 7) col sb = c + 7 ∧ Ic w1 (paint w.heap.size (c + 7) col) c ib fb ab v n F := by
 have hk : Kp (fun d => d = c + 7) col w (paint w.heap.size (c + 7) col) w1 := Kp.of hF (c + 7) (fun k _ e => (h.sts.old i k (hpre k e)).1) rfl
 refine ⟨hk, ?_, h.ic.kp hk (fun d h1 h2 e => by omega)⟩
 rcases hsb with e | ⟨_, e⟩
 ·obtain ⟨hc, cs, _, hb⟩ := h.sts.old i sb (hpre sb e)
  rw [paint_lt hb.lt]; exact hc
 ·exact paint_ge e
end
theorem wp_loop_once {P : Program} {Q : Exit → Act → World → Prop} {a : Act} {w : World} {c : Code} (h : ∀ K : Act → World → Prop, c.wp P (Exit.then K Q) a w) : (Code.loop c).wp P Q a w := by
 refine wp_loop_ghost (fun _ a' w' => a' = a ∧ w' = w) 0 ⟨rfl, rfl⟩ ?_
 rintro n a' w' ⟨rfl, rfl⟩
 refine wp_mono (h (fun _ _ => False)) ?_
 intro e a1 w1 hq
 cases e with
 | normal => exact (hq : False).elim
 | exit id => exact hq
 | goto l => exact hq
 | ret => exact hq
 | panic ch => exact hq
 | outgrown => exact hq
theorem nil_neq (W : World) : (binOp .neq 29 (.slice none 0 0) (.slice none 0 0)).run Tryz.prog W = .ok (.bool false) W := by
 have h : ∀ d : Nat, (Op.equalIn (d + 1) 29 (.slice none 0 0) (.slice none 0 0)).run Tryz.prog W = .ok true W := fun d => by
  simp [Op.equalIn, run_underlying Tryz.underlying29]
 simp only [binOp]
 simp [Op.equal, Op.maxDepth, h 9999]
theorem ta_fz (a : Addr) (w : World) : (Instr.typeAssert (.iface 186 (.pointer (some a))) 141 222 true).run Tryz.prog w = .ok (.tuple #[.nilIface, .bool false]) w := run_typeAssert_lacksB Tryz.underlying222 (by kernel_rfl) (by kernel_rfl) _ _ w
end
end Go.Proofs.YtmhlnijpimjjaaaGreatDoor
