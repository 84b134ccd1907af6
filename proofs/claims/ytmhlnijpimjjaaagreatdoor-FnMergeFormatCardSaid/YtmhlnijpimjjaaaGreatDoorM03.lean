/- Rows known whole, spare cells too: what append makes of them. Condition: a row stays below 2^47 bytes. A region that draws its order, walked once: readers (which yield one value in every world that meets S) come up as soon as they may; the others form a chain; behind each of them, but for those that wait for all readers, S holds anew. No condition. A region that draws its order, walked once, as in Draw; besides, readers that yield one value in whatever world, and for which nobody waits. No condition. -/
import Derived.Test.YtmhlnijpimjjaaaGreatDoorM02
import Derived.OrdersHeld
set_option linter.unusedSimpArgs false
set_option linter.unusedVariables false
namespace Go.Proofs.YtmhlnijpimjjaaaGreatDoor
section
open Go.RowKit

/-- v is a slice of n elements at the head of a row that holds just these cells, or nil. -/
def RowF (w : World) (e : TypeId) (size : Nat) (v : Value) (n : Nat) (full : List Value) : Prop :=
 (v = .slice none 0 0 ∧ n = 0 ∧ full = []) ∨ ∃ g cap, v = .slice (some ⟨g, 0, none⟩) n cap ∧ Blk w g full e ∧ n ≤ cap ∧ cap ≤ maxLen ∧ full.length = cap * size
structure RowC (w : World) (col : Col) (c : Nat) (e : TypeId) (size : Nat) (v : Value) (n : Nat) (full : List Value) : Prop where
 row : RowF w e size v n full
 col : ∀ k, v.ownBlock = some k → col k = c
def zeros (z : Array Value) (n : Nat) : List Value := (Builtin.zeroCells z n).toList
theorem zeros_len (z : Array Value) (n : Nat) : (zeros z n).length = n * z.size := by simp [zeros, size_zeroCells]
theorem zeros_at {z : Array Value} {n j : Nat} (h : j < n * z.size) : (zeros z n)[j]? = some z[j % z.size]! := by
 unfold zeros Builtin.zeroCells
 simp [h]
section
variable {w w1 : World} {C : Nat → Prop} {col col1 : Col} {c : Nat} {e : TypeId} {size : Nat} {v : Value} {n : Nat} {full : List Value}
theorem RowF.lt (h : RowF w e size v n full) {k : Nat} (hk : v.ownBlock = some k) : k < w.heap.size := by
 rcases h with ⟨rfl, _⟩ | ⟨g, cap, rfl, hb, _⟩
 ·simp [Value.ownBlock] at hk
 ·simp [Value.ownBlock] at hk
  subst hk; exact hb.lt
theorem RowF.fr {F : Nat → Prop} (h : RowF w e size v n full) (k : Fr F w w1) (hn : ∀ b, v.ownBlock = some b → ¬ F b) : RowF w1 e size v n full := by
 rcases h with h | ⟨g, cap, rfl, hb, r⟩
 ·exact .inl h
 ·exact .inr ⟨g, cap, rfl, hb.fr k (hn g rfl), r⟩
theorem RowC.kp (h : RowC w col c e size v n full) (k : Kp C col w col1 w1) (hn : ¬ C c) : RowC w1 col1 c e size v n full :=
 ⟨h.row.fr k.fr (fun b hb => by rw [h.col b hb]; exact hn), fun b hb => (k.same b (h.row.lt hb)).trans (h.col b hb)⟩
theorem RowC.nil (w : World) (col : Col) (c : Nat) (e : TypeId) (size : Nat) : RowC w col c e size (.slice none 0 0) 0 [] := ⟨.inl ⟨rfl, rfl, rfl⟩, fun k hk => by simp [Value.ownBlock] at hk⟩
theorem RowC.drew (h : RowC w col c e size v n full) : RowC w.drew col c e size v n full := ⟨h.row, h.col⟩
theorem RowF.slc (h : RowF w e size v n full) : ∃ A cap, v = .slice A n cap ∧ n ≤ cap ∧ cap ≤ maxLen ∧ full.length = cap * size := by
 rcases h with ⟨rfl, rfl, rfl⟩ | ⟨g, cap, rfl, _, h1, h2, h3⟩
 ·exact ⟨none, 0, rfl, Nat.le_refl _, by decide, by simp⟩
 ·exact ⟨_, cap, rfl, h1, h2, h3⟩
/-- A cell of a row. -/
theorem RowF.at_ (h : RowF w e size v n full) {j : Nat} {u : Value} (hu : full[j]? = some u) : ∃ g cap, v = .slice (some ⟨g, 0, none⟩) n cap ∧ n ≤ cap ∧ cap ≤ maxLen ∧ full.length = cap * size ∧ Blk w g full e ∧ w.cell? ⟨g, j, none⟩ = some u ∧ w.frozen? ⟨g, j, none⟩ = false := by
 rcases h with ⟨rfl, rfl, rfl⟩ | ⟨g, cap, rfl, hb, h1, h2, h3⟩
 ·simp at hu
 ·exact ⟨g, cap, rfl, h1, h2, h3, hb, hb.cell j hu, hb.frz j⟩
/-- The slice is cut short. -/
theorem RowF.cut (h : RowF w e size v n full) {m : Nat} (hm : m ≤ n) : ∀ A cap, v = .slice A n cap → RowF w e size (.slice A m cap) m full := by
 intro A cap hv
 rcases h with ⟨rfl, rfl, rfl⟩ | ⟨g, cap', rfl, hb, h1, h2, h3⟩
 ·cases hv
  have : m = 0 := by omega
  subst this
  exact .inl ⟨rfl, rfl, rfl⟩
 ·cases hv
  exact .inr ⟨g, cap, rfl, hb, by omega, h2, h3⟩

/-- append of m elements. -/
theorem run_append_full {P : Program} (w : World) (t ty e : TypeId) (i : TypeInfo) (z : Value) (size bytes : Nat) (ht : P.underlying t = some (.slice e)) (hi : P.info? e = some i) (hz : i.zero = some z) (hsize : i.size = size) (hby : i.bytes = bytes) (hzs : z.cells.size = size)
  (v : Value) (n : Nat) (full : List Value) (h : RowF w e size v n full) (a : Addr) (m c : Nat) (news : List Value) (hl : news.length = m * size) (hnews : ∀ j u, news[j]? = some u → w.cell? (a.add j) = some u) (h1 : ∀ u ∈ news, u.oneCell' = true)
  (h0 : 0 < m) (h63 : n + m ≤ maxLen) (hbytes : (n + m) * bytes ≤ 140737488355328) :
  ∃ v' w' full', (Builtin.append_ #[t, t] ty #[v, .slice (some a) m c]).run P w = .ok v' w' ∧ RowF w' e size v' (n + m) full' ∧ Fr (fun k => v.ownBlock = some k) w w' ∧
   ((v'.ownBlock = v.ownBlock ∧ full' = full.take (n * size) ++ news ++ full.drop ((n + m) * size)) ∨ (v'.ownBlock = some w.heap.size ∧ ∃ k, full' = full.take (n * size) ++ news ++ zeros z.cells k)) := by
 subst hsize
 subst hby
 have hsm : n + m ≤ 9223372036854775807 := by simp only [maxLen] at h63; omega
 have enm : (n + m) * i.size = n * i.size + m * i.size := Nat.add_mul _ _ _
 rcases h with ⟨rfl, rfl, rfl⟩ | ⟨g, cap, rfl, hb, hc1, hc2, hc3⟩
 ·have hr := run_append_nil (P := P) w t ty e i z ht hi hz a m c news hl hnews h0 (by omega) (by have hb := hbytes; simp only [Nat.zero_add] at hb; omega)
  have hge := grownCap_ge w m 0 e
  refine ⟨_, _, news ++ zeros z.cells (grownCap w m 0 e - m), hr, .inr ⟨w.heap.size, grownCap w m 0 e, by simp, ?_, by simpa using hge, grownCap_le_maxLen w m 0 e (by simpa using h63), ?_⟩, ((Fr.refl _ w).drew).alloc _, .inr ⟨by simp [Value.ownBlock], grownCap w m 0 e - m, by simp⟩⟩
  ·have hn := Blk.new w.drew (news ++ zeros z.cells (grownCap w m 0 e - m)) e
   have ea : (news ++ zeros z.cells (grownCap w m 0 e - m)).toArray = news.toArray ++ Builtin.zeroCells z.cells (grownCap w m 0 e - m) := by
    apply Array.ext'; simp [zeros]
   rw [ea] at hn
   exact hn
  ·rw [List.length_append, zeros_len, hl, hzs, ← Nat.add_mul]; congr 1; omega
 ·by_cases hroom : n + m ≤ cap
  ·have hfit : n * i.size + news.length ≤ full.toArray.size := by
    simp only [List.size_toArray, hc3, hl, ← enm]; exact Nat.mul_le_mul_right _ hroom
   have hr := run_append_room (P := P) w t ty e i ht hi g n cap full.toArray hb a m c news hl hnews h1 hroom hfit
   refine ⟨_, _, full.take (n * i.size) ++ news ++ full.drop ((n + m) * i.size), hr, .inr ⟨g, cap, rfl, ?_, hroom, hc2, ?_⟩, ?_, .inl ⟨rfl, rfl⟩⟩
   ·have := setRow_heap w g full.toArray (full.toArray.toList.take (n * i.size) ++ news ++ full.toArray.toList.drop (n * i.size + news.length)).toArray e (0, 0) hb
    unfold Blk
    rw [this, hl, enm]
   ·have hle : (n + m) * i.size ≤ cap * i.size := Nat.mul_le_mul_right _ hroom
    simp only [List.length_append, List.length_take, List.length_drop, hc3, hl, enm] at hle ⊢
    omega
   ·exact ⟨rfl, rfl, rfl, by simp, fun k _ hk => setRow_other w g k _ (fun e => hk (by simp [Value.ownBlock, e]))⟩
  ·have hnl : (full.take (n * i.size)).length = n * i.size := by
    rw [List.length_take, hc3]; exact Nat.min_eq_left (Nat.mul_le_mul_right _ hc1)
   have holds : ∀ j u, (full.take (n * i.size))[j]? = some u → w.cell? ((⟨g, 0, none⟩ : Addr).add j) = some u := by
    intro j u hj
    have hjl := (List.getElem?_eq_some_iff.1 hj).1
    rw [hnl] at hjl
    rw [List.getElem?_take_of_lt hjl] at hj
    have := hb.cell j hj
    by_cases h0 : j = 0
    ·subst h0; simpa [Addr.add] using this
    ·simpa [Addr.add, h0] using this
   have hr := run_append_grow (P := P) w t ty e i z ht hi hz ⟨g, 0, none⟩ n cap _ hnl holds a m c news hl hnews (by omega) (by omega) (growslice_fits (by omega) hbytes)
   have hge := grownCap_ge w (n + m) cap e
   refine ⟨_, _, full.take (n * i.size) ++ news ++ zeros z.cells (grownCap w (n + m) cap e - (n + m)), hr, .inr ⟨w.heap.size, _, rfl, ?_, hge, grownCap_le_maxLen w (n + m) cap e h63, ?_⟩, ((Fr.refl _ w).drew).alloc _, .inr ⟨by simp [Value.ownBlock], _, rfl⟩⟩
   ·have hn := Blk.new w.drew (full.take (n * i.size) ++ news ++ zeros z.cells (grownCap w (n + m) cap e - (n + m))) e
    have ea : (full.take (n * i.size) ++ news ++ zeros z.cells (grownCap w (n + m) cap e - (n + m))).toArray = (full.take (n * i.size)).toArray ++ news.toArray ++ Builtin.zeroCells z.cells (grownCap w (n + m) cap e - (n + m)) := by
     apply Array.ext'; simp [zeros]
    rw [ea] at hn
    exact hn
   ·rw [List.length_append, List.length_append, zeros_len, hnl, hl, hzs, ← enm, ← Nat.add_mul]; congr 1; omega
end
section
variable {ops : Array Oper} {rest : List Oper} {o : Oper} {a : Act} {Q : Exit → Act → World → Prop}
/-- append in a walk, m elements at an address. -/
theorem wpList_append_full {P : Program} (w : World) (hgd : o.guard = none) (s x : Operand) (t : TypeId) (ho : o.op = .call { callee := .builtin .append, args := #[s, x], argTypes := #[t, t] })
  (e : TypeId) (z : Value) (size bytes : Nat) (ht : P.underlying t = some (.slice e)) (hinfo : (P.info? e).map (fun i => (i.zero, i.size, i.bytes)) = some (some z, size, bytes)) (hzs : z.cells.size = size)
  (v : Value) (n : Nat) (full : List Value) (hs : a.eval s = v) (h : RowF w e size v n full) (ad : Addr) (m c : Nat) (news : List Value) (hx : a.eval x = .slice (some ad) m c) (hl : news.length = m * size) (hnews : ∀ j u, news[j]? = some u → w.cell? (ad.add j) = some u) (h1 : ∀ u ∈ news, u.oneCell' = true)
  (h0 : 0 < m) (h63 : n + m ≤ maxLen) (hbytes : (n + m) * bytes ≤ 140737488355328)
  (hk : ∀ v' w' full', RowF w' e size v' (n + m) full' → Fr (fun k => v.ownBlock = some k) w w' →
   ((v'.ownBlock = v.ownBlock ∧ full' = full.take (n * size) ++ news ++ full.drop ((n + m) * size)) ∨ (v'.ownBlock = some w.heap.size ∧ ∃ k, full' = full.take (n * size) ++ news ++ zeros z.cells k)) → wpList P ops Q rest (a.put o.dst v') w') :
  wpList P ops Q (o :: rest) a w := by
 obtain ⟨i0, hi, hzz⟩ := Option.map_eq_some_iff.1 hinfo
 simp only [Prod.mk.injEq] at hzz
 obtain ⟨hz0, hz1, hz2⟩ := hzz
 refine wpList_plain hgd fun K hK => ?_
 obtain ⟨v', w', full', hr, h2, h3, h4⟩ := run_append_full (P := P) w t o.type e i0 z size bytes ht hi hz0 hz1 hz2 hzs v n full h ad m c news hl hnews h1 h0 h63 hbytes
 unfold Oper.wp execOp
 simp only [ho, resolve, invoke, builtin, Sem.run_bind, Sem.run_pure, Result.andThen_ok, List.map_toArray, List.map_cons, List.map_nil, hs, hx, hr]
 exact hK _ _ (hk v' w' full' h2 h3 h4)
/-- append(v, y), y laid into a block of its own just ahead, its number named. -/
theorem app1f {P : Program} (W : World) (b : Nat) (hb : W.heap.size = b) (hgd : o.guard = none) (s x : Operand) (t : TypeId) (ho : o.op = .call { callee := .builtin .append, args := #[s, x], argTypes := #[t, t] })
  (e : TypeId) (z : Value) (size bytes : Nat) (ht : P.underlying t = some (.slice e)) (hinfo : (P.info? e).map (fun i => (i.zero, i.size, i.bytes)) = some (some z, size, bytes)) (hzs : z.cells.size = size)
  (v : Value) (n : Nat) (full : List Value) (news : List Value) (hs : a.eval s = v) (hx : a.eval x = .slice (some ⟨b, 0, none⟩) 1 1) (h : RowF W e size v n full) (hl : news.length = size) (h1 : ∀ u ∈ news, u.oneCell' = true)
  (hbytes : (n + 1) * bytes ≤ 140737488355328) (hb0 : 0 < bytes)
  (hk : ∀ v' w' full', RowF w' e size v' (n + 1) full' → Fr (fun k => v.ownBlock = some k) W w' →
   ((v'.ownBlock = v.ownBlock ∧ full' = full.take (n * size) ++ news ++ full.drop ((n + 1) * size)) ∨ ((∃ b', v'.ownBlock = some b' ∧ W.heap.size ≤ b') ∧ ∃ k, full' = full.take (n * size) ++ news ++ zeros z.cells k)) → wpList P ops Q rest (a.put o.dst v') w') :
  wpList P ops Q (o :: rest) a (W.alloc (.cells news.toArray e)) := by
 subst hb
 have hlen : n + 1 ≤ 140737488355328 := Nat.le_trans (Nat.le_mul_of_pos_right _ hb0) hbytes
 refine wpList_append_full (W.alloc (.cells news.toArray e)) hgd s x t ho e z size bytes ht hinfo hzs v n full hs (h.fr ((Fr.refl (fun _ => False) W).alloc _) (fun _ _ h => h)) ⟨W.heap.size, 0, none⟩ 1 1 news hx (by omega)
  (World.news_of_block (cs := news.toArray) (t := e) (fr := (0, 0)) (heap_alloc_new W _)) h1 (by decide) (by simp only [maxLen]; omega) hbytes ?_
 intro v' w' full' h2 h3 h4
 refine hk v' w' full' h2 ((((Fr.refl (fun _ => False) W).alloc _).mono (fun _ _ h => h.elim)).trans h3 (fun _ _ h => h)) ?_
 rcases h4 with h4 | ⟨h4, h5⟩
 ·exact .inl h4
 ·exact .inr ⟨⟨_, h4, by simp⟩, h5⟩
end
end
section
open Go

section
variable {P : Program} {ops : Array Oper} {Q : Exit → Act → World → Prop} {md : Region.Mode} {S : World → Prop} {fin : Nat → Bool}

end
end
section
open Go

section
variable {P : Program} {ops : Array Oper} {Q : Exit → Act → World → Prop} {md : Region.Mode} {S : World → Prop} {pu fin : Nat → Bool}

/-- What is known behind an operation: a pure one leaves the world; another one that is not marked leaves S. -/
def clm (S : World → Prop) (pu fin : Nat → Bool) (i : Nat) (w w' : World) : Prop := if pu i = true then w' = w else fin i = false → S w'

def anyV (P : Program) (md : Region.Mode) (ops : Array Oper) (Q : Exit → Act → World → Prop) (S : World → Prop) (pu fin : Nat → Bool) : Nat → Array Bool → Act → World → Prop
 | 0, listed, a, w => Region.ready md ops listed = [] ∧ Q .normal a w
 | n + 1, listed, a, w => (Region.ready md ops listed = [] → Q .normal a w) ∧
     ∀ i, i ∈ Region.ready md ops listed → wpOp P ops Q i (fun a' w' => clm S pu fin i w w' ∧ anyV P md ops Q S pu fin n (listed.setIfInBounds i true) a' w') a w

theorem anyV_any : ∀ (n : Nat) (listed : Array Bool) (a : Act) (w : World), anyV P md ops Q S pu fin n listed a w → wpAny P md ops Q n listed a w
 | 0, _, _, _, h => h
 | n + 1, _, _, _, h => ⟨h.1, fun i hi => wpOp_mono (fun a' w' h' => anyV_any n _ a' w' h'.2) (h.2 i hi)⟩

/-- A reader that may come up may come up first. -/
theorem anyV_first {i : Nat} {oi : Oper} {v : Value} (hi : ops[i]? = some oi) (hsel : Region.noSelect ops = true) (hQ : ∀ c a w, Q (.panic c) (a.put oi.dst v) w → Q (.panic c) a w)
  (R : World → Prop) (hc : ∀ w, R w → clm S pu fin i w w)
  (hfin : ∀ j oj w w', ops[j]? = some oj → R w → clm S pu fin j w w' → R w' ∨ j = i ∨ ∃ e, e ∈ oj.after ∧ Region.binds md e = true ∧ e.on = i) :
  ∀ (n : Nat) (listed : Array Bool) (a : Act) (w : World),
   (∀ j oj, ops[j]? = some oj → j ≠ i → listed.getD j true = false → (∀ e ∈ oj.after, Region.binds md e = true → e.on ≠ i) → oi.apart ops oj = true) →
   i ∈ Region.ready md ops listed → YieldsIf P ops R oi v a → R w →
   anyV P md ops Q S pu fin n (listed.setIfInBounds i true) (a.put oi.dst v) w → anyV P md ops Q S pu fin (n + 1) listed a w := by
 have hs := Region.noSelect_spec hsel
 intro n
 induction n with
 | zero =>
  intro listed a w _ hr hy hS H
  refine ⟨fun h0 => (by rw [h0] at hr; cases hr), fun j hj => ?_⟩
  rcases Nat.decEq j i with hji | hji
  ·have hno := H.1
   have hm := ready_mono hj hji
   rw [hno] at hm
   cases hm
  ·subst hji
   exact hy.wpOp hi hS ⟨hc w hS, H⟩
 | succ n ih =>
  intro listed a w hfree hr hy hS H
  refine ⟨fun h0 => (by rw [h0] at hr; cases hr), fun j hj => ?_⟩
  rcases Nat.decEq j i with hji | hji
  ·obtain ⟨hun, oj, hoj, hall⟩ := mem_ready.1 hj
   have hiun := (mem_ready.1 hr).1
   have hwait : ∀ e ∈ oj.after, Region.binds md e = true → e.on ≠ i := by
    intro e he hb heq
    have h1 := hall e he hb
    rw [heq] at h1
    rcases Nat.lt_or_ge i listed.size with hlt | hge
    ·simp only [Array.getD_eq_getD_getElem?, Array.getElem?_eq_getElem hlt, Option.getD_some] at h1 hiun
     rw [h1] at hiun; cases hiun
    ·simp only [Array.getD_eq_getD_getElem?, Array.getElem?_eq_none hge, Option.getD_none] at h1
     cases h1
   have hkeep : ∀ w', clm S pu fin j w w' → R w' := fun w' hcl => by
    rcases hfin j oj w w' hoj hS hcl with h | e0 | ⟨e, he, hb, heq⟩
    ·exact h
    ·exact absurd e0 hji
    ·exact absurd heq (hwait e he hb)
   have step := wpOp_putIf hoj (hfree j oj hoj hji hun hwait) (fun cs b => hs i oi cs b hi) (fun cs b => hs j oj cs b hoj) hQ hy (H.2 j (ready_mono hj hji))
   refine wpOp_mono (fun a' w' h3 => ⟨h3.2.1, ?_⟩) step
   refine ih (listed.setIfInBounds j true) a' w' (fun k ok hk hki hku hkw => hfree k ok hk hki ?_ hkw) (ready_mono hr (Ne.symm hji)) h3.1 (hkeep w' h3.2.1) ?_
   ·rcases Nat.decEq j k with hjk | hjk
    ·rwa [getD_set_ne true hjk] at hku
    ·subst hjk; exact hun
   ·have := h3.2.2
    rwa [Array.setIfInBounds_comm _ _ hji]
  ·subst hji
   exact hy.wpOp hi hS ⟨hc w hS, H⟩

/-- The order that is walked. rd: the readers; pu: those of them that are pure. -/
def greedyV (md : Region.Mode) (ops : Array Oper) (rd pu fin : Nat → Bool) : List Nat → Array Bool → Bool
 | [], listed => (Region.ready md ops listed).isEmpty
 | i :: r, listed => (if rd i then (Region.ready md ops listed).contains i && Region.free md ops listed i else Region.ready md ops listed == [i] && !pu i && (!fin i || r.all fun j => !rd j || pu j)) && greedyV md ops rd pu fin r (listed.setIfInBounds i true)
/-- What is marked waits for every reader that is not pure. -/
def marksV (md : Region.Mode) (ops : Array Oper) (rd pu fin : Nat → Bool) : Bool :=
 (List.range ops.size).all fun j => !fin j || (List.range ops.size).all fun i => !rd i || pu i || j == i || match ops[j]? with | some oj => oj.after.any (fun e => Region.binds md e && e.on == i) | none => false

def seqV (P : Program) (ops : Array Oper) (Q : Exit → Act → World → Prop) (S : World → Prop) (rd pu fin : Nat → Bool) : List Nat → Act → World → Prop
 | [], a, w => Q .normal a w
 | i :: r, a, w => match ops[i]? with
  | none => False
  | some o => if rd i then ∃ v, YieldsIf P ops (fun w => pu i = true ∨ S w) o v a ∧ seqV P ops Q S rd pu fin r (a.put o.dst v) w else wpOp P ops Q i (fun a' w' => (fin i = false → S w') ∧ seqV P ops Q S rd pu fin r a' w') a w

theorem anyV_seq {rd : Nat → Bool} (hsel : Region.noSelect ops = true) (hQ : ∀ c a d v w, Q (.panic c) (a.put d v) w → Q (.panic c) a w) (hm : marksV md ops rd pu fin = true) :
  ∀ (l : List Nat) (listed : Array Bool) (a : Act) (w : World), greedyV md ops rd pu fin l listed = true → ((∃ j, j ∈ l ∧ rd j = true ∧ pu j = false) → S w) → seqV P ops Q S rd pu fin l a w → anyV P md ops Q S pu fin l.length listed a w
 | [], listed, a, w, hg, hS, h => ⟨by simpa [greedyV] using hg, h⟩
 | i :: l, listed, a, w, hg, hS, h => by
  simp only [greedyV, Bool.and_eq_true] at hg
  simp only [seqV] at h
  cases ho : ops[i]? with
  | none => rw [ho] at h; exact h.elim
  | some o =>
   rw [ho] at h
   simp only at h
   have hlt : i < ops.size := (Array.getElem?_eq_some_iff.1 ho).1
   cases hr : rd i with
   | true =>
    simp only [hr, if_true, Bool.and_eq_true] at hg h
    obtain ⟨⟨h1, h2⟩, h3⟩ := hg
    obtain ⟨v, hy, hk⟩ := h
    have hSw : pu i = true ∨ S w := by
     cases hp : pu i with
     | true => exact .inl rfl
     | false => exact .inr (hS ⟨i, by simp, hr, hp⟩)
    refine anyV_first ho hsel (fun c a w => hQ c a _ v w) (fun w => pu i = true ∨ S w) ?_ ?_ l.length listed a w (Region.free_spec ho h2) (by simpa using h1) hy hSw (anyV_seq hsel hQ hm l _ _ _ h3 (fun ⟨j, a1, a2⟩ => hS ⟨j, List.mem_cons_of_mem _ a1, a2⟩) hk)
    ·intro w1 hw1
     unfold clm
     split
     ·rfl
     ·rename_i hp
      exact fun _ => hw1.resolve_left hp
    ·intro j oj w1 w2 hoj hR hcl
     rcases hR with hR | hR
     ·exact .inl (.inl hR)
     ·unfold clm at hcl
      split at hcl
      ·subst hcl; exact .inl (.inr hR)
      ·cases hf : fin j with
       | false => exact .inl (.inr (hcl hf))
       | true =>
        cases hp : pu i with
        | true => exact .inl (.inl rfl)
        | false =>
         right
         have hj : j < ops.size := (Array.getElem?_eq_some_iff.1 hoj).1
         have hm1 := List.all_eq_true.1 hm j (List.mem_range.2 hj)
         simp only [hf, Bool.not_true, Bool.false_or] at hm1
         have hm2 := List.all_eq_true.1 hm1 i (List.mem_range.2 hlt)
         simp only [hr, hp, Bool.not_true, Bool.false_or, hoj, Bool.or_eq_true, beq_iff_eq] at hm2
         rcases hm2 with hm2 | hm2
         ·exact .inl hm2
         ·obtain ⟨e, he, hb⟩ := Array.any_eq_true'.1 hm2
          simp only [Bool.and_eq_true, beq_iff_eq] at hb
          exact .inr ⟨e, he, hb.1, hb.2⟩
   | false =>
    simp only [hr, Bool.false_eq_true, if_false, Bool.and_eq_true, Bool.or_eq_true, Bool.not_eq_true', beq_iff_eq] at hg h
    obtain ⟨⟨⟨h1, h4⟩, h2⟩, h3⟩ := hg
    refine ⟨fun h0 => (by rw [h1] at h0; cases h0), fun j hj => ?_⟩
    rw [h1] at hj
    obtain rfl : j = i := by simpa using hj
    refine wpOp_mono (fun a' w' hk => ⟨by unfold clm; rw [h4]; simpa using hk.1, anyV_seq hsel hQ hm l _ _ _ h3 ?_ hk.2⟩) h
    rintro ⟨k, hk1, hk2, hk3⟩
    rcases h2 with h2 | h2
    ·exact hk.1 h2
    ·have := List.all_eq_true.1 h2 k hk1
     simp [hk2, hk3] at this

/-- A region that draws, walked in one order. -/
theorem wp_region_seqV {id : Nat} {a : Act} {w : World} (S : World → Prop) (rd pu fin : Nat → Bool) (l : List Nat) (hm : P.follows .mixedOrders = true) (hB : (Region.noSelect ops && marksV .any ops rd pu fin && greedyV .any ops rd pu fin l (Array.replicate ops.size false) && l.length == ops.size) = true)
  (hQ : ∀ c a d v w, Q (.panic c) (a.put d v) w → Q (.panic c) a w) (hS : S w.drew) (h : seqV P ops Q S rd pu fin l a w.drew) : (Code.region id ops true).wp P Q a w := by
 simp only [Bool.and_eq_true, beq_iff_eq] at hB
 obtain ⟨⟨⟨h1, h2⟩, h3⟩, h4⟩ := hB
 refine wp_region_any hm (anyV_any (S := S) (pu := pu) (fin := fin) _ _ _ _ ?_)
 rw [← h4]
 rw [← h4] at h3
 exact anyV_seq h1 hQ h2 l _ a _ h3 (fun _ => hS) h

/-- One reader. -/
theorem seqV_read {rd : Nat → Bool} {i : Nat} {o : Oper} {r : List Nat} {a : Act} {w : World} {v : Value} (hv : ∀ w', S w' → (execOp a.eval o).run P w' = .ok (.value v) w') (h : seqV P ops Q S rd pu fin r (a.put o.dst v) w)
  (ho : ops[i]? = some o) (hr : rd i = true) (hp : pu i = false) (hg : o.guard = none) : seqV P ops Q S rd pu fin (i :: r) a w := by
 simp only [seqV, ho, hr, if_true]
 exact ⟨v, .inl ⟨by simp [Region.wanted, hg], fun w' hw => hv w' (hw.resolve_left (by simp [hp]))⟩, h⟩
/-- One pure reader. -/
theorem seqV_pure {rd : Nat → Bool} {i : Nat} {o : Oper} {r : List Nat} {a : Act} {w : World} {v : Value} (hv : ∀ w', (execOp a.eval o).run P w' = .ok (.value v) w') (h : seqV P ops Q S rd pu fin r (a.put o.dst v) w)
  (ho : ops[i]? = some o) (hr : rd i = true) (hg : o.guard = none) : seqV P ops Q S rd pu fin (i :: r) a w := by
 simp only [seqV, ho, hr, if_true]
 exact ⟨v, .inl ⟨by simp [Region.wanted, hg], fun w' _ => hv w'⟩, h⟩

/-- One of the others. -/
theorem seqV_do {rd : Nat → Bool} {i : Nat} {o : Oper} {r : List Nat} {a : Act} {w : World} (ho : ops[i]? = some o) (hr : rd i = false)
  (h : ∀ K : Act → World → Prop, (∀ a' w', (fin i = false → S w') → seqV P ops Q S rd pu fin r a' w' → K a' w') → if Region.wanted o (yielded ops a.tmps) = true then o.wp P a w K Q else K (a.put o.dst undef) w) : seqV P ops Q S rd pu fin (i :: r) a w := by
 simp only [seqV, ho, hr, Bool.false_eq_true, if_false]
 unfold wpOp
 simp only [ho]
 have := h (fun a' w' => (fin i = false → S w') ∧ seqV P ops Q S rd pu fin r a' w') (fun a' w' h1 h2 => ⟨h1, h2⟩)
 split
 ·rename_i hw; rw [if_pos hw] at this; exact .inl this
 ·rename_i hw; rw [if_neg hw] at this; exact this
end
end
end Go.Proofs.YtmhlnijpimjjaaaGreatDoor
