/- Words and small lemmas that the walks of this claim share: a block that is known whole, a frame (what may have been written), a sparse way of saying both. No condition. The sparse set of package regexp: what its methods do to a set of numbers below n, kept in two rows. Condition: n is at most 10^9. A sparse set is made: both rows are new, in whichever order; the set is empty. Condition: its size is at most 10^9. Plain words on programs of instructions: what a program is, how its steps without a byte go, what the search of package regexp adds to a list of places. No condition. The search '(*dfa).add' of package regexp: it adds to a set all places that are reached from one without a byte. Condition: the program is a right one. '(*dfa).run' of package regexp: one step by a byte from a set of places. Condition: the program is a right one. Plain words on numbers as eight bytes. No condition. 'instsKey' of package regexp: numbers as bytes, into a row that is there or a new one. Condition: each number is below 2^30, there are at most 10^9. Rows of the call's own, appended to by one element: the kit's law in the words of this claim. Condition: the row stays below 2^47 bytes. The builder of package regexp in memory: the program, its states, each with its row of next states, the cache of states by their places. No condition. A region that draws its order, walked once: readers (which yield one value in every world that meets S) come up as soon as they may; the others form a chain; behind each of them, but for those that wait for all readers, S holds anew. No condition. -/
import Derived.Test.YtjeklnbfpehbeaaDoorChecked
import Derived.WalkKit
import Derived.Lib.Hide
import Derived.Deep.Draws
import Derived.Deep.QuietTactic
import Derived.BigQuiet
import Derived.WalkSpells
import Derived.WalkLawsBesides
import Derived.Deep.LoopGhost
import Derived.Deep.RegionHeld3
import Derived.Deep.RegionWith
import Derived.StillTailTactics
import Derived.Deep.Light
import Derived.Deep.DeepFit
import Derived.Deep.DeepMust
import Derived.Deep.OwnRows
import Derived.Maps.AppendAt
import Derived.Deep.AppendLies
import Derived.Maps.OwnOps
import Derived.Maps.OwnSet
import Derived.OrdersHeld
set_option linter.unusedVariables false
/- Words and small lemmas that the walks of this claim share: a block that is known whole, a frame (what may have been written), a sparse way of saying both. No condition. -/
namespace Go.Proofs.YtjeklnbfpehbeaaDoor
open Go.RowKit

/-- Block b is a row of just these cells, of element type t, not frozen. -/
def Blk (w : World) (b : Nat) (cs : List Value) (t : TypeId) : Prop := w.heap[b]? = some (.cells cs.toArray t (0, 0))

/-- What may have been written lies in F; what is new is free. -/
structure Fr (F : Nat → Prop) (w w' : World) : Prop where
  os : w'.os = w.os
  tape : w'.tape = w.tape
  output : w'.output = w.output
  size : w.heap.size ≤ w'.heap.size
  block : ∀ k, k < w.heap.size → ¬ F k → w'.heap[k]? = w.heap[k]?

section
variable {w w1 w2 : World} {F G : Nat → Prop} {b : Nat} {cs : List Value} {t : TypeId}

theorem Fr.refl (F : Nat → Prop) (w : World) : Fr F w w := ⟨rfl, rfl, rfl, Nat.le_refl _, fun _ _ _ => rfl⟩
theorem Fr.trans (h : Fr F w w1) (k : Fr G w1 w2) (hG : ∀ i, i < w.heap.size → G i → F i) : Fr F w w2 :=
  ⟨k.os.trans h.os, k.tape.trans h.tape, k.output.trans h.output, Nat.le_trans h.size k.size, fun i hi hF =>
    (k.block i (Nat.lt_of_lt_of_le hi h.size) (fun hg => hF (hG i hi hg))).trans (h.block i hi hF)⟩
theorem Fr.mono (h : Fr F w w1) (hG : ∀ i, i < w.heap.size → F i → G i) : Fr G w w1 :=
  ⟨h.os, h.tape, h.output, h.size, fun i hi hn => h.block i hi fun hF => hn (hG i hi hF)⟩
theorem Fr.drew (h : Fr F w w1) : Fr F w w1.drew := ⟨h.os, h.tape, h.output, h.size, h.block⟩
theorem Fr.drewN (h : Fr F w w1) (n : Nat) : Fr F w (w1.drewN n) := ⟨h.os, h.tape, h.output, h.size, h.block⟩
theorem Fr.alloc (h : Fr F w w1) (o : Obj) : Fr F w (w1.alloc o) :=
  h.trans (G := fun _ => False) ⟨rfl, rfl, rfl, by simp, fun k hk _ => Below.heap_alloc _ _ _ hk⟩ (fun _ _ h => h.elim)
theorem Fr.setCell (h : Fr F w w1) {p : Addr} (hp : p.block < w.heap.size → F p.block) (u : Value) : Fr F w (w1.setCell p u) :=
  h.trans (G := fun k => k = p.block) ⟨rfl, rfl, rfl, by simp [World.setCell], fun k hk hne => Below.heap_setCell _ _ _ _ hne⟩ (fun i hi h => by subst h; exact hp hi)
theorem Fr.below (h : Fr (fun _ => False) w w1) : Below w.heap.size w w1 := ⟨h.os, h.tape, h.output, h.size, fun k hk => h.block k hk fun h => h⟩
theorem Fr.ofBelow (h : Below w.heap.size w w1) : Fr (fun _ => False) w w1 := ⟨h.os, h.tape, h.output, h.size, fun k hk _ => h.block k hk⟩
theorem Fr.grown {row : Option Nat} (h : Fr F w w1) (hg : w1.grownBy w2 row) (hr : ∀ k, row = some k → k < w.heap.size → F k) : Fr F w w2 :=
  h.trans (G := fun k => row = some k) ⟨hg.os, hg.tape, hg.output, hg.size, fun k hk hn => hg.block k hk fun e => hn e.symm⟩ (fun i hi e => hr i e hi)
theorem Fr.cell (h : Fr F w w1) {a : Addr} {v : Value} (hc : w.cell? a = some v) (hn : ¬ F a.block) : w1.cell? a = some v :=
  (World.cell?_of_block (w := w) (h.block a.block (World.block_lt_of_cell? w a hc) hn)).trans hc

theorem Blk.lt (h : Blk w b cs t) : b < w.heap.size := lt_of_block h
theorem Blk.cell (h : Blk w b cs t) (i : Nat) {v : Value} (hv : cs[i]? = some v) : w.cell? ⟨b, i, none⟩ = some v := by
  unfold Blk at h
  simp [World.cell?, h, hv]
theorem Blk.frz (h : Blk w b cs t) (i : Nat) : w.frozen? ⟨b, i, none⟩ = false := by
  unfold Blk at h
  simp [World.frozen?, h]
theorem Blk.fr (h : Blk w b cs t) (k : Fr F w w1) (hn : ¬ F b) : Blk w1 b cs t := (k.block b h.lt hn).trans h
theorem Blk.alloc (h : Blk w b cs t) (o : Obj) : Blk (w.alloc o) b cs t := h.fr ((Fr.refl (fun _ => False) w).alloc o) (fun h => h)
theorem Blk.drew (h : Blk w b cs t) : Blk w.drew b cs t := h
theorem Blk.drewN (h : Blk w b cs t) (n : Nat) : Blk (w.drewN n) b cs t := h
theorem Blk.new (w : World) (cs : List Value) (t : TypeId) : Blk (w.alloc (.cells cs.toArray t)) w.heap.size cs t := heap_alloc_new w _
theorem Blk.newAt (w : World) (cs : List Value) (t : TypeId) (b : Nat) (h : w.heap.size = b) : Blk (w.alloc (.cells cs.toArray t)) b cs t := by subst h; exact Blk.new w cs t
theorem Blk.set (h : Blk w b cs t) (i : Nat) (v : Value) : Blk (w.setCell ⟨b, i, none⟩ v) b (cs.set i v) t := by
  have hlt := h.lt
  unfold Blk at *
  have h' : w.heap[b] = .cells cs.toArray t (0, 0) := by simpa [Array.getElem?_eq_getElem hlt] using h
  show (w.heap.modify b _)[b]? = _
  rw [Array.getElem?_eq_getElem (by simpa using hlt), Array.getElem_modify_self, h']
  simp
theorem Blk.set_ne (h : Blk w b cs t) {a : Addr} (hne : b ≠ a.block) (v : Value) : Blk (w.setCell a v) b cs t := by
  unfold Blk at *
  rw [Below.heap_setCell _ _ _ _ hne, h]
theorem Blk.inj {cs' : List Value} {t' : TypeId} (h : Blk w b cs t) (h' : Blk w b cs' t') : cs = cs' ∧ t = t' := by
  unfold Blk at *
  rw [h] at h'
  injection h' with h'
  injection h' with h1 h2
  exact ⟨by simpa using h1, h2⟩
end
end Go.Proofs.YtjeklnbfpehbeaaDoor

/- The sparse set of package regexp: what its methods do to a set of numbers below n, kept in two rows. Condition: n is at most 10^9. -/
namespace Go.Proofs.YtjeklnbfpehbeaaDoor
open Go.RowKit

/-- A row of uints. -/
def u64s (l : List Nat) : List Value := l.map fun x : Nat => Value.int .u64 (x : Int)
theorem u64s_len (l : List Nat) : (u64s l).length = l.length := by simp [u64s]
theorem u64s_at {l : List Nat} {i x : Nat} (h : l[i]? = some x) : (u64s l)[i]? = some (.int .u64 (x : Int)) := by simp [u64s, h]
theorem u64s_getD {l : List Nat} {i : Nat} (h : i < l.length) : (u64s l)[i]? = some (.int .u64 ((l.getD i 0 : Nat) : Int)) := by simp [u64s, h]
theorem u64s_set (l : List Nat) (i x : Nat) : (u64s l).set i (.int .u64 (x : Int)) = u64s (l.set i x) := by simp [u64s, List.map_set]

/-- The set at block b (its rows at bd and bs, n long) holds the numbers l, in this order. -/
structure SS (w : World) (b bd bs n : Nat) (l : List Nat) : Prop where
  head : Blk w b [.slice (some ⟨bd, 0, none⟩) n n, .slice (some ⟨bs, 0, none⟩) n n, .int .u64 (l.length : Int)] 142
  dense : ∃ c : List Nat, c.length = n ∧ Blk w bd (u64s c) 46 ∧ ∀ i, i < l.length → c[i]? = l[i]?
  sparse : ∃ c : List Nat, c.length = n ∧ Blk w bs (u64s c) 46 ∧ ∀ i x : Nat, l[i]? = some x → c[x]? = some i
  lt : ∀ x, x ∈ l → x < n
  len : l.length ≤ n
  ne1 : bd ≠ b
  ne2 : bs ≠ b
  ne3 : bs ≠ bd
  small : n ≤ 1000000000

/-- The blocks of a set. -/
def SSf (b bd bs : Nat) : Nat → Prop := fun k => k = b ∨ k = bd ∨ k = bs

theorem SS.fr {w w' : World} {b bd bs n : Nat} {l : List Nat} {F : Nat → Prop} (h : SS w b bd bs n l) (k : Fr F w w') (h1 : ¬ F b) (h2 : ¬ F bd) (h3 : ¬ F bs) : SS w' b bd bs n l := by
  obtain ⟨cd, d1, d2, d3⟩ := h.dense
  obtain ⟨cs, s1, s2, s3⟩ := h.sparse
  exact ⟨h.head.fr k h1, ⟨cd, d1, d2.fr k h2, d3⟩, ⟨cs, s1, s2.fr k h3, s3⟩, h.lt, h.len, h.ne1, h.ne2, h.ne3, h.small⟩

/-- Distinct numbers below n are at most n. -/
theorem length_le_of_nodup_lt : ∀ (n : Nat) (l : List Nat), l.Nodup → (∀ x, x ∈ l → x < n) → l.length ≤ n
  | 0, l, _, h => by
    cases l with
    | nil => simp
    | cons a l => have := h a (by simp); omega
  | n + 1, l, hn, h => by
    have := length_le_of_nodup_lt n (l.erase n) (hn.erase n) (by
      intro x hx
      have h1 := h x (List.mem_of_mem_erase hx)
      have h2 : x ≠ n := by
        intro e; subst e
        exact (List.Nodup.mem_erase_iff hn).1 hx |>.1 rfl
      omega)
    rw [List.length_erase] at this
    split at this <;> omega

theorem SS.nodup {w : World} {b bd bs n : Nat} {l : List Nat} (h : SS w b bd bs n l) : l.Nodup := by
  obtain ⟨cs, s1, s2, s3⟩ := h.sparse
  rw [List.nodup_iff_pairwise_ne, List.pairwise_iff_getElem]
  intro i j hi hj hij he
  have a1 := s3 i l[i] (by simp)
  have a2 := s3 j l[j] (by simp)
  rw [he] at a1
  rw [a1] at a2
  injection a2 with a2
  omega

theorem SS.room {w : World} {b bd bs n : Nat} {l : List Nat} (h : SS w b bd bs n l) {x : Nat} (hx : x < n) (hn : x ∉ l) : l.length < n := by
  have := length_le_of_nodup_lt n (x :: l) (List.nodup_cons.2 ⟨hn, h.nodup⟩) (by
    intro y hy
    rcases List.mem_cons.1 hy with rfl | hy
    · exact hx
    · exact h.lt y hy)
  simp at this; omega

set_option maxHeartbeats 400000 in
theorem set_len {w : World} {b bd bs n : Nat} {l : List Nat} (h : SS w b bd bs n l) :
    Calls Tryd.prog 60 #[.pointer (some ⟨b, 0, none⟩)] w fun e w' => e = .returned (.int .i64 (l.length : Int)) ∧ w = w' := by
  have h2 := h.head.cell 2 rfl
  have hl := h.len
  have hn := h.small
  generalize l.length = m at *
  clear h
  go_enter Tryd.func60, Tryd.ntmps60
  go_wp2
  go_ret
  exact ⟨rfl, rfl⟩

set_option maxHeartbeats 400000 in
theorem set_clear {w : World} {b bd bs n : Nat} {l : List Nat} (h : SS w b bd bs n l) :
    Calls Tryd.prog 63 #[.pointer (some ⟨b, 0, none⟩)] w fun e w' => e = .returned (.tuple #[]) ∧ SS w' b bd bs n [] ∧ Fr (SSf b bd bs) w w' := by
  have h2 := h.head.cell 2 rfl
  have f2 := h.head.frz 2
  have hw : Calls Tryd.prog 63 #[.pointer (some ⟨b, 0, none⟩)] w fun e w' => e = .returned (.tuple #[]) ∧ w' = w.setCell ⟨b, 2, none⟩ (.int .u64 0) := by
    go_enter Tryd.func63, Tryd.ntmps63
    go_wp2
    go_end0
    exact ⟨rfl, rfl⟩
  refine hw.mono fun e w' ⟨he, hw'⟩ => ?_
  subst hw'
  obtain ⟨cd, d1, d2, d3⟩ := h.dense
  obtain ⟨cs, s1, s2, s3⟩ := h.sparse
  refine ⟨he, ⟨h.head.set 2 _, ⟨cd, d1, d2.set_ne h.ne1 _, by simp⟩, ⟨cs, s1, s2.set_ne h.ne2 _, by simp⟩, by simp, by simp, h.ne1, h.ne2, h.ne3, h.small⟩, (Fr.refl _ w).setCell (fun _ => .inl rfl) _⟩

set_option maxHeartbeats 400000 in
theorem set_get {w : World} {b bd bs n : Nat} {l : List Nat} (h : SS w b bd bs n l) (i x : Nat) (hx : l[i]? = some x) :
    Calls Tryd.prog 61 #[.pointer (some ⟨b, 0, none⟩), .int .u64 (i : Int)] w fun e w' => e = .returned (.int .u64 (x : Int)) ∧ w = w' := by
  have h0 := h.head.cell 0 rfl
  obtain ⟨cd, d1, d2, d3⟩ := h.dense
  have hi : i < l.length := (List.getElem?_eq_some_iff.1 hx).1
  have hc := d2.cell i (u64s_at ((d3 i hi).trans hx))
  have hl := h.len
  have hn := h.small
  have hin : i < n := by omega
  clear d2 d3 h hx
  go_enter Tryd.func61, Tryd.ntmps61
  go_wp2
  go_ret
  exact ⟨rfl, rfl⟩

set_option maxHeartbeats 400000 in
theorem set_add {w : World} {b bd bs n : Nat} {l : List Nat} (h : SS w b bd bs n l) (ip : Nat) (hip : ip < n) (hnot : ip ∉ l) :
    Calls Tryd.prog 59 #[.pointer (some ⟨b, 0, none⟩), .int .u64 (ip : Int)] w fun e w' => e = .returned (.int .u64 (l.length : Int)) ∧ SS w' b bd bs n (l ++ [ip]) ∧ Fr (SSf b bd bs) w w' := by
  have h0 := h.head.cell 0 rfl
  have h1 := h.head.cell 1 rfl
  have h2 := h.head.cell 2 rfl
  have f2 := h.head.frz 2
  have hroom := h.room hip hnot
  obtain ⟨cd, d1, d2, d3⟩ := h.dense
  obtain ⟨cs, s1, s2, s3⟩ := h.sparse
  have hcd := d2.cell l.length (u64s_getD (by omega))
  have hcs := s2.cell ip (u64s_getD (by omega))
  have fd := d2.frz l.length
  have fs := s2.frz ip
  have n1 := h.ne1
  have n2 := h.ne2
  have n3 := h.ne3
  have hn := h.small
  have hw : Calls Tryd.prog 59 #[.pointer (some ⟨b, 0, none⟩), .int .u64 (ip : Int)] w fun e w' => e = .returned (.int .u64 (l.length : Int)) ∧
      w' = ((w.setCell ⟨bd, l.length, none⟩ (.int .u64 (ip : Int))).setCell ⟨bs, ip, none⟩ (.int .u64 (l.length : Int))).setCell ⟨b, 2, none⟩ (.int .u64 ((l.length : Int) + 1)) := by
    clear d2 d3 s2 s3 h hnot
    generalize cd.getD l.length 0 = x1 at *
    generalize cs.getD ip 0 = x2 at *
    generalize l.length = s at *
    go_enter Tryd.func59, Tryd.ntmps59
    go_wp2
    go_ret
    exact ⟨rfl, rfl⟩
  refine hw.mono fun e w' ⟨he, hw'⟩ => ?_
  subst hw'
  have e1 : ((l.length : Int) + 1) = (((l ++ [ip]).length : Nat) : Int) := by simp
  refine ⟨he, ⟨?_, ⟨cd.set l.length ip, by simpa using d1, ?_, ?_⟩, ⟨cs.set ip l.length, by simpa using s1, ?_, ?_⟩, ?_, by simp; omega, n1, n2, n3, hn⟩, ?_⟩
  · rw [e1]
    exact ((h.head.set_ne (a := ⟨bd, l.length, none⟩) (Ne.symm n1) _).set_ne (a := ⟨bs, ip, none⟩) (Ne.symm n2) _).set 2 _
  · rw [← u64s_set]
    exact ((d2.set l.length _).set_ne (a := ⟨bs, ip, none⟩) (Ne.symm n3) _).set_ne (a := ⟨b, 2, none⟩) n1 _
  · intro i hi
    simp at hi
    rcases Nat.lt_or_ge i l.length with h' | h'
    · rw [List.getElem?_set_ne (by omega), d3 i h', List.getElem?_append_left h']
    · obtain rfl : i = l.length := by omega
      rw [List.getElem?_set_self (by omega)]; simp
  · rw [← u64s_set]
    exact (((s2.set_ne (a := ⟨bd, l.length, none⟩) n3 _).set ip _).set_ne (a := ⟨b, 2, none⟩) n2 _)
  · intro i x hx
    rcases Nat.lt_or_ge i l.length with h' | h'
    · rw [List.getElem?_append_left h'] at hx
      have : ip ≠ x := by intro e'; subst e'; exact hnot (List.mem_of_getElem? hx)
      rw [List.getElem?_set_ne this]
      exact s3 i x hx
    · rw [List.getElem?_append_right h'] at hx
      obtain ⟨h3, h4⟩ : i - l.length = 0 ∧ ip = x := by
        rcases Nat.eq_zero_or_pos (i - l.length) with h0 | h0
        · rw [h0] at hx; simp at hx; exact ⟨h0, hx⟩
        · rw [List.getElem?_eq_none (by simp; omega)] at hx; cases hx
      subst h4
      rw [List.getElem?_set_self (by omega)]
      congr 1; omega
  · intro x hx
    rcases List.mem_append.1 hx with hx | hx
    · exact h.lt x hx
    · simp at hx; omega
  · exact (((Fr.refl _ w).setCell (fun _ => .inr (.inl rfl)) _).setCell (fun _ => .inr (.inr rfl)) _).setCell (fun _ => .inl rfl) _

set_option maxHeartbeats 400000 in
theorem set_contains {w : World} {b bd bs n : Nat} {l : List Nat} (h : SS w b bd bs n l) (ip : Nat) (hip : ip < n) :
    Calls Tryd.prog 58 #[.pointer (some ⟨b, 0, none⟩), .int .u64 (ip : Int)] w fun e w' => e = .returned (.bool (decide (ip ∈ l))) ∧ w = w' := by
  have h0 := h.head.cell 0 rfl
  have h1 := h.head.cell 1 rfl
  have h2 := h.head.cell 2 rfl
  obtain ⟨cd, d1, d2, d3⟩ := h.dense
  obtain ⟨cs, s1, s2, s3⟩ := h.sparse
  have hn := h.small
  have hl := h.len
  have hcs := s2.cell ip (u64s_getD (by omega))
  by_cases hlt : cs.getD ip 0 < l.length
  · have hc := d2.cell (cs.getD ip 0) (u64s_getD (by omega))
    have hb : decide (ip ∈ l) = (((cd.getD (cs.getD ip 0) 0 : Nat) : Int) == (ip : Int)) := by
      have hd := d3 _ hlt
      rw [List.getD_eq_getElem?_getD (l := cd), hd]
      by_cases hm : ip ∈ l
      · obtain ⟨i, hi⟩ := List.mem_iff_getElem?.1 hm
        have hs := s3 i ip hi
        rw [decide_eq_true hm]
        symm
        rw [beq_iff_eq, List.getD_eq_getElem?_getD (l := cs), hs]
        simp [hi]
      · rw [decide_eq_false hm]
        symm
        rw [beq_eq_false_iff_ne]
        intro e
        rw [List.getElem?_eq_getElem hlt] at e
        simp only [Option.getD_some] at e
        have : l[cs.getD ip 0] = ip := by omega
        exact hm (this ▸ List.getElem_mem _)
    rw [hb]
    have hlt2 : cs.getD ip 0 < n := by omega
    clear d2 d3 s2 s3 h hb
    generalize cs.getD ip 0 = x2 at *
    generalize cd.getD x2 0 = x1 at *
    generalize l.length = s at *
    go_enter Tryd.func58, Tryd.ntmps58
    go_wp2
    go_ret
    exact ⟨rfl, rfl⟩
  · have hb : decide (ip ∈ l) = false := by
      rw [decide_eq_false]
      intro hm
      obtain ⟨i, hi⟩ := List.mem_iff_getElem?.1 hm
      have hs := s3 i ip hi
      rw [List.getD_eq_getElem?_getD, hs] at hlt
      have := (List.getElem?_eq_some_iff.1 hi).1
      simp at hlt
      omega
    rw [hb]
    clear d2 d3 s2 s3 h hb
    generalize cs.getD ip 0 = x2 at *
    generalize l.length = s at *
    have hd : decide (x2 < s) = false := by simpa using hlt
    go_enter Tryd.func58, Tryd.ntmps58
    go_wp2
    go_ret
    exact ⟨rfl, rfl⟩
end Go.Proofs.YtjeklnbfpehbeaaDoor

/- A sparse set is made: both rows are new, in whichever order; the set is empty. Condition: its size is at most 10^9. -/
namespace Go.Proofs.YtjeklnbfpehbeaaDoor
open Go.RowKit

theorem madeCells_one (z : Value) (n : Nat) : madeCells #[z] n = (List.replicate n z).toArray := by
  apply Array.ext'
  simp only [madeCells, Array.toList_map, Array.toList_range]
  apply List.ext_getElem
  · simp
  · intro i h1 h2
    simp [Nat.mod_one]

/-- 'make([]T, l, c)', T of one cell: an equation for every world. -/
theorem run_mk (t e : TypeId) (z : Value) (bytes : Nat) (ht : Tryd.prog.underlying t = some (.slice e)) (hinfo : (Tryd.prog.info? e).map (fun i => (i.zero, i.size, i.bytes)) = some (some z, 1, bytes)) (hz1 : z.cells = #[z])
    (k1 k2 : IntKind) (l c : Nat) (hlc : l ≤ c) (hn : bytes * c ≤ 281474976710656) (h63 : c ≤ 9223372036854775807) (w : World) :
    (Instr.makeSlice t (.int k1 (l : Int)) (.int k2 (c : Int))).run Tryd.prog w = .ok (.slice (some ⟨w.heap.size, 0, none⟩) l c) (w.alloc (.cells (List.replicate c z).toArray e)) := by
  obtain ⟨i0, hi, hzz⟩ := Option.map_eq_some_iff.1 hinfo
  simp only [Prod.mk.injEq] at hzz
  obtain ⟨hz0, hs, hb⟩ := hzz
  have h := run_make (P := Tryd.prog) w t e i0 z ht hi hz0 k1 k2 (l : Int) (c : Int) (by omega) (by omega) (by rw [hb, ← Int.natCast_mul]; exact Int.ofNat_le.2 hn) (by omega)
  rw [h, hz1, hs]
  simp [madeCells_one]

/-- For a row of uints. -/
theorem run_mk_u64 (l c : Nat) (hlc : l ≤ c) (hn : c ≤ 17592186044416) (k1 k2 : IntKind) (w : World) :
    (Instr.makeSlice 113 (.int k1 (l : Int)) (.int k2 (c : Int))).run Tryd.prog w = .ok (.slice (some ⟨w.heap.size, 0, none⟩) l c) (w.alloc (.cells (u64s (List.replicate c 0)).toArray 46)) := by
  have h := run_mk 113 46 (.int .u64 0) 8 Tryd.underlying113 (by kernel_rfl) rfl k1 k2 l c hlc (by omega) (by omega) w
  rw [h]; simp [u64s]

theorem SS.of_new {W : World} {b bd bs n : Nat} (h1 : Blk W b [.slice (some ⟨bd, 0, none⟩) n n, .slice (some ⟨bs, 0, none⟩) n n, .int .u64 0] 142) (h2 : Blk W bd (u64s (List.replicate n 0)) 46) (h3 : Blk W bs (u64s (List.replicate n 0)) 46)
    (n1 : bd ≠ b) (n2 : bs ≠ b) (n3 : bs ≠ bd) (hn : n ≤ 1000000000) : SS W b bd bs n [] :=
  ⟨h1, ⟨_, by simp, h2, by simp⟩, ⟨_, by simp, h3, by simp⟩, by simp, by simp, n1, n2, n3, hn⟩

set_option maxHeartbeats 400000 in
theorem set_new (n : Nat) (hn : n ≤ 1000000000) (w : World) :
    Calls Tryd.prog 40 #[.int .u64 (n : Int)] w fun e w' => ∃ b bd bs, e = .returned (.pointer (some ⟨b, 0, none⟩)) ∧ SS w' b bd bs n [] ∧ w.heap.size ≤ b ∧ w.heap.size ≤ bd ∧ w.heap.size ≤ bs ∧ Fr (fun _ => False) w w' := by
  have hmk : ∀ W : World, (Instr.makeSlice 113 (.int .u64 (n : Int)) (.int .u64 (n : Int))).run Tryd.prog W = .ok (.slice (some ⟨W.heap.size, 0, none⟩) n n) (W.alloc (.cells (u64s (List.replicate n 0)).toArray 46)) := run_mk_u64 n n (Nat.le_refl _) (by omega) .u64 .u64
  generalize hC : (u64s (List.replicate n 0)).toArray = C at hmk
  have HC := Lib.hid hC
  clear hC
  go_enter Tryd.func40, Tryd.ntmps40
  go_wp2
  go_region
  all_goals go_wp2
  all_goals go_ret
  all_goals rw [← HC.out]
  · exact ⟨_, w.heap.size, w.heap.size + 1, rfl, SS.of_new (Blk.newAt _ _ _ _ (by simp)).drew (((Blk.new w _ _).alloc _).alloc _).drew ((Blk.newAt (w.alloc _) _ _ _ (by simp)).alloc _).drew (by omega) (by omega) (by omega) hn, by omega, by omega, by omega, ((((Fr.refl _ w).alloc _).alloc _).alloc _).drew⟩
  · exact ⟨_, w.heap.size + 1, w.heap.size, rfl, SS.of_new (Blk.newAt _ _ _ _ (by simp)).drew ((Blk.newAt (w.alloc _) _ _ _ (by simp)).alloc _).drew (((Blk.new w _ _).alloc _).alloc _).drew (by omega) (by omega) (by omega) hn, by omega, by omega, by omega, ((((Fr.refl _ w).alloc _).alloc _).alloc _).drew⟩
end Go.Proofs.YtjeklnbfpehbeaaDoor

/- Plain words on programs of instructions: what a program is, how its steps without a byte go, what the search of package regexp adds to a list of places. No condition. -/
namespace Go.Proofs.YtjeklnbfpehbeaaDoor

/-- An instruction. -/
inductive Ins where
  | mtch
  | jmp (to : Nat)
  | split (a b : Nat)
  | rng (lo hi : Nat)
  deriving Inhabited, DecidableEq

/-- Where an instruction leads to without a byte. -/
def Ins.succs : Ins → List Nat
  | .jmp t => [t]
  | .split a b => [a, b]
  | _ => []

/-- Places that are reached without a byte. -/
inductive EReach (p : List Ins) : Nat → Nat → Prop where
  | refl (x : Nat) : EReach p x x
  | step {x y z : Nat} {i : Ins} (h : p[x]? = some i) (hy : y ∈ i.succs) (r : EReach p y z) : EReach p x z

/-- What the search adds to a list. -/
structure AddOk (p : List Ins) (l : List Nat) (ip : Nat) (l' : List Nat) : Prop where
  pre : l <+: l'
  mem : ip ∈ l'
  reach : ∀ x, x ∈ l' → x ∈ l ∨ EReach p ip x
  closed : ∀ x, x ∈ l' → x ∉ l → ∀ i, p[x]? = some i → ∀ y, y ∈ i.succs → y ∈ l'

/-- Each place that an instruction leads to is one of the program's. -/
structure WfP (p : List Ins) : Prop where
  succs : ∀ (x : Nat) i, p[x]? = some i → ∀ y, y ∈ i.succs → y < p.length
  rng : ∀ (x lo hi : Nat), p[x]? = some (.rng lo hi) → x + 1 < p.length
  bytes : ∀ (x lo hi : Nat), p[x]? = some (.rng lo hi) → lo < 256 ∧ hi < 256
  small : p.length ≤ 1000000000

theorem AddOk.here {p : List Ins} {l : List Nat} {ip : Nat} (h : ip ∈ l) : AddOk p l ip l :=
  ⟨List.prefix_refl l, h, fun _ hx => .inl hx, fun _ hx hn => absurd hx hn⟩

theorem AddOk.leaf {p : List Ins} {l : List Nat} {ip : Nat} {i : Ins} (hi : p[ip]? = some i) (hs : i.succs = []) : AddOk p l ip (l ++ [ip]) := by
  refine ⟨List.prefix_append l _, by simp, fun x hx => ?_, fun x hx hn j hj y hy => ?_⟩
  · rcases List.mem_append.1 hx with hx | hx
    · exact .inl hx
    · simp at hx; subst hx; exact .inr (.refl _)
  · rcases List.mem_append.1 hx with hx | hx
    · exact absurd hx hn
    · simp at hx; subst hx
      rw [hi] at hj; injection hj with hj; subst hj
      rw [hs] at hy; cases hy

theorem AddOk.one {p : List Ins} {l l' : List Nat} {ip t : Nat} (hi : p[ip]? = some (.jmp t)) (h : AddOk p (l ++ [ip]) t l') : AddOk p l ip l' := by
  refine ⟨(List.prefix_append l _).trans h.pre, h.pre.subset (by simp), fun x hx => ?_, fun x hx hn j hj y hy => ?_⟩
  · rcases h.reach x hx with hx | hx
    · rcases List.mem_append.1 hx with hx | hx
      · exact .inl hx
      · simp at hx; subst hx; exact .inr (.refl _)
    · exact .inr (.step hi (by simp [Ins.succs]) hx)
  · by_cases e : x = ip
    · subst e
      rw [hi] at hj; injection hj with hj; subst hj
      simp [Ins.succs] at hy; subst hy
      exact h.mem
    · exact h.closed x hx (by simp [hn, e]) j hj y hy

theorem AddOk.two {p : List Ins} {l l1 l' : List Nat} {ip a b : Nat} (hi : p[ip]? = some (.split a b)) (h1 : AddOk p (l ++ [ip]) a l1) (h2 : AddOk p l1 b l') : AddOk p l ip l' := by
  refine ⟨((List.prefix_append l _).trans h1.pre).trans h2.pre, h2.pre.subset (h1.pre.subset (by simp)), fun x hx => ?_, fun x hx hn j hj y hy => ?_⟩
  · rcases h2.reach x hx with hx | hx
    · rcases h1.reach x hx with hx | hx
      · rcases List.mem_append.1 hx with hx | hx
        · exact .inl hx
        · simp at hx; subst hx; exact .inr (.refl _)
      · exact .inr (.step hi (by simp [Ins.succs]) hx)
    · exact .inr (.step hi (by simp [Ins.succs]) hx)
  · by_cases e : x = ip
    · subst e
      rw [hi] at hj; injection hj with hj; subst hj
      simp [Ins.succs] at hy
      rcases hy with rfl | rfl
      · exact h2.pre.subset h1.mem
      · exact h2.mem
    · by_cases m : x ∈ l1
      · exact h2.pre.subset (h1.closed x m (by simp [hn, e]) j hj y hy)
      · exact h2.closed x hx m j hj y hy

/-- Whether a place is kept in a state of the automaton: one that takes bytes, or the match. -/
def rm (p : List Ins) (x : Nat) : Bool := match p[x]? with
  | some .mtch => true
  | some (.rng _ _) => true
  | _ => false
/-- Whether a place is the match. -/
def mt (p : List Ins) (x : Nat) : Bool := match p[x]? with
  | some .mtch => true
  | _ => false

/-- Whether an instruction takes a byte. -/
def Ins.takes : Ins → Nat → Bool
  | .rng lo hi, c => decide (lo ≤ c) && decide (c ≤ hi)
  | _, _ => false

/-- What a step by a byte c from the places l comes to. -/
structure StepOk (p : List Ins) (l : List Nat) (c : Nat) (l' : List Nat) : Prop where
  from_ : ∀ x, x ∈ l' → ∃ y i, y ∈ l ∧ p[y]? = some i ∧ i.takes c = true ∧ EReach p (y + 1) x
  to_ : ∀ y i, y ∈ l → p[y]? = some i → i.takes c = true → y + 1 ∈ l'
  closed : ∀ x, x ∈ l' → ∀ i, p[x]? = some i → ∀ y, y ∈ i.succs → y ∈ l'

theorem StepOk.nil (p : List Ins) (c : Nat) : StepOk p [] c [] := ⟨by simp, by simp, by simp⟩
theorem StepOk.skip {p : List Ins} {l l' : List Nat} {c y : Nat} {i : Ins} (h : StepOk p l c l') (hi : p[y]? = some i) (hn : i.takes c = false) : StepOk p (l ++ [y]) c l' := by
  refine ⟨fun x hx => ?_, fun z j hz hj ht => ?_, h.closed⟩
  · obtain ⟨z, j, hz, r⟩ := h.from_ x hx
    exact ⟨z, j, by simp [hz], r⟩
  · rcases List.mem_append.1 hz with hz | hz
    · exact h.to_ z j hz hj ht
    · simp at hz; subst hz
      rw [hi] at hj; injection hj with hj; subst hj
      rw [hn] at ht; cases ht
theorem StepOk.more {p : List Ins} {l l1 l' : List Nat} {c y : Nat} {i : Ins} (h : StepOk p l c l1) (hi : p[y]? = some i) (hn : i.takes c = true) (ha : AddOk p l1 (y + 1) l') : StepOk p (l ++ [y]) c l' := by
  refine ⟨fun x hx => ?_, fun z j hz hj ht => ?_, fun x hx j hj z hz => ?_⟩
  · rcases ha.reach x hx with hx | hx
    · obtain ⟨z, j, hz, r⟩ := h.from_ x hx
      exact ⟨z, j, by simp [hz], r⟩
    · exact ⟨y, i, by simp, hi, hn, hx⟩
  · rcases List.mem_append.1 hz with hz | hz
    · exact ha.pre.subset (h.to_ z j hz hj ht)
    · simp at hz; subst hz; exact ha.mem
  · by_cases m : x ∈ l1
    · exact ha.pre.subset (h.closed x m j hj z hz)
    · exact ha.closed x hx m j hj z hz
end Go.Proofs.YtjeklnbfpehbeaaDoor

/- The search '(*dfa).add' of package regexp: it adds to a set all places that are reached from one without a byte. Condition: the program is a right one. -/
namespace Go.Proofs.YtjeklnbfpehbeaaDoor
open Go.RowKit

/-- An instruction's cells. -/
def Ins.cells : Ins → List Value
  | .mtch => [.int .i64 0, .int .u64 0, .int .u64 0, .int .u64 0, .int .u8 0, .int .u8 0]
  | .jmp t => [.int .i64 1, .int .u64 (t : Int), .int .u64 0, .int .u64 0, .int .u8 0, .int .u8 0]
  | .split a b => [.int .i64 2, .int .u64 0, .int .u64 (a : Int), .int .u64 (b : Int), .int .u8 0, .int .u8 0]
  | .rng lo hi => [.int .i64 3, .int .u64 0, .int .u64 0, .int .u64 0, .int .u8 (lo : Int), .int .u8 (hi : Int)]

/-- The slice pv of pointers to instructions reads as p; all of it lies below block B. -/
structure Prg (w : World) (pv : Value) (p : List Ins) (B : Nat) : Prop where
  at_ : ∃ pa c, pv = .slice (some ⟨pa, 0, none⟩) p.length c ∧ pa < B ∧ ∀ (i : Nat) x, p[i]? = some x → ∃ g o, g < B ∧ w.cell? ⟨pa, i, none⟩ = some (.pointer (some ⟨g, o, none⟩)) ∧
    ∀ (j : Nat) v, x.cells[j]? = some v → w.cell? ⟨g, o + j, none⟩ = some v
  wf : WfP p

theorem Prg.fr {w w' : World} {pv : Value} {p : List Ins} {B : Nat} {F : Nat → Prop} (h : Prg w pv p B) (k : Fr F w w') (hF : ∀ i, F i → B ≤ i) : Prg w' pv p B := by
  obtain ⟨pa, c, h1, h2, h3⟩ := h.at_
  refine ⟨⟨pa, c, h1, h2, fun i x hx => ?_⟩, h.wf⟩
  obtain ⟨g, o, hg, hc, hv⟩ := h3 i x hx
  exact ⟨g, o, hg, k.cell hc (fun hf => by have := hF _ hf; simp at this; omega), fun j v hjv => k.cell (hv j v hjv) (fun hf => by have := hF _ hf; simp at this; omega)⟩

theorem SSf_ge {b bd bs B : Nat} (h1 : B ≤ b) (h2 : B ≤ bd) (h3 : B ≤ bs) : ∀ i, SSf b bd bs i → B ≤ i := by
  rintro i (rfl | rfl | rfl) <;> assumption

set_option maxHeartbeats 400000 in
theorem add_in {n b bd bs db : Nat} {w : World} {l : List Nat} {ip : Nat} (hS : SS w b bd bs n l) (hip : ip < n) (hin : ip ∈ l) :
    Calls Tryd.prog 41 #[.pointer (some ⟨db, 0, none⟩), .pointer (some ⟨b, 0, none⟩), .int .u64 (ip : Int)] w fun e w' => e = .returned (.tuple #[]) ∧ w = w' := by
  have hc := set_contains hS ip hip
  rw [decide_eq_true hin] at hc
  clear hS
  go_enter Tryd.func41, Tryd.ntmps41
  go_wp2_with (go_at_call 58; refine hc.mono ?_; rintro e w' ⟨rfl, rfl⟩)
  refine bodyPost_ret (results_none rfl _ _ _) rfl ?_
  exact ⟨rfl, rfl⟩

/-- What the walk reads of a program at one place. -/
theorem Prg.get {w : World} {pv : Value} {p : List Ins} {B ip : Nat} {x : Ins} (h : Prg w pv p B) (hx : p[ip]? = some x) :
    ∃ pa c g o, pv = .slice (some ⟨pa, 0, none⟩) p.length c ∧ w.cell? ⟨pa, ip, none⟩ = some (.pointer (some ⟨g, o, none⟩)) ∧ (∀ (j : Nat) v, x.cells[j]? = some v → w.cell? ⟨g, o + j, none⟩ = some v) := by
  obtain ⟨pa, c, h1, h2, h3⟩ := h.at_
  obtain ⟨g, o, hg, hc, hv⟩ := h3 ip x hx
  exact ⟨pa, c, g, o, h1, hc, hv⟩

set_option maxHeartbeats 1000000 in
theorem add_calls {p : List Ins} {B b bd bs db : Nat} {pv sv : Value} (hb1 : B ≤ b) (hb2 : B ≤ bd) (hb3 : B ≤ bs) (hne : ¬ SSf b bd bs db) :
    ∀ (k : Nat) (w : World) (l : List Nat) (ip : Nat), SS w b bd bs p.length l → Prg w pv p B → Blk w db [pv, sv] 108 → ip < p.length → p.length - l.length ≤ k →
    Calls Tryd.prog 41 #[.pointer (some ⟨db, 0, none⟩), .pointer (some ⟨b, 0, none⟩), .int .u64 (ip : Int)] w fun e w' => ∃ l', e = .returned (.tuple #[]) ∧ SS w' b bd bs p.length l' ∧ AddOk p l ip l' ∧ Fr (SSf b bd bs) w w' := by
  intro k
  induction k with
  | zero =>
    intro w l ip hS hP hD hip hk
    have hin : ip ∈ l := by
      by_cases h : ip ∈ l
      · exact h
      · have := hS.room hip h; omega
    refine (add_in hS hip hin).mono fun e w' ⟨he, hw⟩ => ?_
    subst hw
    exact ⟨l, he, hS, AddOk.here hin, Fr.refl _ _⟩
  | succ k ih =>
    intro w l ip hS hP hD hip hk
    by_cases hin : ip ∈ l
    · refine (add_in hS hip hin).mono fun e w' ⟨he, hw⟩ => ?_
      subst hw
      exact ⟨l, he, hS, AddOk.here hin, Fr.refl _ _⟩
    have hc := set_contains hS ip hip
    rw [decide_eq_false hin] at hc
    have ha := set_add hS ip hip hin
    have hroom := hS.room hip hin
    have hsmall := hS.small
    have hge := SSf_ge hb1 hb2 hb3
    have hwf := hP.wf
    obtain ⟨x, hx⟩ : ∃ x, p[ip]? = some x := ⟨p[ip], by simp [hip]⟩
    obtain ⟨pa, c, hpv, -, -⟩ := hP.at_
    subst hpv
    cases x with
    | mtch =>
      refine Calls.mono (R := fun e w' => e = .returned (.tuple #[]) ∧ SS w' b bd bs p.length (l ++ [ip]) ∧ Fr (SSf b bd bs) w w') ?_ (fun e w' ⟨he, hS', hF⟩ => ⟨_, he, hS', AddOk.leaf hx rfl, hF⟩)
      go_enter Tryd.func41, Tryd.ntmps41
      go_wp2_with (go_at_call 58; refine hc.mono ?_; rintro e w' ⟨rfl, rfl⟩)
      refine ha.mono ?_
      rintro e w1 ⟨rfl, hS1, hF1⟩
      have hd0 := (hD.fr hF1 hne).cell 0 rfl
      have hP1 := hP.fr hF1 hge
      obtain ⟨pa', c', g, o, hpe, hpc, hv⟩ := hP1.get hx
      obtain ⟨rfl, rfl⟩ : pa = pa' ∧ c = c' := by simpa using hpe
      clear hpe
      have hv0 : w1.cell? ⟨g, o, none⟩ = some (.int .i64 0) := hv 0 _ rfl
      clear hv ha hc
      go_wp2
      go_end0
      exact ⟨rfl, hS1, hF1⟩
    | rng lo hi =>
      refine Calls.mono (R := fun e w' => e = .returned (.tuple #[]) ∧ SS w' b bd bs p.length (l ++ [ip]) ∧ Fr (SSf b bd bs) w w') ?_ (fun e w' ⟨he, hS', hF⟩ => ⟨_, he, hS', AddOk.leaf hx rfl, hF⟩)
      go_enter Tryd.func41, Tryd.ntmps41
      go_wp2_with (go_at_call 58; refine hc.mono ?_; rintro e w' ⟨rfl, rfl⟩)
      refine ha.mono ?_
      rintro e w1 ⟨rfl, hS1, hF1⟩
      have hd0 := (hD.fr hF1 hne).cell 0 rfl
      have hP1 := hP.fr hF1 hge
      obtain ⟨pa', c', g, o, hpe, hpc, hv⟩ := hP1.get hx
      obtain ⟨rfl, rfl⟩ : pa = pa' ∧ c = c' := by simpa using hpe
      clear hpe
      have hv0 : w1.cell? ⟨g, o, none⟩ = some (.int .i64 3) := hv 0 _ rfl
      clear hv ha hc
      go_wp2
      go_end0
      exact ⟨rfl, hS1, hF1⟩
    | jmp to =>
      have hto := hwf.succs ip _ hx to (by simp [Ins.succs])
      refine Calls.mono (R := fun e w' => e = .returned (.tuple #[]) ∧ ∃ l', SS w' b bd bs p.length l' ∧ AddOk p (l ++ [ip]) to l' ∧ Fr (SSf b bd bs) w w') ?_ (fun e w' ⟨he, l', hS', hA, hF⟩ => ⟨l', he, hS', AddOk.one hx hA, hF⟩)
      go_enter Tryd.func41, Tryd.ntmps41
      go_wp2_with (go_at_call 58; refine hc.mono ?_; rintro e w' ⟨rfl, rfl⟩)
      refine ha.mono ?_
      rintro e w1 ⟨rfl, hS1, hF1⟩
      have hd0 := (hD.fr hF1 hne).cell 0 rfl
      have hP1 := hP.fr hF1 hge
      obtain ⟨pa', c', g, o, hpe, hpc, hv⟩ := hP1.get hx
      obtain ⟨rfl, rfl⟩ : pa = pa' ∧ c = c' := by simpa using hpe
      clear hpe
      have hv0 : w1.cell? ⟨g, o, none⟩ = some (.int .i64 1) := hv 0 _ rfl
      have hv1 : w1.cell? ⟨g, o + 1, none⟩ = some (.int .u64 (to : Int)) := hv 1 _ rfl
      have hi := ih w1 (l ++ [ip]) to hS1 hP1 (hD.fr hF1 hne) hto (by simp; omega)
      clear hv ha hc
      go_wp2_with fail
      refine hi.mono ?_
      rintro e w2 ⟨l2, rfl, hS2, hA2, hF2⟩
      clear hv0 hv1 hpc hd0
      go_wp2
      go_end0
      exact ⟨rfl, l2, hS2, hA2, hF1.trans hF2 (fun _ _ h => h)⟩
    | split a' b' =>
      have hto := hwf.succs ip _ hx a' (by simp [Ins.succs])
      have hto2 := hwf.succs ip _ hx b' (by simp [Ins.succs])
      refine Calls.mono (R := fun e w' => e = .returned (.tuple #[]) ∧ ∃ l1 l', SS w' b bd bs p.length l' ∧ AddOk p (l ++ [ip]) a' l1 ∧ AddOk p l1 b' l' ∧ Fr (SSf b bd bs) w w') ?_ (fun e w' ⟨he, l1, l', hS', hA, hA', hF⟩ => ⟨l', he, hS', AddOk.two hx hA hA', hF⟩)
      go_enter Tryd.func41, Tryd.ntmps41
      go_wp2_with (go_at_call 58; refine hc.mono ?_; rintro e w' ⟨rfl, rfl⟩)
      refine ha.mono ?_
      rintro e w1 ⟨rfl, hS1, hF1⟩
      have hd0 := (hD.fr hF1 hne).cell 0 rfl
      have hP1 := hP.fr hF1 hge
      obtain ⟨pa', c', g, o, hpe, hpc, hv⟩ := hP1.get hx
      obtain ⟨rfl, rfl⟩ : pa = pa' ∧ c = c' := by simpa using hpe
      clear hpe
      have hv0 : w1.cell? ⟨g, o, none⟩ = some (.int .i64 2) := hv 0 _ rfl
      have hv2 : w1.cell? ⟨g, o + 2, none⟩ = some (.int .u64 (a' : Int)) := hv 2 _ rfl
      have hi := ih w1 (l ++ [ip]) a' hS1 hP1 (hD.fr hF1 hne) hto (by simp; omega)
      clear ha hc
      go_wp2_with fail
      refine hi.mono ?_
      rintro e w2 ⟨l2, rfl, hS2, hA2, hF2⟩
      have hlen := hA2.pre.length_le
      simp at hlen
      have hP2 := hP1.fr hF2 hge
      have hD2 := (hD.fr hF1 hne).fr hF2 hne
      have hi2 := ih w2 l2 b' hS2 hP2 hD2 hto2 (by omega)
      have hd0' := hD2.cell 0 rfl
      obtain ⟨pa', c', g', o', hpe, hpc', hv'⟩ := hP2.get hx
      obtain ⟨rfl, rfl⟩ : pa = pa' ∧ c = c' := by simpa using hpe
      have hv3 : w2.cell? ⟨g', o' + 3, none⟩ = some (.int .u64 (b' : Int)) := hv' 3 _ rfl
      clear hpe hv hv' hi hv0 hv2 hpc hd0 hlen hP2 hD2
      go_wp2_with fail
      refine hi2.mono ?_
      rintro e w3 ⟨l3, rfl, hS3, hA3, hF3⟩
      clear hv3 hpc' hd0' hi2
      go_wp2
      go_end0
      exact ⟨rfl, l2, l3, hS3, hA2, hA3, (hF1.trans hF2 (fun _ _ h => h)).trans hF3 (fun _ _ h => h)⟩
end Go.Proofs.YtjeklnbfpehbeaaDoor

/- '(*dfa).run' of package regexp: one step by a byte from a set of places. Condition: the program is a right one. -/
namespace Go.Proofs.YtjeklnbfpehbeaaDoor
open Go.RowKit

theorem take_snoc_getElem? {α : Type} {l : List α} {k : Nat} {x : α} (h : l[k]? = some x) : l.take (k + 1) = l.take k ++ [x] := by
  rw [List.take_add_one, h]; rfl

set_option maxHeartbeats 2000000 in
theorem run_calls {p : List Ins} {B a ad az b bd bs db : Nat} {pv sv : Value} (hb1 : B ≤ b) (hb2 : B ≤ bd) (hb3 : B ≤ bs) (hne : ¬ SSf b bd bs db)
    (na : ¬ SSf b bd bs a) (nad : ¬ SSf b bd bs ad) (nas : ¬ SSf b bd bs az) (w : World) (l l0 : List Nat) (c : Nat) (hc : c < 256)
    (hA : SS w a ad az p.length l) (hS : SS w b bd bs p.length l0) (hP : Prg w pv p B) (hD : Blk w db [pv, sv] 108) :
    Calls Tryd.prog 64 #[.pointer (some ⟨db, 0, none⟩), .pointer (some ⟨a, 0, none⟩), .pointer (some ⟨b, 0, none⟩), .int .u8 (c : Int)] w fun e w' =>
      ∃ m l', e = .returned (.bool m) ∧ SS w' b bd bs p.length l' ∧ StepOk p l c l' ∧ Fr (SSf b bd bs) w w' := by
  have hge := SSf_ge hb1 hb2 hb3
  have hwf := hP.wf
  have hlen := hA.len
  have hsm := hA.small
  have hclear := set_clear hS
  obtain ⟨pa, cp, hpv, -, -⟩ := hP.at_
  subst hpv
  go_enter Tryd.func64, Tryd.ntmps64
  go_wp2_with fail
  refine hclear.mono ?_
  rintro e w1 ⟨rfl, hS1, hF1⟩
  clear hclear
  go_wp2_with fail
  go_loopg [9, 10] (l.length + 1) (fun g m i wr => ∃ (k : Nat) (v : Bool) (L : List Nat), k ≤ l.length ∧ g = l.length - k + 1 ∧ i = .int .u64 (k : Int) ∧ m = .bool v ∧ SS wr b bd bs p.length L ∧ StepOk p (l.take k) c L ∧ Fr (SSf b bd bs) w wr)
  case atStart => exact ⟨0, false, [], Nat.zero_le _, by simp, rfl, rfl, hS1, by simpa using StepOk.nil p c, hF1⟩
  case round =>
    obtain ⟨k, v, L, hk, hg, rfl, rfl, hS2, hT, hF2⟩ := hrel
    subst hg
    have hA2 := hA.fr hF2 na nad nas
    have hP2 := hP.fr hF2 hge
    have hD2 := hD.fr hF2 hne
    have hl2 := set_len hA2
    by_cases hlt : k < l.length
    · obtain ⟨y, hy⟩ : ∃ y, l[k]? = some y := ⟨l[k], by simp [hlt]⟩
      have hyp : y < p.length := hA.lt y (List.mem_of_getElem? hy)
      have hget := set_get hA2 k y hy
      obtain ⟨x, hx⟩ : ∃ x, p[y]? = some x := ⟨p[y], by simp [hyp]⟩
      have hd0 := hD2.cell 0 rfl
      obtain ⟨pa', c', g, o, hpe, hpc, hv⟩ := hP2.get hx
      obtain ⟨rfl, rfl⟩ : pa = pa' ∧ cp = c' := by simpa using hpe
      have htk := take_snoc_getElem? hy
      clear hpe
      have HS := Lib.hid (And.intro hS (And.intro hS1 (And.intro hA hF1)))
      have HT := Lib.hid htk
      clear hS hS1 hA hF1 htk hP hD
      cases x with
      | mtch =>
        have hv0 : wr.cell? ⟨g, o, none⟩ = some (.int .i64 0) := hv 0 _ rfl
        clear hv
        go_wp2_with (first | (go_at_call 60; refine hl2.mono ?_; rintro e w' ⟨rfl, rfl⟩) | (go_at_call 61; refine hget.mono ?_; rintro e w' ⟨rfl, rfl⟩))
        go_roundg (l.length - (k + 1) + 1)
        case measure => omega
        case rel => exact ⟨k + 1, true, L, by omega, rfl, by simp, rfl, hS2, by rw [HT.out]; exact hT.skip hx rfl, hF2⟩
      | jmp to =>
        have hv0 : wr.cell? ⟨g, o, none⟩ = some (.int .i64 1) := hv 0 _ rfl
        clear hv
        go_wp2_with (first | (go_at_call 60; refine hl2.mono ?_; rintro e w' ⟨rfl, rfl⟩) | (go_at_call 61; refine hget.mono ?_; rintro e w' ⟨rfl, rfl⟩))
        go_roundg (l.length - (k + 1) + 1)
        case measure => omega
        case rel => exact ⟨k + 1, v, L, by omega, rfl, by simp, rfl, hS2, by rw [HT.out]; exact hT.skip hx rfl, hF2⟩
      | split a' b' =>
        have hv0 : wr.cell? ⟨g, o, none⟩ = some (.int .i64 2) := hv 0 _ rfl
        clear hv
        go_wp2_with (first | (go_at_call 60; refine hl2.mono ?_; rintro e w' ⟨rfl, rfl⟩) | (go_at_call 61; refine hget.mono ?_; rintro e w' ⟨rfl, rfl⟩))
        go_roundg (l.length - (k + 1) + 1)
        case measure => omega
        case rel => exact ⟨k + 1, v, L, by omega, rfl, by simp, rfl, hS2, by rw [HT.out]; exact hT.skip hx rfl, hF2⟩
      | rng lo hi =>
        have hv0 : wr.cell? ⟨g, o, none⟩ = some (.int .i64 3) := hv 0 _ rfl
        have hv4 : wr.cell? ⟨g, o + 4, none⟩ = some (.int .u8 (lo : Int)) := hv 4 _ rfl
        have hv5 : wr.cell? ⟨g, o + 5, none⟩ = some (.int .u8 (hi : Int)) := hv 5 _ rfl
        have hy1 := hwf.rng y lo hi hx
        have hy2 := hwf.bytes y lo hi hx
        clear hv
        by_cases h1 : lo ≤ c
        · by_cases h2 : c ≤ hi
          · have hadd := add_calls (sv := sv) hb1 hb2 hb3 hne _ wr L (y + 1) hS2 hP2 hD2 hy1 (Nat.le_refl _)
            rw [Int.natCast_succ] at hadd
            go_wp2_with (first | (go_at_call 60; refine hl2.mono ?_; rintro e w' ⟨rfl, rfl⟩) | (go_at_call 61; refine hget.mono ?_; rintro e w' ⟨rfl, rfl⟩))
            refine hadd.mono ?_
            rintro e w2 ⟨L2, rfl, hS3, hA3, hF3⟩
            clear hadd hl2 hget hv0 hv4 hv5 hpc hd0
            go_wp2_with fail
            go_roundg (l.length - (k + 1) + 1)
            case measure => omega
            case rel => exact ⟨k + 1, v, L2, by omega, rfl, by simp, rfl, hS3, by rw [HT.out]; exact hT.more hx (by simp [Ins.takes, h1, h2]) hA3, hF2.trans hF3 (fun _ _ h => h)⟩
          · go_wp2_with (first | (go_at_call 60; refine hl2.mono ?_; rintro e w' ⟨rfl, rfl⟩) | (go_at_call 61; refine hget.mono ?_; rintro e w' ⟨rfl, rfl⟩))
            go_roundg (l.length - (k + 1) + 1)
            case measure => omega
            case rel => exact ⟨k + 1, v, L, by omega, rfl, by simp, rfl, hS2, by rw [HT.out]; exact hT.skip hx (by simp [Ins.takes, h1, h2]), hF2⟩
        · go_wp2_with (first | (go_at_call 60; refine hl2.mono ?_; rintro e w' ⟨rfl, rfl⟩) | (go_at_call 61; refine hget.mono ?_; rintro e w' ⟨rfl, rfl⟩))
          go_roundg (l.length - (k + 1) + 1)
          case measure => omega
          case rel => exact ⟨k + 1, v, L, by omega, rfl, by simp, rfl, hS2, by rw [HT.out]; exact hT.skip hx (by simp [Ins.takes, h1]), hF2⟩
    · obtain rfl : k = l.length := by omega
      clear hS hS1 hA hF1 hP hD
      go_wp2_with (go_at_call 60; refine hl2.mono ?_; rintro e w' ⟨rfl, rfl⟩)
      go_ret
      exact ⟨v, L, rfl, hS2, by simpa using hT, hF2⟩
end Go.Proofs.YtjeklnbfpehbeaaDoor

/- Plain words on numbers as eight bytes. No condition. -/
namespace Go.Proofs.YtjeklnbfpehbeaaDoor

/-- A number's eight bytes, the lowest first. -/
def le8 (x : Nat) : List Nat := [x % 256, x / 256 % 256, x / 65536 % 256, x / 16777216, x / 4294967296, x / 1099511627776, x / 281474976710656, x / 72057594037927936]
theorem le8_length (x : Nat) : (le8 x).length = 8 := rfl
theorem le8_inj {x y : Nat} (h : le8 x = le8 y) : x = y := by
  simp only [le8, List.cons.injEq] at h
  omega

def keyBytes (l : List Nat) : List Nat := l.flatMap le8
theorem keyBytes_length (l : List Nat) : (keyBytes l).length = 8 * l.length := by
  induction l with
  | nil => rfl
  | cons a l ih => simp only [keyBytes, List.flatMap_cons, List.length_append, le8_length, List.length_cons] at *; omega
theorem keyBytes_snoc (l : List Nat) (x : Nat) : keyBytes (l ++ [x]) = keyBytes l ++ le8 x := by simp [keyBytes]
theorem keyBytes_inj : ∀ {l l' : List Nat}, keyBytes l = keyBytes l' → l = l'
  | [], [], _ => rfl
  | [], a :: l', h => by simp [keyBytes, le8] at h
  | a :: l, [], h => by simp [keyBytes, le8] at h
  | a :: l, b :: l', h => by
    simp only [keyBytes, List.flatMap_cons] at h
    obtain ⟨h1, h2⟩ := List.append_inj h (by simp [le8_length])
    rw [le8_inj h1, keyBytes_inj (l := l) (l' := l') h2]

/-- Eight cells, one behind the other, are written. -/
def put8 (c : List Nat) (o : Nat) (b : List Nat) : List Nat :=
  (((((((c.set o (b.getD 0 0)).set (o + 1) (b.getD 1 0)).set (o + 2) (b.getD 2 0)).set (o + 3) (b.getD 3 0)).set (o + 4) (b.getD 4 0)).set (o + 5) (b.getD 5 0)).set (o + 6) (b.getD 6 0)).set (o + 7) (b.getD 7 0)
theorem put8_length (c : List Nat) (o : Nat) (b : List Nat) : (put8 c o b).length = c.length := by simp [put8]
theorem take_put8 (c : List Nat) (o x : Nat) (h : o + 8 ≤ c.length) : (put8 c o (le8 x)).take (o + 8) = c.take o ++ le8 x := by
  apply List.ext_getElem?
  intro i
  have hlen : (c.take o).length = o := by simp; omega
  rcases Nat.lt_or_ge i o with h1 | h1
  · rw [List.getElem?_take_of_lt (by omega), List.getElem?_append_left (by omega), List.getElem?_take_of_lt h1]
    simp only [put8]
    repeat rw [List.getElem?_set_ne (by omega)]
  · rw [List.getElem?_append_right (by omega), hlen]
    rcases Nat.lt_or_ge i (o + 8) with h2 | h2
    · rw [List.getElem?_take_of_lt h2]
      obtain ⟨j, rfl⟩ : ∃ j, i = o + j := ⟨i - o, by omega⟩
      rw [Nat.add_sub_cancel_left]
      have hj : j = 0 ∨ j = 1 ∨ j = 2 ∨ j = 3 ∨ j = 4 ∨ j = 5 ∨ j = 6 ∨ j = 7 := by omega
      rcases hj with rfl | rfl | rfl | rfl | rfl | rfl | rfl | rfl <;> simp [put8, le8, List.getElem?_set] <;> (try omega)
    · rw [List.getElem?_eq_none (by simp [put8]; omega), List.getElem?_eq_none (by simp [le8]; omega)]
end Go.Proofs.YtjeklnbfpehbeaaDoor

/- 'instsKey' of package regexp: numbers as bytes, into a row that is there or a new one. Condition: each number is below 2^30, there are at most 10^9. -/
namespace Go.Proofs.YtjeklnbfpehbeaaDoor
open Go.RowKit

/-- A row of bytes. -/
def u8s (l : List Nat) : List Value := l.map fun x : Nat => Value.int .u8 (x : Int)
theorem u8s_len (l : List Nat) : (u8s l).length = l.length := by simp [u8s]
theorem u8s_getD {l : List Nat} {i : Nat} (h : i < l.length) : (u8s l)[i]? = some (.int .u8 ((l.getD i 0 : Nat) : Int)) := by simp [u8s, h]
theorem u8s_set (l : List Nat) (i x : Nat) : (u8s l).set i (.int .u8 (x : Int)) = u8s (l.set i x) := by simp [u8s, List.map_set]

theorem run_mk_u8 (l c : Nat) (hlc : l ≤ c) (hn : c ≤ 17592186044416) (k1 k2 : IntKind) (w : World) :
    (Instr.makeSlice 92 (.int k1 (l : Int)) (.int k2 (c : Int))).run Tryd.prog w = .ok (.slice (some ⟨w.heap.size, 0, none⟩) l c) (w.alloc (.cells (u8s (List.replicate c 0)).toArray 5)) := by
  have h := run_mk 92 5 (.int .u8 0) 1 Tryd.underlying92 (by kernel_rfl) rfl k1 k2 l c hlc (by omega) (by omega) w
  rw [h]; simp [u8s]

set_option maxHeartbeats 1000000 in
theorem put64 (g o n c x : Nat) (cs : List Nat) (hx : x < 1073741824) (w : World) (h8 : 8 ≤ n) (hnc : n ≤ c) (hc : o + c ≤ 17592186044416) (hb : Blk w g (u8s cs) 5) (hcs : o + 8 ≤ cs.length) :
    Calls Tryd.prog 76 #[.agg #[], .slice (some ⟨g, o, none⟩) n c, .int .u64 (x : Int)] w fun e w' => e = .returned (.tuple #[]) ∧ Blk w' g (u8s (put8 cs o (le8 x))) 5 ∧ Fr (fun k => k = g) w w' := by
  have h0 := hb.cell o (u8s_getD (by omega))
  have h1 := hb.cell (o + 1) (u8s_getD (by omega))
  have h2 := hb.cell (o + 2) (u8s_getD (by omega))
  have h3 := hb.cell (o + 3) (u8s_getD (by omega))
  have h4 := hb.cell (o + 4) (u8s_getD (by omega))
  have h5 := hb.cell (o + 5) (u8s_getD (by omega))
  have h6 := hb.cell (o + 6) (u8s_getD (by omega))
  have h7 := hb.cell (o + 7) (u8s_getD (by omega))
  have f0 := hb.frz o
  have f1 := hb.frz (o + 1)
  have f2 := hb.frz (o + 2)
  have f3 := hb.frz (o + 3)
  have f4 := hb.frz (o + 4)
  have f5 := hb.frz (o + 5)
  have f6 := hb.frz (o + 6)
  have f7 := hb.frz (o + 7)
  have hlt := hb.lt
  have hw : Calls Tryd.prog 76 #[.agg #[], .slice (some ⟨g, o, none⟩) n c, .int .u64 (x : Int)] w fun e w' => e = .returned (.tuple #[]) ∧
      w' = (((((((((w.setCell ⟨g, o, none⟩ (.int .u8 ((x : Int) % 256))).setCell ⟨g, o + 1, none⟩ (.int .u8 ((x : Int) / 256 % 256))).setCell ⟨g, o + 2, none⟩ (.int .u8 ((x : Int) / 65536 % 256))).setCell ⟨g, o + 3, none⟩ (.int .u8 ((x : Int) / 16777216))).setCell
        ⟨g, o + 4, none⟩ (.int .u8 ((x : Int) / 4294967296))).setCell ⟨g, o + 5, none⟩ (.int .u8 ((x : Int) / 1099511627776))).setCell ⟨g, o + 6, none⟩ (.int .u8 ((x : Int) / 281474976710656))).setCell ⟨g, o + 7, none⟩ (.int .u8 ((x : Int) / 72057594037927936))).alloc (.cells #[] 174)) := by
    clear hb hcs
    generalize cs.getD o 0 = y0 at *
    generalize cs.getD (o + 1) 0 = y1 at *
    generalize cs.getD (o + 2) 0 = y2 at *
    generalize cs.getD (o + 3) 0 = y3 at *
    generalize cs.getD (o + 4) 0 = y4 at *
    generalize cs.getD (o + 5) 0 = y5 at *
    generalize cs.getD (o + 6) 0 = y6 at *
    generalize cs.getD (o + 7) 0 = y7 at *
    go_enter Tryd.func76, Tryd.ntmps76
    go_wp2
    go_end0
    exact ⟨rfl, rfl⟩
  refine hw.mono fun e w' ⟨he, hw'⟩ => ?_
  subst hw'
  refine ⟨he, ?_, (((((((((Fr.refl (fun k => k = g) w).setCell (fun _ => rfl) _).setCell (fun _ => rfl) _).setCell (fun _ => rfl) _).setCell (fun _ => rfl) _).setCell (fun _ => rfl) _).setCell (fun _ => rfl) _).setCell (fun _ => rfl) _).setCell (fun _ => rfl) _).alloc _⟩
  have e0 : ((x : Int) % 256) = ((x % 256 : Nat) : Int) := by omega
  have e1 : ((x : Int) / 256 % 256) = ((x / 256 % 256 : Nat) : Int) := by omega
  have e2 : ((x : Int) / 65536 % 256) = ((x / 65536 % 256 : Nat) : Int) := by omega
  have e3 : ((x : Int) / 16777216) = ((x / 16777216 : Nat) : Int) := by omega
  have e4 : ((x : Int) / 4294967296) = ((x / 4294967296 : Nat) : Int) := by omega
  have e5 : ((x : Int) / 1099511627776) = ((x / 1099511627776 : Nat) : Int) := by omega
  have e6 : ((x : Int) / 281474976710656) = ((x / 281474976710656 : Nat) : Int) := by omega
  have e7 : ((x : Int) / 72057594037927936) = ((x / 72057594037927936 : Nat) : Int) := by omega
  rw [e0, e1, e2, e3, e4, e5, e6, e7]
  simp only [put8, ← u8s_set]
  exact ((((((((hb.set _ _).set _ _).set _ _).set _ _).set _ _).set _ _).set _ _).set _ _).alloc _

/-- A buffer: none, or a whole row of bytes. -/
def Buf (w : World) (kv : Value) : Prop := kv = .slice none 0 0 ∨ ∃ kg kn kc cs, kv = .slice (some ⟨kg, 0, none⟩) kn kc ∧ kn ≤ kc ∧ kc ≤ 17592186044416 ∧ cs.length = kc ∧ Blk w kg (u8s cs) 5

/-- The row g holds the bytes of the first k numbers. -/
structure KeyAt (w0 w : World) (g c ig : Nat) (l : List Nat) (F : Nat → Prop) (k : Nat) : Prop where
  row : ∃ cs, cs.length = c ∧ Blk w g (u8s cs) 5 ∧ cs.take (8 * k) = keyBytes (l.take k)
  fr : Fr F w0 w

theorem KeyAt.next {w0 w w' : World} {g c ig : Nat} {l : List Nat} {F : Nat → Prop} {k x : Nat} {cs : List Nat} (h : Fr F w0 w) (hF : g < w0.heap.size → F g) (hx : l[k]? = some x) (h1 : cs.length = c) (h3 : cs.take (8 * k) = keyBytes (l.take k)) (h4 : 8 * k + 8 ≤ c)
    (h5 : Blk w' g (u8s (put8 cs (8 * k) (le8 x))) 5) (h6 : Fr (fun j => j = g) w w') : KeyAt w0 w' g c ig l F (k + 1) := by
  refine ⟨⟨_, by rw [put8_length, h1], h5, ?_⟩, h.trans h6 (fun i hi e => by subst e; exact hF hi)⟩
  rw [Nat.mul_add, Nat.mul_one, take_put8 _ _ _ (by omega), h3, List.take_add_one, hx]
  exact (keyBytes_snoc _ _).symm

set_option maxRecDepth 100000 in
set_option maxHeartbeats 2000000 in
theorem key_new (w : World) (l : List Nat) (ig ic : Nat) (A : Option Addr) (kn kc : Nat) (hl : 1 ≤ l.length) (hm : l.length ≤ 1000000000) (hic : l.length ≤ ic) (hx : ∀ x, x ∈ l → x < 1073741824)
    (hread : ∀ (i x : Nat), l[i]? = some x → w.cell? ⟨ig, i, none⟩ = some (.int .u64 (x : Int))) (hcap : kc < 8 * l.length) (hkn : kn ≤ kc) :
    Calls Tryd.prog 62 #[.slice (some ⟨ig, 0, none⟩) l.length ic, .slice A kn kc] w fun e w' => e = .returned (.slice (some ⟨w.heap.size, 0, none⟩) (8 * l.length) (8 * l.length)) ∧ KeyAt w w' w.heap.size (8 * l.length) ig l (fun _ => False) l.length := by
  have hmk : ∀ W : World, (Instr.makeSlice 92 (.int .i64 (8 * (l.length : Int))) (.int .i64 (8 * (l.length : Int)))).run Tryd.prog W = .ok (.slice (some ⟨W.heap.size, 0, none⟩) (8 * l.length) (8 * l.length)) (W.alloc (.cells (u8s (List.replicate (8 * l.length) 0)).toArray 5)) := by
    intro W
    have h := run_mk_u8 (8 * l.length) (8 * l.length) (Nat.le_refl _) (by omega) .i64 .i64 W
    have e : ((8 * l.length : Nat) : Int) = 8 * (l.length : Int) := by omega
    rw [e] at h
    exact h
  have hlt : ∀ (i x : Nat), l[i]? = some x → ig < w.heap.size := fun i x h => World.block_lt_of_cell? w _ (hread i x h)
  have hig : ig < w.heap.size := by
    obtain ⟨x, hx⟩ : ∃ x, l[0]? = some x := ⟨l[0]'(by omega), by simp⟩
    exact hlt 0 x hx
  have H := Lib.hid (And.intro hread hx)
  clear hread hx hlt
  generalize hC : (u8s (List.replicate (8 * l.length) 0)).toArray = C at hmk
  have HC := Lib.hid hC
  clear hC
  have hd : decide ((kc : Int) < 8 * (l.length : Int)) = true := by simp; omega
  go_enter Tryd.func62, Tryd.ntmps62
  go_wp2_with fail
  go_loopg [24] (l.length + 1) (fun g i wr => ∃ k : Nat, k ≤ l.length ∧ g = l.length - k + 1 ∧ i = .int .i64 (k : Int) ∧ KeyAt w wr w.heap.size (8 * l.length) ig l (fun _ => False) k)
  case atStart => exact ⟨0, by omega, by omega, rfl, ⟨List.replicate (8 * l.length) 0, by simp, by rw [← HC.out]; exact Blk.new w _ _, by simp [keyBytes]⟩, (Fr.refl _ w).alloc _⟩
  case round =>
    obtain ⟨k, hk, hg, rfl, hK⟩ := hrel
    subst hg
    by_cases hlt : k < l.length
    · obtain ⟨x, hx⟩ : ∃ x, l[k]? = some x := ⟨l[k], by simp [hlt]⟩
      have hc := hK.fr.cell (H.out.1 k x hx) (fun h => h)
      have hxl := H.out.2 x (List.mem_of_getElem? hx)
      obtain ⟨cs, r1, r2, r3⟩ := hK.row
      have hput := put64 w.heap.size (k * 8) (8 * l.length - k * 8) (8 * l.length - k * 8) x cs hxl wr.drew (by omega) (by omega) (by omega) r2.drew (by omega)
      have HR := Lib.hid (And.intro hK.fr (And.intro r1 (And.intro r2 (And.intro r3 hx))))
      have HP := Lib.hid hput
      clear hK r1 r2 r3 hx hput hxl
      have hle : k * 8 ≤ 8 * l.length := by omega
      go_wp2_with fail
      have e1 : IntKind.i64.wrap ((k : Int) * 8) = (k : Int) * 8 := IntWalk.i64_in _ (by omega)
      have e2 : (0 : Int) ≤ (k : Int) * 8 := by omega
      have e3 : ((k : Int) * 8).toNat = k * 8 := by omega
      have e4 : (k : Int) * 8 ≤ 8 * (l.length : Int) := by omega
      have e5 : ¬ (8 * l.length = k * 8) := by omega
      go_still_tail 6, (by kernel_rfl)
      change wpList _ _ _ _ _ wr.drew
      clear e1 e2 e3 e4 e5
      go_wp2_with fail
      refine HP.out.mono ?_
      rintro e w2 ⟨rfl, hB2, hF2⟩
      go_wp2_with fail
      obtain ⟨k1, k2, k3, k4, k5⟩ := HR.out
      go_roundg (l.length - (k + 1) + 1)
      case measure => omega
      case rel => exact ⟨k + 1, by omega, rfl, by simp, KeyAt.next (w := wr.drew) k1.drew (fun h => absurd h (Nat.lt_irrefl _)) k5 k2 k4 (by omega) (by rw [Nat.mul_comm 8 k]; exact hB2) hF2⟩
    · obtain rfl : k = l.length := by omega
      go_wp2
      go_ret
      exact ⟨rfl, hK⟩

set_option maxRecDepth 100000 in
set_option maxHeartbeats 2000000 in
theorem key_old (w : World) (l : List Nat) (ig ic kg kn kc : Nat) (cs0 : List Nat) (hl : 1 ≤ l.length) (hm : l.length ≤ 1000000000) (hic : l.length ≤ ic) (hx : ∀ x, x ∈ l → x < 1073741824)
    (hread : ∀ (i x : Nat), l[i]? = some x → w.cell? ⟨ig, i, none⟩ = some (.int .u64 (x : Int))) (hcap : 8 * l.length ≤ kc) (hkn : kn ≤ kc) (hkc : kc ≤ 17592186044416) (hc0 : cs0.length = kc) (hB : Blk w kg (u8s cs0) 5) (hne : ig ≠ kg) :
    Calls Tryd.prog 62 #[.slice (some ⟨ig, 0, none⟩) l.length ic, .slice (some ⟨kg, 0, none⟩) kn kc] w fun e w' => e = .returned (.slice (some ⟨kg, 0, none⟩) (8 * l.length) kc) ∧ KeyAt w w' kg kc ig l (fun k => k = kg) l.length := by
  have hig : ig < w.heap.size := by
    obtain ⟨x, hx⟩ : ∃ x, l[0]? = some x := ⟨l[0]'(by omega), by simp⟩
    exact World.block_lt_of_cell? w _ (hread 0 x hx)
  have H := Lib.hid (And.intro hread hx)
  have HB := Lib.hid (And.intro hB hc0)
  clear hread hx hB hc0
  have hd : decide ((kc : Int) < 8 * (l.length : Int)) = false := by simp; omega
  go_enter Tryd.func62, Tryd.ntmps62
  go_wp2_with fail
  go_loopg [24] (l.length + 1) (fun g i wr => ∃ k : Nat, k ≤ l.length ∧ g = l.length - k + 1 ∧ i = .int .i64 (k : Int) ∧ KeyAt w wr kg kc ig l (fun k => k = kg) k)
  case atStart => exact ⟨0, by omega, by omega, rfl, ⟨cs0, HB.out.2, HB.out.1, by simp [keyBytes]⟩, Fr.refl _ w⟩
  case round =>
    obtain ⟨k, hk, hg, rfl, hK⟩ := hrel
    subst hg
    by_cases hlt : k < l.length
    · obtain ⟨x, hx⟩ : ∃ x, l[k]? = some x := ⟨l[k], by simp [hlt]⟩
      have hc := hK.fr.cell (H.out.1 k x hx) hne
      have hxl := H.out.2 x (List.mem_of_getElem? hx)
      obtain ⟨cs, r1, r2, r3⟩ := hK.row
      have hput := put64 kg (k * 8) (8 * l.length - k * 8) (kc - k * 8) x cs hxl wr.drew (by omega) (by omega) (by omega) r2.drew (by omega)
      have HR := Lib.hid (And.intro hK.fr (And.intro r1 (And.intro r2 (And.intro r3 hx))))
      have HP := Lib.hid hput
      clear hK r1 r2 r3 hx hput hxl
      have hle : k * 8 ≤ 8 * l.length := by omega
      go_wp2_with fail
      have e1 : IntKind.i64.wrap ((k : Int) * 8) = (k : Int) * 8 := IntWalk.i64_in _ (by omega)
      have e2 : (0 : Int) ≤ (k : Int) * 8 := by omega
      have e3 : ((k : Int) * 8).toNat = k * 8 := by omega
      have e4 : (k : Int) * 8 ≤ 8 * (l.length : Int) := by omega
      have e5 : ¬ (kc = k * 8) := by omega
      go_still_tail 6, (by kernel_rfl)
      change wpList _ _ _ _ _ wr.drew
      clear e1 e2 e3 e4 e5
      go_wp2_with fail
      refine HP.out.mono ?_
      rintro e w2 ⟨rfl, hB2, hF2⟩
      go_wp2_with fail
      obtain ⟨k1, k2, k3, k4, k5⟩ := HR.out
      go_roundg (l.length - (k + 1) + 1)
      case measure => omega
      case rel => exact ⟨k + 1, by omega, rfl, by simp, KeyAt.next (w := wr.drew) k1.drew (fun _ => rfl) k5 k2 k4 (by omega) (by rw [Nat.mul_comm 8 k]; exact hB2) hF2⟩
    · obtain rfl : k = l.length := by omega
      go_wp2
      go_ret
      exact ⟨rfl, hK⟩

/-- 'instsKey' over whatever buffer. -/
theorem key_calls (w : World) (l : List Nat) (ig ic : Nat) (kv : Value) (hl : 1 ≤ l.length) (hm : l.length ≤ 1000000000) (hic : l.length ≤ ic) (hx : ∀ x, x ∈ l → x < 1073741824)
    (hread : ∀ (i x : Nat), l[i]? = some x → w.cell? ⟨ig, i, none⟩ = some (.int .u64 (x : Int))) (hkv : Buf w kv) (hne : kv.ownBlock ≠ some ig) :
    Calls Tryd.prog 62 #[.slice (some ⟨ig, 0, none⟩) l.length ic, kv] w fun e w' => ∃ kg kc cs, e = .returned (.slice (some ⟨kg, 0, none⟩) (8 * l.length) kc) ∧ 8 * l.length ≤ kc ∧ kc ≤ 17592186044416 ∧ cs.length = kc ∧ Blk w' kg (u8s cs) 5 ∧ cs.take (8 * l.length) = keyBytes l ∧
      (kv.ownBlock = some kg ∨ w.heap.size ≤ kg) ∧ Fr (fun k => kv.ownBlock = some k) w w' := by
  have big : ∀ (A : Option Addr) (kn kc : Nat), kc < 8 * l.length → kn ≤ kc → Calls Tryd.prog 62 #[.slice (some ⟨ig, 0, none⟩) l.length ic, .slice A kn kc] w fun e w' => ∃ kg kc cs, e = .returned (.slice (some ⟨kg, 0, none⟩) (8 * l.length) kc) ∧ 8 * l.length ≤ kc ∧ kc ≤ 17592186044416 ∧ cs.length = kc ∧ Blk w' kg (u8s cs) 5 ∧ cs.take (8 * l.length) = keyBytes l ∧
      ((Value.slice A kn kc).ownBlock = some kg ∨ w.heap.size ≤ kg) ∧ Fr (fun _ => False) w w' := by
    intro A kn kc h1 h2
    refine (key_new w l ig ic A kn kc hl hm hic hx hread h1 h2).mono fun e w' ⟨he, hK⟩ => ?_
    obtain ⟨cs, r1, r2, r3⟩ := hK.row
    exact ⟨w.heap.size, _, cs, he, Nat.le_refl _, by omega, r1, r2, by simpa using r3, .inr (Nat.le_refl _), hK.fr⟩
  rcases hkv with rfl | ⟨kg, kn, kc, cs0, rfl, h1, h2, h3, h4⟩
  · refine (big none 0 0 (by omega) (by omega)).mono fun e w' ⟨kg, kc, cs, a1, a2, a3, a4, a5, a6, a7, a8⟩ => ?_
    exact ⟨kg, kc, cs, a1, a2, a3, a4, a5, a6, a7, a8.mono (fun _ _ h => h.elim)⟩
  · by_cases hc : 8 * l.length ≤ kc
    · refine (key_old w l ig ic kg kn kc cs0 hl hm hic hx hread hc h1 h2 h3 h4 (fun e => hne (by simp [Value.ownBlock, e]))).mono fun e w' ⟨he, hK⟩ => ?_
      obtain ⟨cs, r1, r2, r3⟩ := hK.row
      exact ⟨kg, kc, cs, he, hc, h2, r1, r2, by simpa using r3, .inl rfl, hK.fr.mono (fun i _ e => by simp [Value.ownBlock, e])⟩
    · refine (big (some ⟨kg, 0, none⟩) kn kc (by omega) h1).mono fun e w' ⟨kg, kc, cs, a1, a2, a3, a4, a5, a6, a7, a8⟩ => ?_
      exact ⟨kg, kc, cs, a1, a2, a3, a4, a5, a6, a7, a8.mono (fun _ _ h => h.elim)⟩
end Go.Proofs.YtjeklnbfpehbeaaDoor

/- Rows of the call's own, appended to by one element: the kit's law in the words of this claim. Condition: the row stays below 2^47 bytes. -/
namespace Go.Proofs.YtjeklnbfpehbeaaDoor
open Go.RowKit

theorem own_fr {w w1 : World} {base n : Nat} {e : TypeId} {size : Nat} {v : Value} {xs : List Value} {F : Nat → Prop} (h : w.ownsRow base e size v n xs) (k : Fr F w w1) (hn : ∀ b, v.ownBlock = some b → ¬ F b) : w1.ownsRow base e size v n xs := by
  refine ⟨h.1, ?_⟩
  rcases h.2 with h2 | ⟨g, cap, cur, rfl, hb, hg, r⟩
  · exact .inl h2
  · exact .inr ⟨g, cap, cur, rfl, hb, (k.block g (lt_of_block hg) (hn g rfl)).trans hg, r⟩

theorem own_lt' {w : World} {base n : Nat} {e : TypeId} {size : Nat} {v : Value} {xs : List Value} (h : w.ownsRow base e size v n xs) {k : Nat} (hk : v.ownBlock = some k) : base ≤ k ∧ k < w.heap.size := h.lt k hk

theorem own_ne_blk {w : World} {base n : Nat} {e t : TypeId} {size b : Nat} {v : Value} {xs cs : List Value} (h : w.ownsRow base e size v n xs) (hb : Blk w b cs t) (hne : e ≠ t) : v.ownBlock ≠ some b := by
  intro he
  rcases h.2 with ⟨rfl, _⟩ | ⟨g, cap, cur, rfl, _, hg, _⟩
  · simp [Value.ownBlock] at he
  · simp [Value.ownBlock] at he
    subst he
    unfold Blk at hb
    rw [hg] at hb
    injection hb with hb
    injection hb with _ ht
    exact hne ht

theorem own_ne_own {w : World} {b1 n1 : Nat} {e1 e2 : TypeId} {s1 s2 b2 n2 : Nat} {v1 v2 : Value} {xs1 xs2 : List Value} (h : w.ownsRow b1 e1 s1 v1 n1 xs1) (h' : w.ownsRow b2 e2 s2 v2 n2 xs2) (hne : e1 ≠ e2) {k : Nat} (h1 : v1.ownBlock = some k) (h2 : v2.ownBlock = some k) : False := by
  rcases h.2 with ⟨rfl, _⟩ | ⟨g, cap, cur, rfl, _, hg, _⟩
  · simp [Value.ownBlock] at h1
  · rcases h'.2 with ⟨rfl, _⟩ | ⟨g', cap', cur', rfl, _, hg', _⟩
    · simp [Value.ownBlock] at h2
    · simp [Value.ownBlock] at h1 h2
      subst h1; subst h2
      rw [hg] at hg'
      injection hg' with hg'
      injection hg' with _ ht
      exact hne ht

theorem blk_ne {w : World} {b b' : Nat} {cs cs' : List Value} {t t' : TypeId} (h : Blk w b cs t) (h' : Blk w b' cs' t') (hne : t ≠ t') : b ≠ b' := by
  intro e; subst e
  exact hne (h.inj h').2

/-- A whole row that was just laid is one's own. -/
theorem own_of_blk {w : World} {base b n c : Nat} {e : TypeId} {size : Nat} {cs : List Value} (h : Blk w b cs e) (hb : base ≤ b) (hn : n ≤ c) (hc : c ≤ maxLen) (hs : cs.length = c * size) : w.ownsRow base e size (.slice (some ⟨b, 0, none⟩) n c) n (cs.take (n * size)) :=
  ⟨by rw [List.length_take, hs]; exact Nat.min_eq_left (Nat.mul_le_mul_right _ hn), .inr ⟨b, c, cs.toArray, rfl, hb, h, hn, hc, by simpa using hs, by simp⟩⟩

/-- What is read at a place of a row of one's own. -/
theorem own_cell {w : World} {base n : Nat} {e : TypeId} {size : Nat} {v : Value} {xs : List Value} (h : w.ownsRow base e size v n xs) {j : Nat} {u : Value} (hu : xs[j]? = some u) : ∃ g c, v = .slice (some ⟨g, 0, none⟩) n c ∧ n ≤ c ∧ c ≤ maxLen ∧ w.cell? ⟨g, j, none⟩ = some u ∧ w.frozen? ⟨g, j, none⟩ = false := by
  rcases h.2 with ⟨rfl, hn⟩ | ⟨g, cap, cur, rfl, hb, hg, h1, h2, h3, h4⟩
  · have := h.1; subst hn; simp at this; subst this; simp at hu
  · refine ⟨g, cap, rfl, h1, h2, ?_, by simp [World.frozen?, hg]⟩
    have hlt : j < n * size := by
      have := (List.getElem?_eq_some_iff.1 hu).1
      rw [h.1] at this; exact this
    rw [← h4, List.getElem?_take_of_lt hlt] at hu
    simp [World.cell?, hg, ← hu]

section
variable {ops : Array Oper} {rest : List Oper} {o : Oper} {a : Act} {Q : Exit → Act → World → Prop}

/-- append(v, y), y laid into a block of its own just ahead. -/
theorem app1 (W : World) (hgd : o.guard = none) (s x : Operand) (t : TypeId) (ho : o.op = .call { callee := .builtin .append, args := #[s, x], argTypes := #[t, t] })
    (base : Nat) (e : TypeId) (z : Value) (size bytes : Nat) (ht : Tryd.prog.underlying t = some (.slice e)) (hinfo : (Tryd.prog.info? e).map (fun i => (i.zero, i.size, i.bytes)) = some (some z, size, bytes)) (hzs : z.cells.size = size) (hsz : 0 < size)
    (v : Value) (n : Nat) (xs : List Value) (news : List Value) (hs : a.eval s = v) (hx : a.eval x = .slice (some ⟨W.heap.size, 0, none⟩) 1 1) (hown : W.ownsRow base e size v n xs) (hl : news.length = size) (h1 : ∀ u ∈ news, u.oneCell' = true)
    (hbytes : (n + 1) * bytes ≤ 140737488355328) (hb0 : 0 < bytes) (hbase : base ≤ W.heap.size)
    (h : ∀ v' w', w'.ownsRow base e size v' (n + 1) (xs ++ news) → Fr (fun k => v.ownBlock = some k) W w' → (v'.ownBlock = v.ownBlock ∨ ∃ b, v'.ownBlock = some b ∧ W.heap.size ≤ b) → wpList Tryd.prog ops Q rest (a.put o.dst v') w') :
    wpList Tryd.prog ops Q (o :: rest) a (W.alloc (.cells news.toArray e)) := by
  obtain ⟨i0, hi, hzz⟩ := Option.map_eq_some_iff.1 hinfo
  simp only [Prod.mk.injEq] at hzz
  obtain ⟨hz0, hz1, hz2⟩ := hzz
  have hlen : n + 1 ≤ 140737488355328 := Nat.le_trans (Nat.le_mul_of_pos_right _ hb0) hbytes
  refine wpList_append_own_at (W.alloc (.cells news.toArray e)) hgd s x t ho base e i0 z size bytes ht hi hz0 hz1 hz2 hzs hsz v n xs hs (hown.alloc _) ⟨W.heap.size, 0, none⟩ 1 1 news hx (by omega)
    (World.news_of_block (cs := news.toArray) (t := e) (fr := (0, 0)) (heap_alloc_new W _)) h1 (by simp only [maxLen]; omega) hbytes (by simp; omega) ?_
  intro v1 w1 hown1 hg _ hat
  refine h v1 w1 hown1 (((Fr.refl _ W).alloc _).grown hg (fun k hk hlt => hk)) ?_
  rcases hat with hat | hat
  · exact .inl hat
  · exact .inr ⟨_, hat, by simp⟩
end
end Go.Proofs.YtjeklnbfpehbeaaDoor

/- The builder of package regexp in memory: the program, its states, each with its row of next states, the cache of states by their places. No condition. -/
namespace Go.Proofs.YtjeklnbfpehbeaaDoor
open Go.RowKit Go.Maps

/-- A row of ints. -/
def i64s (l : List Nat) : List Value := l.map fun x : Nat => Value.int .i64 (x : Int)
theorem i64s_len (l : List Nat) : (i64s l).length = l.length := by simp [i64s]
theorem i64s_at {l : List Nat} {i x : Nat} (h : l[i]? = some x) : (i64s l)[i]? = some (.int .i64 (x : Int)) := by simp [i64s, h]
theorem i64s_set (l : List Nat) (i x : Nat) : (i64s l).set i (.int .i64 (x : Int)) = i64s (l.set i x) := by simp [i64s, List.map_set]

/-- A state: its places, the slice that holds them, its row of next states and that row's block, whether it matches. -/
structure DSt where
  l : List Nat
  iv : Value
  nb : Nat
  nx : List Nat
  m : Bool
def DSt.cells (s : DSt) : List Value := [s.iv, .slice (some ⟨s.nb, 0, none⟩) 256 256, .bool s.m]

/-- Numbers as the text that is their key. -/
def keyText (l : List Nat) : List UInt8 := (keyBytes l).map UInt8.ofNat
def keyLit (l : List Nat) : Lit := .string (keyText l)

/-- What the cache tells: a state's number by its places. -/
def CacheOk (D : DataW Unit) (S : List DSt) : Prop :=
  ∀ l : List Nat, (∀ x, x ∈ l → x < 1073741824) → (∃ (i : Nat) (s : DSt), 1 ≤ i ∧ S[i]? = some s ∧ s.l = l ∧ has D (keyLit l) = true ∧ ∀ z, D.atKey (keyLit l) z = .lit (.int .i64 (i : Int))) ∨
    ((∀ (i : Nat) (s : DSt), 1 ≤ i → S[i]? = some s → s.l ≠ l) ∧ has D (keyLit l) = false)

structure DB (w : World) (bb db mb : Nat) (pv : Value) (p : List Ins) (B M : Nat) (kv sv : Value) (S : List DSt) (D : DataW Unit) : Prop where
  hb : Blk w bb [.pointer (some ⟨db, 0, none⟩), .map (some mb), kv] 111
  hd : Blk w db [pv, sv] 108
  prg : Prg w pv p B
  sts : w.ownsRow B 115 3 sv S.length (S.flatMap DSt.cells)
  row : ∀ s, s ∈ S → w.ownsRow M 46 1 s.iv s.l.length (u64s s.l)
  next : ∀ s, s ∈ S → Blk w s.nb (i64s s.nx) 3 ∧ s.nx.length = 256 ∧ B ≤ s.nb
  buf : Buf w kv
  bufB : ∀ k, kv.ownBlock = some k → B ≤ k
  map : w.ownsMap Tryd.prog 9 (plainElem Tryd.prog 3) mb S.length D
  cache : CacheOk D S
  geb : B ≤ bb
  ged : B ≤ db
  gem : B ≤ mb
  BM : B ≤ M
  apart : (S.map DSt.nb).Nodup
  isMap : IsMap D

theorem map_ne_blk {w : World} {mb b n : Nat} {P : Program} {k : TypeId} {R : Value → Option (DataW Unit × List MemPlace)} {D : DataW Unit} {cs : List Value} {t : TypeId} (h : w.ownsMap P k R mb n D) (hb : Blk w b cs t) : b ≠ mb := by
  obtain ⟨es, clock, h1, _⟩ := h
  intro e; subst e
  unfold Blk at hb
  rw [h1] at hb
  cases hb
theorem map_ne_own {w : World} {mb n : Nat} {P : Program} {k : TypeId} {R : Value → Option (DataW Unit × List MemPlace)} {D : DataW Unit} {base m : Nat} {e : TypeId} {size : Nat} {v : Value} {xs : List Value} (h : w.ownsMap P k R mb n D) (ho : w.ownsRow base e size v m xs) : v.ownBlock ≠ some mb := by
  obtain ⟨es, clock, h1, _⟩ := h
  intro he
  rcases ho.2 with ⟨rfl, _⟩ | ⟨g, cap, cur, rfl, _, hg, _⟩
  · simp [Value.ownBlock] at he
  · simp [Value.ownBlock] at he
    subst he
    rw [h1] at hg
    cases hg
theorem buf_blk {w : World} {kv : Value} (h : Buf w kv) {k : Nat} (hk : kv.ownBlock = some k) : ∃ cs, Blk w k (u8s cs) 5 := by
  rcases h with rfl | ⟨kg, kn, kc, cs, rfl, _, _, _, hB⟩
  · simp [Value.ownBlock] at hk
  · simp [Value.ownBlock] at hk
    subst hk
    exact ⟨cs, hB⟩
theorem map_fr {w w' : World} {mb n : Nat} {P : Program} {k : TypeId} {R : Value → Option (DataW Unit × List MemPlace)} {D : DataW Unit} {F : Nat → Prop} (h : w.ownsMap P k R mb n D) (hf : Fr F w w') (hn : ¬ F mb) : w'.ownsMap P k R mb n D := by
  have hlt := h.lt
  obtain ⟨es, clock, h1, h2⟩ := h
  exact ⟨es, clock, (hf.block mb hlt hn).trans h1, h2⟩
theorem buf_fr {w w' : World} {kv : Value} {F : Nat → Prop} (h : Buf w kv) (hf : Fr F w w') (hn : ∀ k, kv.ownBlock = some k → ¬ F k) : Buf w' kv := by
  rcases h with rfl | ⟨kg, kn, kc, cs, rfl, h1, h2, h3, hB⟩
  · exact .inl rfl
  · exact .inr ⟨kg, kn, kc, cs, rfl, h1, h2, h3, hB.fr hf (hn kg rfl)⟩

/-- What is written elsewhere leaves the builder as it is. -/
theorem DB.fr {w w' : World} {bb db mb : Nat} {pv : Value} {p : List Ins} {B M : Nat} {kv sv : Value} {S : List DSt} {D : DataW Unit} {F : Nat → Prop} (h : DB w bb db mb pv p B M kv sv S D) (hf : Fr F w w')
    (hB : ∀ k, F k → B ≤ k) (n1 : ¬ F bb) (n2 : ¬ F db) (n3 : ¬ F mb) (n4 : ∀ k, kv.ownBlock = some k → ¬ F k) (n5 : ∀ k, sv.ownBlock = some k → ¬ F k) (n6 : ∀ s, s ∈ S → ∀ k, s.iv.ownBlock = some k → ¬ F k) (n7 : ∀ s, s ∈ S → ¬ F s.nb) :
    DB w' bb db mb pv p B M kv sv S D :=
  ⟨h.hb.fr hf n1, h.hd.fr hf n2, h.prg.fr hf hB, own_fr h.sts hf n5, fun s hs => own_fr (h.row s hs) hf (n6 s hs), fun s hs => ⟨(h.next s hs).1.fr hf (n7 s hs), (h.next s hs).2⟩, buf_fr h.buf hf n4, h.bufB, map_fr h.map hf n3, h.cache, h.geb, h.ged, h.gem, h.BM, h.apart, h.isMap⟩

/-- The blocks that a set lies in are none of the builder's. -/
theorem DB.set_fr {w w' : World} {bb db mb : Nat} {pv : Value} {p : List Ins} {B M : Nat} {kv sv : Value} {S : List DSt} {D : DataW Unit} {b bd bs n : Nat} {l : List Nat} (h : DB w bb db mb pv p B M kv sv S D) (hs : SS w b bd bs n l) (hf : Fr (SSf b bd bs) w w')
    (g1 : B ≤ b) (g2 : B ≤ bd) (g3 : B ≤ bs) (m2 : bd < M) (m3 : bs < M) : DB w' bb db mb pv p B M kv sv S D := by
  obtain ⟨cd, _, d2, _⟩ := hs.dense
  obtain ⟨cs, _, s2, _⟩ := hs.sparse
  have key : ∀ {k : Nat} {cs' : List Value} {t : TypeId}, Blk w k cs' t → t ≠ 142 → t ≠ 46 → ¬ SSf b bd bs k := by
    rintro k cs' t hk h1 h2 (rfl | rfl | rfl)
    · exact h1 (hk.inj hs.head).2
    · exact h2 (hk.inj d2).2
    · exact h2 (hk.inj s2).2
  refine h.fr hf (SSf_ge g1 g2 g3) (key h.hb (by decide) (by decide)) (key h.hd (by decide) (by decide)) ?_ ?_ ?_ ?_ (fun s hs => key (h.next s hs).1 (by decide) (by decide))
  · rintro (e | e | e)
    · exact map_ne_blk h.map hs.head e.symm
    · exact map_ne_blk h.map d2 e.symm
    · exact map_ne_blk h.map s2 e.symm
  · intro k hk
    obtain ⟨cs', hc⟩ := buf_blk h.buf hk
    exact key hc (by decide) (by decide)
  · rintro k hk (rfl | rfl | rfl)
    · exact own_ne_blk h.sts hs.head (by decide) hk
    · exact own_ne_blk h.sts d2 (by decide) hk
    · exact own_ne_blk h.sts s2 (by decide) hk
  · rintro s hs' k hk (rfl | rfl | rfl)
    · exact own_ne_blk (h.row s hs') hs.head (by decide) hk
    · have := (own_lt' (h.row s hs') hk).1; omega
    · have := (own_lt' (h.row s hs') hk).1; omega

theorem keyText_inj {l l' : List Nat} (hl : ∀ x, x ∈ l → x < 1073741824) (hl' : ∀ x, x ∈ l' → x < 1073741824) (h : keyText l = keyText l') : l = l' := by
  have small : ∀ (l : List Nat), (∀ x, x ∈ l → x < 1073741824) → ∀ b, b ∈ keyBytes l → b < 256 := by
    intro l hl b hb
    simp only [keyBytes, List.mem_flatMap] at hb
    obtain ⟨x, hx, hb⟩ := hb
    have := hl x hx
    simp only [le8, List.mem_cons, List.not_mem_nil, or_false] at hb
    omega
  apply keyBytes_inj
  have e : ∀ l : List Nat, (∀ x, x ∈ l → x < 1073741824) → (keyText l).map UInt8.toNat = keyBytes l := by
    intro l hl
    simp only [keyText, List.map_map]
    conv => rhs; rw [← List.map_id (keyBytes l)]
    apply List.map_congr_left
    intro b hb
    have := small l hl b hb
    simp only [Function.comp, id, UInt8.toNat_ofNat']
    omega
  rw [← e l hl, ← e l' hl', h]
end Go.Proofs.YtjeklnbfpehbeaaDoor

/- A region that draws its order, walked once: readers (which yield one value in every world that meets S) come up as soon as they may; the others form a chain; behind each of them, but for those that wait for all readers, S holds anew. No condition. -/
namespace Go.Proofs.YtjeklnbfpehbeaaDoor
open Go

section
variable {P : Program} {ops : Array Oper} {Q : Exit → Act → World → Prop} {md : Region.Mode} {S : World → Prop} {fin : Nat → Bool}

/-- Whatever order is picked, S holding behind each operation that is not marked. -/
def anyT (P : Program) (md : Region.Mode) (ops : Array Oper) (Q : Exit → Act → World → Prop) (S : World → Prop) (fin : Nat → Bool) : Nat → Array Bool → Act → World → Prop
  | 0, listed, a, w => Region.ready md ops listed = [] ∧ Q .normal a w
  | n + 1, listed, a, w => (Region.ready md ops listed = [] → Q .normal a w) ∧
      ∀ i, i ∈ Region.ready md ops listed → wpOp P ops Q i (fun a' w' => (fin i = false → S w') ∧ anyT P md ops Q S fin n (listed.setIfInBounds i true) a' w') a w

theorem anyT_any : ∀ (n : Nat) (listed : Array Bool) (a : Act) (w : World), anyT P md ops Q S fin n listed a w → wpAny P md ops Q n listed a w
  | 0, _, _, _, h => h
  | n + 1, _, _, _, h => ⟨h.1, fun i hi => wpOp_mono (fun a' w' h' => anyT_any n _ a' w' h'.2) (h.2 i hi)⟩

/-- A reader that may come up may come up first. -/
theorem anyT_first {i : Nat} {oi : Oper} {v : Value} (hi : ops[i]? = some oi) (hsel : Region.noSelect ops = true) (hQ : ∀ c a w, Q (.panic c) (a.put oi.dst v) w → Q (.panic c) a w)
    (hfin : ∀ j oj, ops[j]? = some oj → fin j = true → j = i ∨ ∃ e, e ∈ oj.after ∧ Region.binds md e = true ∧ e.on = i) :
    ∀ (n : Nat) (listed : Array Bool) (a : Act) (w : World),
      (∀ j oj, ops[j]? = some oj → j ≠ i → listed.getD j true = false → (∀ e ∈ oj.after, Region.binds md e = true → e.on ≠ i) → oi.apart ops oj = true) →
      i ∈ Region.ready md ops listed → YieldsIf P ops S oi v a → S w →
      anyT P md ops Q S fin n (listed.setIfInBounds i true) (a.put oi.dst v) w → anyT P md ops Q S fin (n + 1) listed a w := by
  have hs := Region.noSelect_spec hsel
  intro n
  induction n with
  | zero =>
    intro listed a w _ hr hy hS H
    refine ⟨fun h0 => (by rw [h0] at hr; cases hr), fun j hj => ?_⟩
    rcases Nat.decEq j i with hji | hji
    · have hno := H.1
      have hm := ready_mono hj hji
      rw [hno] at hm
      cases hm
    · subst hji
      exact hy.wpOp hi hS ⟨fun _ => hS, H⟩
  | succ n ih =>
    intro listed a w hfree hr hy hS H
    refine ⟨fun h0 => (by rw [h0] at hr; cases hr), fun j hj => ?_⟩
    rcases Nat.decEq j i with hji | hji
    · obtain ⟨hun, oj, hoj, hall⟩ := mem_ready.1 hj
      have hiun := (mem_ready.1 hr).1
      have hwait : ∀ e ∈ oj.after, Region.binds md e = true → e.on ≠ i := by
        intro e he hb heq
        have h1 := hall e he hb
        rw [heq] at h1
        rcases Nat.lt_or_ge i listed.size with hlt | hge
        · simp only [Array.getD_eq_getD_getElem?, Array.getElem?_eq_getElem hlt, Option.getD_some] at h1 hiun
          rw [h1] at hiun; cases hiun
        · simp only [Array.getD_eq_getD_getElem?, Array.getElem?_eq_none hge, Option.getD_none] at h1
          cases h1
      have hnf : fin j = false := by
        cases hf : fin j with
        | false => rfl
        | true =>
          rcases hfin j oj hoj hf with e0 | ⟨e, he, hb, heq⟩
          · exact absurd e0 hji
          · exact absurd heq (hwait e he hb)
      have step := wpOp_putIf hoj (hfree j oj hoj hji hun hwait) (fun cs b => hs i oi cs b hi) (fun cs b => hs j oj cs b hoj) hQ hy (H.2 j (ready_mono hj hji))
      refine wpOp_mono (fun a' w' h3 => ⟨fun _ => h3.2.1 hnf, ?_⟩) step
      refine ih (listed.setIfInBounds j true) a' w' (fun k ok hk hki hku hkw => hfree k ok hk hki ?_ hkw) (ready_mono hr (Ne.symm hji)) h3.1 (h3.2.1 hnf) ?_
      · rcases Nat.decEq j k with hjk | hjk
        · rwa [getD_set_ne true hjk] at hku
        · subst hjk; exact hun
      · have := h3.2.2
        rwa [Array.setIfInBounds_comm _ _ hji]
    · subst hji
      exact hy.wpOp hi hS ⟨fun _ => hS, H⟩

/-- The order that is walked, and what the text of the region owes to it. -/
def greedy (md : Region.Mode) (ops : Array Oper) (rd fin : Nat → Bool) : List Nat → Array Bool → Bool
  | [], listed => (Region.ready md ops listed).isEmpty
  | i :: r, listed => (if rd i then (Region.ready md ops listed).contains i && Region.free md ops listed i else Region.ready md ops listed == [i] && (!fin i || r.all fun j => !rd j)) && greedy md ops rd fin r (listed.setIfInBounds i true)
/-- What is marked waits for every reader. -/
def marks (md : Region.Mode) (ops : Array Oper) (rd fin : Nat → Bool) : Bool :=
  (List.range ops.size).all fun j => !fin j || (List.range ops.size).all fun i => !rd i || j == i || match ops[j]? with | some oj => oj.after.any (fun e => Region.binds md e && e.on == i) | none => false

/-- The region, walked in one order. -/
def seqT (P : Program) (ops : Array Oper) (Q : Exit → Act → World → Prop) (S : World → Prop) (rd fin : Nat → Bool) : List Nat → Act → World → Prop
  | [], a, w => Q .normal a w
  | i :: r, a, w => match ops[i]? with
    | none => False
    | some o => if rd i then ∃ v, YieldsIf P ops S o v a ∧ seqT P ops Q S rd fin r (a.put o.dst v) w else wpOp P ops Q i (fun a' w' => (fin i = false → S w') ∧ seqT P ops Q S rd fin r a' w') a w

theorem anyT_seq {rd : Nat → Bool} (hsel : Region.noSelect ops = true) (hQ : ∀ c a d v w, Q (.panic c) (a.put d v) w → Q (.panic c) a w) (hm : marks md ops rd fin = true) :
    ∀ (l : List Nat) (listed : Array Bool) (a : Act) (w : World), greedy md ops rd fin l listed = true → ((∃ j, j ∈ l ∧ rd j = true) → S w) → seqT P ops Q S rd fin l a w → anyT P md ops Q S fin l.length listed a w
  | [], listed, a, w, hg, hS, h => ⟨by simpa [greedy] using hg, h⟩
  | i :: l, listed, a, w, hg, hS, h => by
    simp only [greedy, Bool.and_eq_true] at hg
    simp only [seqT] at h
    cases ho : ops[i]? with
    | none => rw [ho] at h; exact h.elim
    | some o =>
      rw [ho] at h
      simp only at h
      have hlt : i < ops.size := (Array.getElem?_eq_some_iff.1 ho).1
      cases hr : rd i with
      | true =>
        simp only [hr, if_true, Bool.and_eq_true] at hg h
        obtain ⟨⟨h1, h2⟩, h3⟩ := hg
        obtain ⟨v, hy, hk⟩ := h
        have hSw := hS ⟨i, by simp, hr⟩
        refine anyT_first ho hsel (fun c a w => hQ c a _ v w) ?_ l.length listed a w (Region.free_spec ho h2) (by simpa using h1) hy hSw (anyT_seq hsel hQ hm l _ _ _ h3 (fun _ => hSw) hk)
        intro j oj hoj hf
        have hj : j < ops.size := (Array.getElem?_eq_some_iff.1 hoj).1
        have hm1 := List.all_eq_true.1 hm j (List.mem_range.2 hj)
        simp only [hf, Bool.not_true, Bool.false_or] at hm1
        have hm2 := List.all_eq_true.1 hm1 i (List.mem_range.2 hlt)
        simp only [hr, Bool.not_true, Bool.false_or, hoj, Bool.or_eq_true, beq_iff_eq] at hm2
        rcases hm2 with hm2 | hm2
        · exact .inl hm2
        · obtain ⟨e, he, hb⟩ := Array.any_eq_true'.1 hm2
          simp only [Bool.and_eq_true, beq_iff_eq] at hb
          exact .inr ⟨e, he, hb.1, hb.2⟩
      | false =>
        simp only [hr, Bool.false_eq_true, if_false, Bool.and_eq_true, Bool.or_eq_true, Bool.not_eq_true', beq_iff_eq] at hg h
        obtain ⟨⟨h1, h2⟩, h3⟩ := hg
        refine ⟨fun h0 => (by rw [h1] at h0; cases h0), fun j hj => ?_⟩
        rw [h1] at hj
        obtain rfl : j = i := by simpa using hj
        refine wpOp_mono (fun a' w' hk => ⟨hk.1, anyT_seq hsel hQ hm l _ _ _ h3 ?_ hk.2⟩) h
        rintro ⟨k, hk1, hk2⟩
        rcases h2 with h2 | h2
        · exact hk.1 h2
        · have := List.all_eq_true.1 h2 k hk1
          simp [hk2] at this

/-- A region that draws, walked in one order. -/
theorem wp_region_seqT {id : Nat} {a : Act} {w : World} (S : World → Prop) (rd fin : Nat → Bool) (l : List Nat) (hm : P.follows .mixedOrders = true) (hB : (Region.noSelect ops && marks .any ops rd fin && greedy .any ops rd fin l (Array.replicate ops.size false) && l.length == ops.size) = true)
    (hQ : ∀ c a d v w, Q (.panic c) (a.put d v) w → Q (.panic c) a w) (hS : S w.drew) (h : seqT P ops Q S rd fin l a w.drew) : (Code.region id ops true).wp P Q a w := by
  simp only [Bool.and_eq_true, beq_iff_eq] at hB
  obtain ⟨⟨⟨h1, h2⟩, h3⟩, h4⟩ := hB
  refine wp_region_any hm (anyT_any (S := S) (fin := fin) _ _ _ _ ?_)
  rw [← h4]
  rw [← h4] at h3
  exact anyT_seq h1 hQ h2 l _ a _ h3 (fun _ => hS) h

/-- One reader. -/
theorem seqT_read {rd : Nat → Bool} {i : Nat} {o : Oper} {r : List Nat} {a : Act} {w : World} {v : Value} (hv : ∀ w', S w' → (execOp a.eval o).run P w' = .ok (.value v) w') (h : seqT P ops Q S rd fin r (a.put o.dst v) w)
    (ho : ops[i]? = some o) (hr : rd i = true) (hg : o.guard = none) : seqT P ops Q S rd fin (i :: r) a w := by
  simp only [seqT, ho, hr, if_true]
  exact ⟨v, .inl ⟨by simp [Region.wanted, hg], hv⟩, h⟩

/-- One of the others. -/
theorem seqT_do {rd : Nat → Bool} {i : Nat} {o : Oper} {r : List Nat} {a : Act} {w : World} (ho : ops[i]? = some o) (hr : rd i = false)
    (h : ∀ K : Act → World → Prop, (∀ a' w', (fin i = false → S w') → seqT P ops Q S rd fin r a' w' → K a' w') → if Region.wanted o (yielded ops a.tmps) = true then o.wp P a w K Q else K (a.put o.dst undef) w) : seqT P ops Q S rd fin (i :: r) a w := by
  simp only [seqT, ho, hr, Bool.false_eq_true, if_false]
  unfold wpOp
  simp only [ho]
  have := h (fun a' w' => (fin i = false → S w') ∧ seqT P ops Q S rd fin r a' w') (fun a' w' h1 h2 => ⟨h1, h2⟩)
  split
  · rename_i hw; rw [if_pos hw] at this; exact .inl this
  · rename_i hw; rw [if_neg hw] at this; exact this
end
end Go.Proofs.YtjeklnbfpehbeaaDoor
