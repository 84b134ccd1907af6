/- The walk of 'wrong' of package impl at two of the errors of package regexp. Condition: the package's errors are laid, each at a place of its own. The compiler of package regexp in memory: its instructions, in pools of 16, and the slice of pointers to them. No condition. The walk of '(*compiler).allocInst' of package regexp: the next place of a pool. No condition. The small methods of package regexp's compiler, walked: top, emptySplit, emptyJump, setSplit, setJump, checkSize. Condition: fewer than 10^9 instructions. Two more methods of package regexp's compiler, walked: checkSize, compileUtf8Ranges. Condition: fewer than 10^6 instructions. The walk of '(*compiler).compileUtf8Ranges' of package regexp: a sequence of ranges of bytes becomes as many instructions. Condition: fewer than 10^6 instructions. Masks of bits in plain numbers. Condition: runes below 2^21, bytes below 256. The walk of unicode/utf8's EncodeRune at runes that have bytes. Condition: the rune has bytes, the buffer four places. The stack of ranges of package utf8, and the methods of a range, walked. Condition: the stack stays below 2^40. The stack of ranges of package utf8: Pop. Condition: the stack stays below 2^40. -/
import Derived.Test.YtjeklnbfpehbeaaDoorM00
import Derived.LaidEql
import Derived.Test.YtjeklnbfpehbeaaDoorM01
import Derived.Handy
set_option linter.unusedVariables false
/- The walk of 'wrong' of package impl at two of the errors of package regexp. Condition: the package's errors are laid, each at a place of its own. -/
namespace Go.Proofs.YtjeklnbfpehbeaaDoor
open Go.RowKit

/-- An error that a package keeps. -/
def errAt (a : Nat → Addr) (i : Nat) : Value := .iface 184 (.pointer (some (a i)))
/-- The errors of package regexp are laid. -/
structure Sent (w : World) (a : Nat → Addr) : Prop where
  cell : ∀ i, i < 5 → w.cell? ⟨i, 0, none⟩ = some (errAt a i)
  obj : ∀ i, i < 5 → ∃ (c : Array Value) (t : TypeId), w.heap[(a i).block]? = some (.cells c t (0, 0))
  apart : ∀ i j, i < 5 → j < 5 → i ≠ j → a i ≠ a j

theorem Sent.fr {w w' : World} {a : Nat → Addr} {B : Nat} (h : Sent w a) (hf : Fr (fun k => B ≤ k) w w') (hB : 5 ≤ B) (ha : ∀ i, i < 5 → (a i).block < B) : Sent w' a := by
  refine ⟨fun i hi => hf.cell (h.cell i hi) (by simp; omega), fun i hi => ?_, h.apart⟩
  obtain ⟨c, t, hc⟩ := h.obj i hi
  exact ⟨c, t, (hf.block (a i).block (lt_of_block hc) (by have := ha i hi; omega)).trans hc⟩

theorem comp184 : (Tryd.prog.info? 184).map (·.comparable) = some true := by kernel_rfl
theorem size186 : (Tryd.prog.info? 186).map (·.size) = some 1 := by kernel_rfl

theorem err_same (w : World) (a : Nat → Addr) (i : Nat) : (binOp .eql 41 (errAt a i) (errAt a i)).run Tryd.prog w = .ok (.bool true) w := by
  obtain ⟨j, hj, hc⟩ := Option.map_eq_some_iff.1 comp184
  obtain ⟨k, hk, _⟩ := Option.map_eq_some_iff.1 size186
  exact run_eql_iface_ptr_same w _ Tryd.underlying41 Tryd.underlying184 hj hc hk
theorem err_other {w : World} {a : Nat → Addr} (h : Sent w a) {i j : Nat} (hi : i < 5) (hj : j < 5) (hne : i ≠ j) : (binOp .eql 41 (errAt a i) (errAt a j)).run Tryd.prog w = .ok (.bool false) w := by
  obtain ⟨x, hx, hc⟩ := Option.map_eq_some_iff.1 comp184
  obtain ⟨k, hk, hs⟩ := Option.map_eq_some_iff.1 size186
  obtain ⟨c1, t1, h1⟩ := h.obj i hi
  obtain ⟨c2, t2, h2⟩ := h.obj j hj
  have hap := h.apart i j hi hj hne
  exact run_eql_iface_ptr_other w Tryd.underlying41 Tryd.underlying184 hx hc hk (by rw [hs]; decide) hap h1 h2
theorem err_nil (w : World) (a : Nat → Addr) (i : Nat) : (binOp .eql 41 (errAt a i) .nilIface).run Tryd.prog w = .ok (.bool false) w := by kernel_rfl
theorem err_neq_nil (w : World) (a : Nat → Addr) (i : Nat) : (binOp .neq 41 (errAt a i) .nilIface).run Tryd.prog w = .ok (.bool true) w := by kernel_rfl

theorem wrong_big {w : World} {a : Nat → Addr} (h : Sent w a) : Calls Tryd.prog 19 #[errAt a 3] w fun e w' => e = .returned (.int .i64 4) ∧ w = w' := by
  have g0 := h.cell 0 (by decide)
  have g1 := h.cell 1 (by decide)
  have g2 := h.cell 2 (by decide)
  have g3 := h.cell 3 (by decide)
  have e0 := err_other h (i := 3) (j := 0) (by decide) (by decide) (by decide)
  have e1 := err_other h (i := 3) (j := 1) (by decide) (by decide) (by decide)
  have e2 := err_other h (i := 3) (j := 2) (by decide) (by decide) (by decide)
  have e3 := err_same w a 3
  have en := err_nil w a 3
  clear h
  unfold errAt at *
  generalize a 0 = b0 at *
  generalize a 1 = b1 at *
  generalize a 2 = b2 at *
  generalize a 3 = b3 at *
  go_enter Tryd.func19, Tryd.ntmps19
  go_wp2
  go_ret
  exact ⟨rfl, rfl⟩
theorem wrong_many {w : World} {a : Nat → Addr} (h : Sent w a) : Calls Tryd.prog 19 #[errAt a 4] w fun e w' => e = .returned (.int .i64 5) ∧ w = w' := by
  have g0 := h.cell 0 (by decide)
  have g1 := h.cell 1 (by decide)
  have g2 := h.cell 2 (by decide)
  have g3 := h.cell 3 (by decide)
  have g4 := h.cell 4 (by decide)
  have e0 := err_other h (i := 4) (j := 0) (by decide) (by decide) (by decide)
  have e1 := err_other h (i := 4) (j := 1) (by decide) (by decide) (by decide)
  have e2 := err_other h (i := 4) (j := 2) (by decide) (by decide) (by decide)
  have e3 := err_other h (i := 4) (j := 3) (by decide) (by decide) (by decide)
  have e4 := err_same w a 4
  have en := err_nil w a 4
  clear h
  unfold errAt at *
  generalize a 0 = b0 at *
  generalize a 1 = b1 at *
  generalize a 2 = b2 at *
  generalize a 3 = b3 at *
  generalize a 4 = b4 at *
  go_enter Tryd.func19, Tryd.ntmps19
  go_wp2
  go_ret
  exact ⟨rfl, rfl⟩
end Go.Proofs.YtjeklnbfpehbeaaDoor

/- The compiler of package regexp in memory: its instructions, in pools of 16, and the slice of pointers to them. No condition. -/
namespace Go.Proofs.YtjeklnbfpehbeaaDoor
open Go.RowKit

/-- Place k of the pool g holds the instruction x. -/
structure InsAt (w : World) (s : Nat × Nat) (x : Ins) : Prop where
  blk : ∃ cs, Blk w s.1 cs 105
  cell : ∀ (j : Nat) v, x.cells[j]? = some v → w.cell? ⟨s.1, 6 * s.2 + j, none⟩ = some v

def ptrTo (s : Nat × Nat) : Value := .pointer (some ⟨s.1, 6 * s.2, none⟩)

theorem cells_len (x : Ins) : x.cells.length = 6 := by cases x <;> rfl
theorem InsAt.frz {w : World} {s : Nat × Nat} {x : Ins} (h : InsAt w s x) (j : Nat) : w.frozen? ⟨s.1, j, none⟩ = false := by
  obtain ⟨cs, hb⟩ := h.blk
  exact hb.frz j
theorem InsAt.fr {w w' : World} {s : Nat × Nat} {x : Ins} {F : Nat → Prop} (h : InsAt w s x) (hf : Fr F w w') (hn : ¬ F s.1) : InsAt w' s x := by
  obtain ⟨cs, hb⟩ := h.blk
  exact ⟨⟨cs, hb.fr hf hn⟩, fun j v hj => hf.cell (h.cell j v hj) hn⟩
theorem InsAt.lt {w : World} {s : Nat × Nat} {x : Ins} (h : InsAt w s x) : s.1 < w.heap.size := by
  obtain ⟨cs, hb⟩ := h.blk
  exact hb.lt
theorem InsAt.set {w : World} {s : Nat × Nat} {x y : Ins} {j : Nat} {v : Value} (h : InsAt w s x) (hj : j < 6) (hy : y.cells = x.cells.set j v) : InsAt (w.setCell ⟨s.1, 6 * s.2 + j, none⟩ v) s y := by
  obtain ⟨cs, hb⟩ := h.blk
  refine ⟨⟨_, hb.set _ v⟩, fun i u hi => ?_⟩
  rw [hy] at hi
  by_cases e : i = j
  · subst e
    rw [List.getElem?_set_self (by rw [cells_len]; exact hj)] at hi
    injection hi with hi
    subst hi
    have : i < x.cells.length := by rw [cells_len]; exact hj
    exact World.cell?_setCell_same _ _ _ (h.cell i _ (List.getElem?_eq_getElem this))
  · rw [List.getElem?_set_ne (Ne.symm e)] at hi
    have hne : (⟨s.1, 6 * s.2 + j, none⟩ : Addr) ≠ ⟨s.1, 6 * s.2 + i, none⟩ := fun e2 => by have := congrArg Addr.off e2; simp only at this; omega
    exact (World.cell?_setCell_other _ _ _ _ hne).trans (h.cell i u hi)
theorem InsAt.set_other {w : World} {s t : Nat × Nat} {x : Ins} {j : Nat} {v : Value} (h : InsAt w s x) (hj : j < 6) (hne : s ≠ t) : InsAt (w.setCell ⟨t.1, 6 * t.2 + j, none⟩ v) s x := by
  obtain ⟨cs, hb⟩ := h.blk
  refine ⟨?_, fun i u hi => ?_⟩
  · by_cases e : s.1 = t.1
    · exact ⟨cs.set (6 * t.2 + j) v, by rw [e] at hb ⊢; exact hb.set (6 * t.2 + j) v⟩
    · exact ⟨cs, hb.set_ne (a := ⟨t.1, 6 * t.2 + j, none⟩) e v⟩
  · have hi6 : i < 6 := by
      have := (List.getElem?_eq_some_iff.1 hi).1
      rw [cells_len] at this; exact this
    rw [World.cell?_setCell_other]
    · exact h.cell i u hi
    · intro e
      apply hne
      simp at e
      exact Prod.ext e.1.symm (by omega)

/-- What is left of the last pool. -/
def PoolOk (w : World) (B : Nat) (pl : Value) (ps : List (Nat × Nat)) : Prop :=
  ∃ (A : Option Addr) (r : Nat), pl = .slice A r r ∧ (r = 0 ∨ ∃ g k : Nat, A = some ⟨g, 6 * k, none⟩ ∧ k + r = 16 ∧ B ≤ g ∧ ∀ k', k ≤ k' → k' < 16 → InsAt w (g, k') .mtch ∧ (g, k') ∉ ps)

/-- The compiler at block cb: instructions p, of which n are pointed to. -/
structure CB (w : World) (B cb : Nat) (q3 q4 q5 q6 : Value) (n : Nat) (p : List Ins) (pv pl : Value) (ps : List (Nat × Nat)) : Prop where
  hb : Blk w cb [.int .u64 10485760, pv, pl, q3, q4, q5, q6] 99
  len : ps.length = p.length
  own : w.ownsRow B 101 1 pv n ((ps.take n).map ptrTo)
  nle : n ≤ p.length
  at_ : ∀ (i : Nat) (s : Nat × Nat) (x : Ins), ps[i]? = some s → p[i]? = some x → InsAt w s x ∧ B ≤ s.1
  nodup : ps.Nodup
  pool : PoolOk w B pl ps
  geb : B ≤ cb

section
variable {w w' : World} {B cb : Nat} {q3 q4 q5 q6 : Value} {n : Nat} {p : List Ins} {pv pl : Value} {ps : List (Nat × Nat)}

theorem PoolOk.fr {F : Nat → Prop} (h : PoolOk w B pl ps) (hf : Fr F w w') (hn : ∀ g cs, Blk w g cs 105 → ¬ F g) : PoolOk w' B pl ps := by
  obtain ⟨A, r, h1, h2⟩ := h
  refine ⟨A, r, h1, h2.imp id ?_⟩
  rintro ⟨g, k, h3, h4, h5, h6⟩
  refine ⟨g, k, h3, h4, h5, fun k' h7 h8 => ⟨(h6 k' h7 h8).1.fr hf ?_, (h6 k' h7 h8).2⟩⟩
  obtain ⟨cs, hb⟩ := (h6 k' h7 h8).1.blk
  exact hn _ cs hb

/-- What is written elsewhere leaves the compiler as it is. -/
theorem CB.fr {F : Nat → Prop} (h : CB w B cb q3 q4 q5 q6 n p pv pl ps) (hf : Fr F w w') (n1 : ¬ F cb) (n2 : ∀ k, pv.ownBlock = some k → ¬ F k) (n3 : ∀ g cs, Blk w g cs 105 → ¬ F g) : CB w' B cb q3 q4 q5 q6 n p pv pl ps := by
  refine ⟨h.hb.fr hf n1, h.len, own_fr h.own hf n2, h.nle, fun i s x hs hx => ?_, h.nodup, h.pool.fr hf n3, h.geb⟩
  obtain ⟨h1, h2⟩ := h.at_ i s x hs hx
  obtain ⟨cs, hb⟩ := h1.blk
  exact ⟨h1.fr hf (n3 _ cs hb), h2⟩

/-- A cell of one instruction is written. -/
theorem CB.setAt (h : CB w B cb q3 q4 q5 q6 n p pv pl ps) {i j : Nat} {s : Nat × Nat} {x y : Ins} {v : Value} (hs : ps[i]? = some s) (hx : p[i]? = some x) (hj : j < 6) (hy : y.cells = x.cells.set j v) :
    CB (w.setCell ⟨s.1, 6 * s.2 + j, none⟩ v) B cb q3 q4 q5 q6 n (p.set i y) pv pl ps := by
  obtain ⟨hsx, hsB⟩ := h.at_ i s x hs hx
  obtain ⟨cs, hsb⟩ := hsx.blk
  have hF : Fr (fun k => k = s.1) w (w.setCell ⟨s.1, 6 * s.2 + j, none⟩ v) := Fr.setCell (F := fun k => k = s.1) (p := ⟨s.1, 6 * s.2 + j, none⟩) (Fr.refl _ w) (fun _ => rfl) _
  refine ⟨h.hb.fr hF (fun e => by subst e; exact absurd (h.hb.inj hsb).2 (by decide)), by rw [List.length_set]; exact h.len, own_fr h.own hF (fun k hk e => by subst e; exact own_ne_blk h.own hsb (by decide) hk), by rw [List.length_set]; exact h.nle, fun i' s' x' hs' hx' => ?_, h.nodup, ?_, h.geb⟩
  · by_cases e : i' = i
    · subst e
      rw [hs] at hs'; injection hs' with hs'; subst hs'
      rw [List.getElem?_set_self (List.getElem?_eq_some_iff.1 hx).1] at hx'
      injection hx' with hx'; subst hx'
      exact ⟨hsx.set hj hy, hsB⟩
    · rw [List.getElem?_set_ne (Ne.symm e)] at hx'
      obtain ⟨h1, h2⟩ := h.at_ i' s' x' hs' hx'
      refine ⟨h1.set_other hj (fun e2 => ?_), h2⟩
      subst e2
      have hnd := h.nodup
      rw [List.nodup_iff_pairwise_ne, List.pairwise_iff_getElem] at hnd
      have l1 := (List.getElem?_eq_some_iff.1 hs)
      have l2 := (List.getElem?_eq_some_iff.1 hs')
      obtain ⟨l1, e1⟩ := l1
      obtain ⟨l2, e2⟩ := l2
      rcases Nat.lt_or_ge i i' with hl | hl
      · exact hnd i i' l1 l2 hl (e1.trans e2.symm)
      · exact hnd i' i l2 l1 (by omega) (e2.trans e1.symm)
  · obtain ⟨A, r, h1, h2⟩ := h.pool
    refine ⟨A, r, h1, h2.imp id ?_⟩
    rintro ⟨g, k, h3, h4, h5, h6⟩
    refine ⟨g, k, h3, h4, h5, fun k' h7 h8 => ⟨(h6 k' h7 h8).1.set_other hj (fun e => ?_), (h6 k' h7 h8).2⟩⟩
    exact (h6 k' h7 h8).2 (by rw [e]; exact List.mem_of_getElem? hs)
end
end Go.Proofs.YtjeklnbfpehbeaaDoor

/- The walk of '(*compiler).allocInst' of package regexp: the next place of a pool. No condition. -/
namespace Go.Proofs.YtjeklnbfpehbeaaDoor
open Go.RowKit

theorem info105 : (Tryd.prog.info? 105).map (fun i => (i.zero, i.size, i.bytes)) = some (some (.agg #[.int .i64 0, .int .u64 0, .int .u64 0, .int .u64 0, .int .u8 0, .int .u8 0]), 6, 40) := by kernel_rfl

/-- A new pool's cells. -/
def poolCells : List Value := (madeCells #[.int .i64 0, .int .u64 0, .int .u64 0, .int .u64 0, .int .u8 0, .int .u8 0] 96).toList

theorem run_mk_pool (W : World) : (Instr.makeSlice 93 (.int .i64 16) (.int .i64 16)).run Tryd.prog W = .ok (.slice (some ⟨W.heap.size, 0, none⟩) 16 16) (W.alloc (.cells poolCells.toArray 105)) := by
  obtain ⟨i0, hi, hz0, hz1, hz2⟩ := info_parts info105
  have h := run_make (P := Tryd.prog) W 93 105 i0 _ Tryd.underlying93 hi hz0 .i64 .i64 16 16 (by decide) (by decide) (by rw [hz2]; decide) (by decide)
  rw [hz1] at h
  exact h

theorem pool_at {k j : Nat} {v : Value} (hk : k < 16) (hv : Ins.mtch.cells[j]? = some v) : poolCells[6 * k + j]? = some v := by
  have hj : j < 6 := by
    have := (List.getElem?_eq_some_iff.1 hv).1
    rw [cells_len] at this; exact this
  have hlt : 6 * k + j < 96 := by omega
  have hm : (6 * k + j) % 6 = j := by omega
  simp only [poolCells, madeCells]
  rw [Array.getElem?_toList, Array.getElem?_map]
  simp only [Array.getElem?_range, hlt]
  simp [hm]
  revert hv
  have : j = 0 ∨ j = 1 ∨ j = 2 ∨ j = 3 ∨ j = 4 ∨ j = 5 := by omega
  rcases this with rfl | rfl | rfl | rfl | rfl | rfl <;> simp [Ins.cells]

def cutOff (k r : Nat) : Nat := if r = 1 then 6 * k else 6 * k + 1 * 6
theorem run_pool_cut (g k r : Nat) (hr : 1 ≤ r) (hr2 : r ≤ 16) (W : World) : (Instr.slice 93 (.slice (some ⟨g, 6 * k, none⟩) r r) (some (.int .i64 1)) none none).run Tryd.prog W = .ok (.slice (some ⟨g, cutOff k r, none⟩) (r - 1) (r - 1)) W := by
  have : r = 1 ∨ r = 2 ∨ r = 3 ∨ r = 4 ∨ r = 5 ∨ r = 6 ∨ r = 7 ∨ r = 8 ∨ r = 9 ∨ r = 10 ∨ r = 11 ∨ r = 12 ∨ r = 13 ∨ r = 14 ∨ r = 15 ∨ r = 16 := by omega
  rcases this with rfl | rfl | rfl | rfl | rfl | rfl | rfl | rfl | rfl | rfl | rfl | rfl | rfl | rfl | rfl | rfl <;> (show _ = _; kernel_rfl)

/-- The pool of the compiler is not empty. -/
def PoolFull (w : World) (B : Nat) (pl : Value) (ps : List (Nat × Nat)) (g k r : Nat) : Prop :=
  pl = .slice (some ⟨g, 6 * k, none⟩) r r ∧ 1 ≤ r ∧ k + r = 16 ∧ B ≤ g ∧ ∀ k', k ≤ k' → k' < 16 → InsAt w (g, k') .mtch ∧ (g, k') ∉ ps

theorem pool_new {w : World} {B : Nat} {ps : List (Nat × Nat)} (hB : B ≤ w.heap.size) (hps : ∀ s, s ∈ ps → s.1 < w.heap.size) : PoolFull (w.alloc (.cells poolCells.toArray 105)) B (.slice (some ⟨w.heap.size, 0, none⟩) 16 16) ps w.heap.size 0 16 := by
  refine ⟨rfl, by decide, rfl, hB, fun k' _ hk => ⟨⟨⟨_, Blk.new w poolCells 105⟩, fun j v hj => ?_⟩, fun hm => ?_⟩⟩
  · exact (Blk.new w poolCells 105).cell _ (pool_at hk hj)
  · have := hps _ hm
    exact absurd this (Nat.lt_irrefl _)

section
variable {w w' : World} {B cb : Nat} {q3 q4 q5 q6 : Value} {n : Nat} {p : List Ins} {pv pl : Value} {ps : List (Nat × Nat)}

theorem CB.ps_lt (h : CB w B cb q3 q4 q5 q6 n p pv pl ps) : ∀ s, s ∈ ps → s.1 < w.heap.size := by
  intro s hs
  obtain ⟨i, hi⟩ := List.mem_iff_getElem?.1 hs
  have hl := (List.getElem?_eq_some_iff.1 hi).1
  rw [h.len] at hl
  exact (h.at_ i s _ hi (List.getElem?_eq_getElem hl)).1.lt

/-- The pool's field is written. -/
theorem CB.setPool (h : CB w B cb q3 q4 q5 q6 n p pv pl ps) {pl' : Value} (hp : PoolOk w B pl' ps) : CB (w.setCell ⟨cb, 2, none⟩ pl') B cb q3 q4 q5 q6 n p pv pl' ps ∧ Fr (fun k => k = cb) w (w.setCell ⟨cb, 2, none⟩ pl') := by
  have hF : Fr (fun k => k = cb) w (w.setCell ⟨cb, 2, none⟩ pl') := Fr.setCell (F := fun k => k = cb) (p := ⟨cb, 2, none⟩) (Fr.refl _ w) (fun _ => rfl) _
  have hn : ∀ g cs, Blk w g cs 105 → ¬ (g = cb) := fun g cs hg e => by subst e; exact absurd (h.hb.inj hg).2 (by decide)
  refine ⟨⟨h.hb.set 2 pl', h.len, own_fr h.own hF (fun k hk e => by subst e; exact own_ne_blk h.own h.hb (by decide) hk), h.nle, fun i s x hs hx => ?_, h.nodup, hp.fr hF hn, h.geb⟩, hF⟩
  obtain ⟨h1, h2⟩ := h.at_ i s x hs hx
  obtain ⟨cs, hb⟩ := h1.blk
  exact ⟨h1.fr hF (hn _ cs hb), h2⟩

/-- One more instruction is taken from the pool. -/
theorem CB.take (h : CB w B cb q3 q4 q5 q6 n p pv pl ps) {g k r : Nat} (hp : PoolFull w B pl ps g k r) :
    CB (w.setCell ⟨cb, 2, none⟩ (.slice (some ⟨g, cutOff k r, none⟩) (r - 1) (r - 1))) B cb q3 q4 q5 q6 n (p ++ [.mtch]) pv (.slice (some ⟨g, cutOff k r, none⟩) (r - 1) (r - 1)) (ps ++ [(g, k)]) ∧
      Fr (fun i => i = cb) w (w.setCell ⟨cb, 2, none⟩ (.slice (some ⟨g, cutOff k r, none⟩) (r - 1) (r - 1))) := by
  obtain ⟨h1, h2, h3, h4, h5⟩ := hp
  have hk := h5 k (Nat.le_refl _) (by omega)
  have hle : n ≤ ps.length := by rw [h.len]; exact h.nle
  have htk : (ps ++ [(g, k)]).take n = ps.take n := by rw [List.take_append_of_le_length hle]
  have hpool : ∀ qs, (∀ s, s ∈ qs → s ∈ ps ∨ s = (g, k)) → PoolOk w B (.slice (some ⟨g, cutOff k r, none⟩) (r - 1) (r - 1)) qs := by
    intro qs hqs
    refine ⟨_, r - 1, rfl, ?_⟩
    by_cases e : r = 1
    · left; omega
    · right
      refine ⟨g, k + 1, by rw [cutOff, if_neg e]; congr 2, by omega, h4, fun k' h7 h8 => ⟨(h5 k' (by omega) h8).1, fun hm => ?_⟩⟩
      rcases hqs _ hm with hm | hm
      · exact (h5 k' (by omega) h8).2 hm
      · simp at hm; omega
  obtain ⟨hc, hF⟩ := h.setPool (hpool ps (fun s hs => .inl hs))
  have hn : ∀ g cs, Blk w g cs 105 → ¬ (g = cb) := fun g cs hg e => by subst e; exact absurd (h.hb.inj hg).2 (by decide)
  obtain ⟨cs, hgb⟩ := hk.1.blk
  refine ⟨⟨hc.hb, by simp [h.len], by rw [htk]; exact hc.own, by simp; have := h.nle; omega, fun i s x hs hx => ?_, ?_, (hpool _ (fun s hs => by simpa using hs)).fr hF hn, h.geb⟩, hF⟩
  · rcases snoc_inv hs with hs | ⟨e1, rfl⟩
    · rcases snoc_inv hx with hx | ⟨e2, rfl⟩
      · exact hc.at_ i s x hs hx
      · have := (List.getElem?_eq_some_iff.1 hs).1
        have := h.len
        omega
    · rcases snoc_inv hx with hx | ⟨e2, rfl⟩
      · have := (List.getElem?_eq_some_iff.1 hx).1
        have := h.len
        omega
      · exact ⟨hk.1.fr hF (hn _ cs hgb), h4⟩
  · rw [List.nodup_append]
    refine ⟨h.nodup, by simp, fun a ha b hb => ?_⟩
    simp at hb; subst hb
    intro e; subst e
    exact hk.2 ha
end

set_option maxRecDepth 100000 in
set_option maxHeartbeats 1000000 in
theorem alloc_calls {w : World} {B cb : Nat} {q3 q4 q5 q6 : Value} {n : Nat} {p : List Ins} {pv pl : Value} {ps : List (Nat × Nat)} (h : CB w B cb q3 q4 q5 q6 n p pv pl ps) (hB : B ≤ w.heap.size) :
    Calls Tryd.prog 39 #[.pointer (some ⟨cb, 0, none⟩)] w fun e w' => ∃ (g k : Nat) (pl' : Value), e = .returned (.pointer (some ⟨g, 6 * k, none⟩)) ∧ CB w' B cb q3 q4 q5 q6 n (p ++ [.mtch]) pv pl' (ps ++ [(g, k)]) ∧ Fr (fun i => i = cb) w w' := by
  obtain ⟨A, r, rfl, hp⟩ := h.pool
  have hc2 := h.hb.cell 2 rfl
  have hf2 := h.hb.frz 2
  have hmk := run_mk_pool
  have hc2a : (w.alloc (.cells poolCells.toArray 105)).cell? ⟨cb, 2, none⟩ = some (.slice A r r) := (h.hb.alloc _).cell 2 rfl
  have hf2a : (w.alloc (.cells poolCells.toArray 105)).frozen? ⟨cb, 2, none⟩ = false := (h.hb.alloc _).frz 2
  have HH := Lib.hid h
  clear h
  go_enter Tryd.func39, Tryd.ntmps39
  go_upto_if 9 with fail
  go_cut [] (fun wx => ∃ pl' g k r', CB wx B cb q3 q4 q5 q6 n p pv pl' ps ∧ PoolFull wx B pl' ps g k r' ∧ Fr (fun i => i = cb) w wx)
  case first =>
    by_cases hr : r = 0
    · subst hr
      go_wp2_with fail
      go_meet
      have h := HH.out
      have hF : Fr (fun i => i = cb) w (w.alloc (.cells poolCells.toArray 105)) := (Fr.refl _ w).alloc _
      have h1 : CB (w.alloc (.cells poolCells.toArray 105)) B cb q3 q4 q5 q6 n p pv (.slice A 0 0) ps := h.fr ((Fr.refl (fun _ => False) w).alloc _) (fun h => h) (fun _ _ h => h) (fun _ _ _ h => h)
      have hpn := pool_new (w := w) (B := B) (ps := ps) hB h.ps_lt
      have hok : PoolOk (w.alloc (.cells poolCells.toArray 105)) B (.slice (some ⟨w.heap.size, 0, none⟩) 16 16) ps := ⟨_, 16, rfl, .inr ⟨w.heap.size, 0, rfl, rfl, hB, hpn.2.2.2.2⟩⟩
      obtain ⟨h2, hF2⟩ := h1.setPool hok
      have hne : ∀ g cs, Blk (w.alloc (.cells poolCells.toArray 105)) g cs 105 → ¬ (g = cb) := fun g cs hg e => by subst e; exact absurd (h1.hb.inj hg).2 (by decide)
      refine ⟨_, w.heap.size, 0, 16, h2, ⟨rfl, by decide, rfl, hB, fun k' h7 h8 => ⟨?_, (hpn.2.2.2.2 k' h7 h8).2⟩⟩, hF.trans hF2 (fun _ _ h => h)⟩
      have hi := (hpn.2.2.2.2 k' h7 h8).1
      obtain ⟨cs, hb⟩ := hi.blk
      exact hi.fr hF2 (hne _ cs hb)
    · rcases hp with hp | ⟨g, k, rfl, hk, hBg, hins⟩
      · exact absurd hp hr
      have e1 : ¬ ((r : Int) ≤ 0) := by omega
      go_wp2_with fail
      go_meet
      exact ⟨_, g, k, r, HH.out, ⟨rfl, by omega, hk, hBg, hins⟩, Fr.refl _ w⟩
  case rest =>
  obtain ⟨pl', g, k, r', h1, hpf, hF⟩ := hcut
  have hc2 := h1.hb.cell 2 rfl
  have hf2 := h1.hb.frz 2
  obtain ⟨h2, hF2⟩ := h1.take hpf
  obtain ⟨rfl, hr1, hkr, hBg, hins⟩ := hpf
  have hcut := run_pool_cut g k r' hr1 (by omega)
  have e1 : (0 : Int) < (r' : Int) := by omega
  have HR := Lib.hid (And.intro h2 (And.intro hF2 hF))
  clear h1 h2 hF2 hF hins hp
  go_wp2_with fail
  go_ret
  obtain ⟨h2, hF2, hF⟩ := HR.out
  exact ⟨g, k, _, rfl, h2, hF.trans hF2 (fun _ _ h => h)⟩
end Go.Proofs.YtjeklnbfpehbeaaDoor

/- The small methods of package regexp's compiler, walked: top, emptySplit, emptyJump, setSplit, setJump, checkSize. Condition: fewer than 10^9 instructions. -/
namespace Go.Proofs.YtjeklnbfpehbeaaDoor
open Go.RowKit

/-- The compiler's own blocks: itself, the slices of pointers, the pools. -/
def CT (w : World) (B k : Nat) : Prop := B ≤ k ∧ ∃ cs t, w.heap[k]? = some (.cells cs t (0, 0)) ∧ (t = 99 ∨ t = 101 ∨ t = 105)

theorem ct_back {w w' : World} {B : Nat} (h : Fr (CT w B) w w') : ∀ i, i < w.heap.size → CT w' B i → CT w B i := by
  intro i hi hc
  by_cases e : CT w B i
  · exact e
  · obtain ⟨h1, cs, t, h2, h3⟩ := hc
    exact absurd ⟨h1, cs, t, (h.block i hi e).symm.trans h2, h3⟩ e
theorem ct_trans {w w1 w2 : World} {B : Nat} (h : Fr (CT w B) w w1) (k : Fr (CT w1 B) w1 w2) : Fr (CT w B) w w2 := h.trans k (ct_back h)
theorem ct_drop {w w1 : World} {B : Nat} (h : Fr (fun _ => False) w w1) : Fr (CT w B) w w1 := h.mono (fun _ _ h => h.elim)
theorem blk_ct {w : World} {B k : Nat} {cs : List Value} {t : TypeId} (h : Blk w k cs t) (h1 : t ≠ 99) (h2 : t ≠ 101) (h3 : t ≠ 105) : ¬ CT w B k := by
  rintro ⟨_, cs', t', h4, h5⟩
  unfold Blk at h
  rw [h] at h4
  injection h4 with h4
  injection h4 with _ h4
  subst h4
  rcases h5 with h5 | h5 | h5
  · exact h1 h5
  · exact h2 h5
  · exact h3 h5
theorem own_ct {w : World} {base n B : Nat} {e : TypeId} {size : Nat} {v : Value} {xs : List Value} (h : w.ownsRow base e size v n xs) (h1 : e ≠ 99) (h2 : e ≠ 101) (h3 : e ≠ 105) : ∀ k, v.ownBlock = some k → ¬ CT w B k := by
  intro k hk
  rcases h.2 with ⟨rfl, _⟩ | ⟨g, cap, cur, rfl, _, hg, _⟩
  · simp [Value.ownBlock] at hk
  · simp [Value.ownBlock] at hk
    subst hk
    exact blk_ct (cs := cur.toList) (by unfold Blk; simpa using hg) h1 h2 h3

section
variable {w w' : World} {B cb : Nat} {q3 q4 q5 q6 : Value} {n : Nat} {p : List Ins} {pv pl : Value} {ps : List (Nat × Nat)}

theorem CB.ct (h : CB w B cb q3 q4 q5 q6 n p pv pl ps) : CT w B cb := ⟨h.geb, _, _, h.hb, .inl rfl⟩
theorem CB.ct_pool (h : CB w B cb q3 q4 q5 q6 n p pv pl ps) {i : Nat} {s : Nat × Nat} {x : Ins} (hs : ps[i]? = some s) (hx : p[i]? = some x) : CT w B s.1 := by
  obtain ⟨h1, h2⟩ := h.at_ i s x hs hx
  obtain ⟨cs, hb⟩ := h1.blk
  exact ⟨h2, _, _, hb, .inr (.inr rfl)⟩
theorem CB.ct_row (h : CB w B cb q3 q4 q5 q6 n p pv pl ps) {k : Nat} (hk : pv.ownBlock = some k) : CT w B k := by
  rcases h.own.2 with ⟨rfl, _⟩ | ⟨g, cap, cur, rfl, hb, hg, _⟩
  · simp [Value.ownBlock] at hk
  · simp [Value.ownBlock] at hk
    subst hk
    exact ⟨hb, _, _, hg, .inr (.inl rfl)⟩

/-- One more instruction is pointed to. -/
theorem CB.push {w1 : World} {s : Nat × Nat} {pv' : Value} (h : CB w B cb q3 q4 q5 q6 n p pv pl ps) (hs : ps[n]? = some s) (ho : w1.ownsRow B 101 1 pv' (n + 1) ((ps.take n).map ptrTo ++ [ptrTo s])) (hf : Fr (fun k => pv.ownBlock = some k) w w1) :
    CB (w1.setCell ⟨cb, 1, none⟩ pv') B cb q3 q4 q5 q6 (n + 1) p pv' pl ps ∧ Fr (CT w B) w (w1.setCell ⟨cb, 1, none⟩ pv') := by
  have hF : Fr (fun k => k = cb) w1 (w1.setCell ⟨cb, 1, none⟩ pv') := Fr.setCell (F := fun k => k = cb) (p := ⟨cb, 1, none⟩) (Fr.refl _ w1) (fun _ => rfl) _
  have hb1 := h.hb.fr hf (own_ne_blk h.own h.hb (by decide))
  have hn : ∀ g cs, Blk w1 g cs 105 → ¬ (g = cb) := fun g cs hg e => by subst e; exact absurd (hb1.inj hg).2 (by decide)
  have hnp : ∀ g cs, Blk w g cs 105 → ¬ (pv.ownBlock = some g) := fun g cs hg => own_ne_blk h.own hg (by decide)
  have hlt : n < ps.length := (List.getElem?_eq_some_iff.1 hs).1
  refine ⟨⟨hb1.set 1 pv', h.len, ?_, by have := h.len; omega, fun i s' x hs' hx => ?_, h.nodup, (h.pool.fr hf hnp).fr hF hn, h.geb⟩, ?_⟩
  · have e : (ps.take (n + 1)).map ptrTo = (ps.take n).map ptrTo ++ [ptrTo s] := by rw [take_snoc_getElem? hs]; simp
    rw [e]
    exact own_fr ho hF (fun k hk e => by subst e; exact own_ne_blk ho hb1 (by decide) hk)
  · obtain ⟨h1, h2⟩ := h.at_ i s' x hs' hx
    obtain ⟨cs, hb⟩ := h1.blk
    have h3 := h1.fr hf (hnp _ cs hb)
    obtain ⟨cs', hb'⟩ := h3.blk
    exact ⟨h3.fr hF (hn _ cs' hb'), h2⟩
  · exact (hf.mono (G := CT w B) (fun k _ hk => h.ct_row hk)).trans hF (fun k _ hk => by subst hk; exact h.ct)
end

/-- The compiler whose instructions are all pointed to. -/
def Cm (w : World) (B cb : Nat) (q3 q4 q5 q6 : Value) (p : List Ins) : Prop := ∃ pv pl ps, CB w B cb q3 q4 q5 q6 p.length p pv pl ps

theorem Cm.drop {w w' : World} {B cb : Nat} {q3 q4 q5 q6 : Value} {p : List Ins} (h : Cm w B cb q3 q4 q5 q6 p) (hf : Fr (fun _ => False) w w') : Cm w' B cb q3 q4 q5 q6 p := by
  obtain ⟨pv, pl, ps, h⟩ := h
  exact ⟨pv, pl, ps, h.fr hf (fun h => h) (fun _ _ h => h) (fun _ _ _ h => h)⟩

theorem top_calls {w : World} {B cb : Nat} {q3 q4 q5 q6 : Value} {p : List Ins} (h : Cm w B cb q3 q4 q5 q6 p) (hl : p.length ≤ 1000000000) : Calls Tryd.prog 53 #[.pointer (some ⟨cb, 0, none⟩)] w fun e w' => e = .returned (.int .u64 (p.length : Int)) ∧ w = w' := by
  obtain ⟨pv, pl, ps, h⟩ := h
  obtain ⟨A, c, rfl⟩ : ∃ A c, pv = .slice A p.length c := by
    rcases h.own.2 with ⟨rfl, h0⟩ | ⟨g, cap, cur, rfl, _⟩
    · exact ⟨none, 0, by rw [h0]⟩
    · exact ⟨_, cap, rfl⟩
  have hc := h.hb.cell 1 rfl
  have e1 : IntKind.u64.wrap (p.length : Int) = (p.length : Int) := IntWalk.u64_in _ (by omega)
  clear h
  generalize p.length = n at *
  go_enter Tryd.func53, Tryd.ntmps53
  go_wp2
  go_ret
  exact ⟨rfl, rfl⟩

section
variable {ops : Array Oper} {rest : List Oper} {o : Oper} {a : Act} {Q : Exit → Act → World → Prop}
/-- 'app1', the new block's number named. -/
theorem app1b (W : World) (b : Nat) (hb : W.heap.size = b) (hgd : o.guard = none) (s x : Operand) (t : TypeId) (ho : o.op = .call { callee := .builtin .append, args := #[s, x], argTypes := #[t, t] })
    (base : Nat) (e : TypeId) (z : Value) (size bytes : Nat) (ht : Tryd.prog.underlying t = some (.slice e)) (hinfo : (Tryd.prog.info? e).map (fun i => (i.zero, i.size, i.bytes)) = some (some z, size, bytes)) (hzs : z.cells.size = size) (hsz : 0 < size)
    (v : Value) (n : Nat) (xs : List Value) (news : List Value) (hs : a.eval s = v) (hx : a.eval x = .slice (some ⟨b, 0, none⟩) 1 1) (hown : W.ownsRow base e size v n xs) (hl : news.length = size) (h1 : ∀ u ∈ news, u.oneCell' = true)
    (hbytes : (n + 1) * bytes ≤ 140737488355328) (hb0 : 0 < bytes) (hbase : base ≤ W.heap.size)
    (h : ∀ v' w', w'.ownsRow base e size v' (n + 1) (xs ++ news) → Fr (fun k => v.ownBlock = some k) W w' → (v'.ownBlock = v.ownBlock ∨ ∃ b, v'.ownBlock = some b ∧ W.heap.size ≤ b) → wpList Tryd.prog ops Q rest (a.put o.dst v') w') :
    wpList Tryd.prog ops Q (o :: rest) a (W.alloc (.cells news.toArray e)) := by
  subst hb
  exact app1 W hgd s x t ho base e z size bytes ht hinfo hzs hsz v n xs news hs hx hown hl h1 hbytes hb0 hbase h
end
theorem own_slc {w : World} {base n : Nat} {e : TypeId} {size : Nat} {v : Value} {xs : List Value} (h : w.ownsRow base e size v (n + 1) xs) : ∃ g c, v = .slice (some ⟨g, 0, none⟩) (n + 1) c := by
  rcases h.2 with ⟨_, h0⟩ | ⟨g, cap, cur, rfl, _⟩
  · omega
  · exact ⟨g, cap, rfl⟩
theorem size_setCell (w : World) (a : Addr) (v : Value) : (w.setCell a v).heap.size = w.heap.size := by simp [World.setCell]

theorem split_cells : (Ins.split 0 0).cells = Ins.mtch.cells.set 0 (.int .i64 2) := rfl
theorem jmp_cells : (Ins.jmp 0).cells = Ins.mtch.cells.set 0 (.int .i64 1) := rfl
theorem rng_cells : (Ins.rng 0 0).cells = Ins.mtch.cells.set 0 (.int .i64 3) := rfl
theorem set_last {α : Type} (l : List α) (x y : α) : (l ++ [x]).set l.length y = l ++ [y] := by simp

set_option maxRecDepth 100000 in
set_option maxHeartbeats 1000000 in
theorem split_calls {w : World} {B cb : Nat} {q3 q4 q5 q6 : Value} {p : List Ins} (h : Cm w B cb q3 q4 q5 q6 p) (hB : B ≤ w.heap.size) (hl : p.length ≤ 1000000) :
    Calls Tryd.prog 52 #[.pointer (some ⟨cb, 0, none⟩)] w fun e w' => e = .returned (.int .u64 (p.length : Int)) ∧ Cm w' B cb q3 q4 q5 q6 (p ++ [.split 0 0]) ∧ Fr (CT w B) w w' := by
  obtain ⟨pv, pl, ps, h⟩ := h
  have hal := alloc_calls h hB
  have HH := Lib.hid h
  clear h
  go_enter Tryd.func52, Tryd.ntmps52
  go_wp2_with fail
  refine hal.mono ?_
  rintro e w1 ⟨g, k, pl', rfl, h1, hF1⟩
  have hps : (ps ++ [(g, k)])[p.length]? = some (g, k) := by rw [← HH.out.len]; simp
  have hpx : (p ++ [.mtch])[p.length]? = some .mtch := by simp
  have h2 := h1.setAt hps hpx (by decide) split_cells
  rw [set_last] at h2
  have hsx := (h1.at_ _ _ _ hps hpx).1
  have c0 : w1.cell? ⟨g, 6 * k, none⟩ = some (.int .i64 0) := hsx.cell 0 (.int .i64 0) rfl
  have f0 : w1.frozen? ⟨g, 6 * k, none⟩ = false := hsx.frz (6 * k)
  have hF2 : Fr (CT w1 B) w1 (w1.setCell ⟨g, 6 * k, none⟩ (.int .i64 2)) := Fr.setCell (Fr.refl _ w1) (fun _ => h1.ct_pool hps hpx) _
  simp only [Nat.add_zero] at h2
  have hbk := h2.hb
  have b1 := hbk.cell 1 rfl
  have hBs : B ≤ (w1.setCell ⟨g, 6 * k, none⟩ (.int .i64 2)).heap.size := Nat.le_trans hB (Nat.le_trans hF1.size hF2.size)
  have hown := h2.own
  have H2 := Lib.hid (And.intro h2 (And.intro hF2 (And.intro hF1 (And.intro hps h1.ct))))
  clear h1 h2 hF1 hF2 hps hpx hsx hal
  go_wp2_with (first
    | (at_builtin; refine app1b (w1.setCell ⟨g, 6 * k, none⟩ (.int .i64 2)) w1.heap.size (size_setCell _ _ _) rfl _ _ 60 rfl B 101 (.pointer none) 1 8 Tryd.underlying60 (by kernel_rfl) rfl (by decide) pv p.length _ [.pointer (some ⟨g, 6 * k, none⟩)] rfl rfl hown rfl (by simp [Value.oneCell']) (by omega) (by decide) hBs ?_; intro pv' w2 ho2 hf2 hn2; obtain ⟨g2, c2, rfl⟩ := own_slc ho2; have hbk2 := hbk.fr hf2 (own_ne_blk hown hbk (by decide)); have b2 := hbk2.cell 1 rfl; have fb2 := hbk2.frz 1)
    | fail)
  obtain ⟨h2, hF2, hF1, hps, hct⟩ := H2.out
  obtain ⟨h3, hF3⟩ := h2.push hps ho2 hf2
  have hcm : Cm (w2.setCell ⟨cb, 1, none⟩ (.slice (some ⟨g2, 0, none⟩) (p.length + 1) c2)) B cb q3 q4 q5 q6 (p ++ [.split 0 0]) := ⟨_, _, _, by rw [List.length_append]; exact h3⟩
  have htop := top_calls hcm (by simp; omega)
  rw [List.length_append] at htop
  simp only [List.length_cons, List.length_nil, Nat.zero_add] at htop
  have hFF : Fr (CT w B) w (w2.setCell ⟨cb, 1, none⟩ (.slice (some ⟨g2, 0, none⟩) (p.length + 1) c2)) := ct_trans (ct_trans (hF1.mono (fun k _ hk => by subst hk; exact HH.out.ct)) hF2) hF3
  have HF := Lib.hid (And.intro hcm hFF)
  have e1 : IntKind.u64.wrap (((p.length + 1 : Nat) : Int) - 1) = (p.length : Int) := by rw [IntWalk.u64_in _ (by omega)]; omega
  clear h2 hF2 hF1 hps hct h3 hF3 hcm hFF ho2 hf2 hn2 hbk hbk2
  go_wp2_with fail
  refine htop.mono ?_
  rintro e w3 ⟨rfl, rfl⟩
  go_wp2_with fail
  go_ret
  exact ⟨rfl, HF.out.1, HF.out.2⟩
set_option maxRecDepth 100000 in
set_option maxHeartbeats 1000000 in
theorem jump_calls {w : World} {B cb : Nat} {q3 q4 q5 q6 : Value} {p : List Ins} (h : Cm w B cb q3 q4 q5 q6 p) (hB : B ≤ w.heap.size) (hl : p.length ≤ 1000000) :
    Calls Tryd.prog 54 #[.pointer (some ⟨cb, 0, none⟩)] w fun e w' => e = .returned (.int .u64 (p.length : Int)) ∧ Cm w' B cb q3 q4 q5 q6 (p ++ [.jmp 0]) ∧ Fr (CT w B) w w' := by
  obtain ⟨pv, pl, ps, h⟩ := h
  have hal := alloc_calls h hB
  have HH := Lib.hid h
  clear h
  go_enter Tryd.func54, Tryd.ntmps54
  go_wp2_with fail
  refine hal.mono ?_
  rintro e w1 ⟨g, k, pl', rfl, h1, hF1⟩
  have hps : (ps ++ [(g, k)])[p.length]? = some (g, k) := by rw [← HH.out.len]; simp
  have hpx : (p ++ [.mtch])[p.length]? = some .mtch := by simp
  have h2 := h1.setAt hps hpx (by decide) jmp_cells
  rw [set_last] at h2
  have hsx := (h1.at_ _ _ _ hps hpx).1
  have c0 : w1.cell? ⟨g, 6 * k, none⟩ = some (.int .i64 0) := hsx.cell 0 (.int .i64 0) rfl
  have f0 : w1.frozen? ⟨g, 6 * k, none⟩ = false := hsx.frz (6 * k)
  have hF2 : Fr (CT w1 B) w1 (w1.setCell ⟨g, 6 * k, none⟩ (.int .i64 1)) := Fr.setCell (Fr.refl _ w1) (fun _ => h1.ct_pool hps hpx) _
  simp only [Nat.add_zero] at h2
  have hbk := h2.hb
  have b1 := hbk.cell 1 rfl
  have hBs : B ≤ (w1.setCell ⟨g, 6 * k, none⟩ (.int .i64 1)).heap.size := Nat.le_trans hB (Nat.le_trans hF1.size hF2.size)
  have hown := h2.own
  have H2 := Lib.hid (And.intro h2 (And.intro hF2 (And.intro hF1 (And.intro hps h1.ct))))
  clear h1 h2 hF1 hF2 hps hpx hsx hal
  go_wp2_with (first
    | (at_builtin; refine app1b (w1.setCell ⟨g, 6 * k, none⟩ (.int .i64 1)) w1.heap.size (size_setCell _ _ _) rfl _ _ 60 rfl B 101 (.pointer none) 1 8 Tryd.underlying60 (by kernel_rfl) rfl (by decide) pv p.length _ [.pointer (some ⟨g, 6 * k, none⟩)] rfl rfl hown rfl (by simp [Value.oneCell']) (by omega) (by decide) hBs ?_; intro pv' w2 ho2 hf2 hn2; obtain ⟨g2, c2, rfl⟩ := own_slc ho2; have hbk2 := hbk.fr hf2 (own_ne_blk hown hbk (by decide)); have b2 := hbk2.cell 1 rfl; have fb2 := hbk2.frz 1)
    | fail)
  obtain ⟨h2, hF2, hF1, hps, hct⟩ := H2.out
  obtain ⟨h3, hF3⟩ := h2.push hps ho2 hf2
  have hcm : Cm (w2.setCell ⟨cb, 1, none⟩ (.slice (some ⟨g2, 0, none⟩) (p.length + 1) c2)) B cb q3 q4 q5 q6 (p ++ [.jmp 0]) := ⟨_, _, _, by rw [List.length_append]; exact h3⟩
  have htop := top_calls hcm (by simp; omega)
  rw [List.length_append] at htop
  simp only [List.length_cons, List.length_nil, Nat.zero_add] at htop
  have hFF : Fr (CT w B) w (w2.setCell ⟨cb, 1, none⟩ (.slice (some ⟨g2, 0, none⟩) (p.length + 1) c2)) := ct_trans (ct_trans (hF1.mono (fun k _ hk => by subst hk; exact HH.out.ct)) hF2) hF3
  have HF := Lib.hid (And.intro hcm hFF)
  have e1 : IntKind.u64.wrap (((p.length + 1 : Nat) : Int) - 1) = (p.length : Int) := by rw [IntWalk.u64_in _ (by omega)]; omega
  clear h2 hF2 hF1 hps hct h3 hF3 hcm hFF ho2 hf2 hn2 hbk hbk2
  go_wp2_with fail
  refine htop.mono ?_
  rintro e w3 ⟨rfl, rfl⟩
  go_wp2_with fail
  go_ret
  exact ⟨rfl, HF.out.1, HF.out.2⟩

theorem cm_get {w : World} {B cb : Nat} {q3 q4 q5 q6 : Value} {p : List Ins} {pv pl : Value} {ps : List (Nat × Nat)} (h : CB w B cb q3 q4 q5 q6 p.length p pv pl ps) {i : Nat} {x : Ins} (hi : p[i]? = some x) :
    ∃ g k a c, ps[i]? = some (g, k) ∧ pv = .slice (some ⟨a, 0, none⟩) p.length c ∧ w.cell? ⟨a, i, none⟩ = some (.pointer (some ⟨g, 6 * k, none⟩)) ∧ InsAt w (g, k) x := by
  have hil := (List.getElem?_eq_some_iff.1 hi).1
  have hil' : i < ps.length := by rw [h.len]; exact hil
  obtain ⟨⟨g, k⟩, hps⟩ : ∃ s, ps[i]? = some s := ⟨_, List.getElem?_eq_getElem hil'⟩
  obtain ⟨hx, -⟩ := h.at_ i _ x hps hi
  obtain ⟨a, c, e, -, -, hc, -⟩ := own_cell h.own (j := i) (u := ptrTo (g, k)) (by
    rw [List.getElem?_map, List.getElem?_take_of_lt hil, hps]; rfl)
  exact ⟨g, k, a, c, hps, e, hc, hx⟩

set_option maxRecDepth 100000 in
set_option maxHeartbeats 1000000 in
theorem setsplit_calls {w : World} {B cb : Nat} {q3 q4 q5 q6 : Value} {p : List Ins} (h : Cm w B cb q3 q4 q5 q6 p) {i a b : Nat} (hi : p[i]? = some (.split a b)) (c d : Nat) :
    Calls Tryd.prog 55 #[.pointer (some ⟨cb, 0, none⟩), .int .u64 (i : Int), .int .u64 (c : Int), .int .u64 (d : Int)] w fun e w' => e = .returned (.tuple #[]) ∧ Cm w' B cb q3 q4 q5 q6 (p.set i (.split c d)) ∧ Fr (CT w B) w w' := by
  obtain ⟨pv, pl, ps, h⟩ := h
  have hil := (List.getElem?_eq_some_iff.1 hi).1
  obtain ⟨g, k, pa, cp, hps, rfl, hc, hx⟩ := cm_get h hi
  have h1 := h.setAt (y := .split c b) hps hi (j := 2) (v := .int .u64 (c : Int)) (by decide) rfl
  have hi1 : (p.set i (.split c b))[i]? = some (.split c b) := List.getElem?_set_self hil
  have h2 := h1.setAt (y := .split c d) hps hi1 (j := 3) (v := .int .u64 (d : Int)) (by decide) rfl
  rw [List.set_set] at h2
  have hF1 : Fr (CT w B) w (w.setCell ⟨g, 6 * k + 2, none⟩ (.int .u64 (c : Int))) := Fr.setCell (Fr.refl _ w) (fun _ => h.ct_pool hps hi) _
  have hF2 := ct_trans hF1 (Fr.setCell (p := ⟨g, 6 * k + 3, none⟩) (Fr.refl _ _) (fun _ => h1.ct_pool hps hi1) (.int .u64 (d : Int)))
  have hx1 := (h1.at_ i _ _ hps hi1).1
  have b1 := h.hb.cell 1 rfl
  have c2 : w.cell? ⟨g, 6 * k + 2, none⟩ = some (.int .u64 (a : Int)) := hx.cell 2 _ rfl
  have f2 : w.frozen? ⟨g, 6 * k + 2, none⟩ = false := hx.frz _
  have c3 : (w.setCell ⟨g, 6 * k + 2, none⟩ (.int .u64 (c : Int))).cell? ⟨g, 6 * k + 3, none⟩ = some (.int .u64 (b : Int)) := hx1.cell 3 _ rfl
  have f3 : (w.setCell ⟨g, 6 * k + 2, none⟩ (.int .u64 (c : Int))).frozen? ⟨g, 6 * k + 3, none⟩ = false := hx1.frz _
  have hcm : Cm _ B cb q3 q4 q5 q6 (p.set i (.split c d)) := ⟨_, _, _, by rw [List.length_set]; exact h2⟩
  have HR := Lib.hid (And.intro hcm hF2)
  have e1 : (i : Int) < (p.length : Int) := by omega
  clear h h1 h2 hF1 hF2 hx hx1 hcm hi1 hi
  go_enter Tryd.func55, Tryd.ntmps55
  go_wp2
  go_end0
  exact ⟨rfl, HR.out.1, HR.out.2⟩

set_option maxRecDepth 100000 in
set_option maxHeartbeats 1000000 in
theorem setjump_calls {w : World} {B cb : Nat} {q3 q4 q5 q6 : Value} {p : List Ins} (h : Cm w B cb q3 q4 q5 q6 p) {i a : Nat} (hi : p[i]? = some (.jmp a)) (c : Nat) :
    Calls Tryd.prog 56 #[.pointer (some ⟨cb, 0, none⟩), .int .u64 (i : Int), .int .u64 (c : Int)] w fun e w' => e = .returned (.tuple #[]) ∧ Cm w' B cb q3 q4 q5 q6 (p.set i (.jmp c)) ∧ Fr (CT w B) w w' := by
  obtain ⟨pv, pl, ps, h⟩ := h
  have hil := (List.getElem?_eq_some_iff.1 hi).1
  obtain ⟨g, k, pa, cp, hps, rfl, hc, hx⟩ := cm_get h hi
  have h1 := h.setAt (y := .jmp c) hps hi (j := 1) (v := .int .u64 (c : Int)) (by decide) rfl
  have hF1 : Fr (CT w B) w (w.setCell ⟨g, 6 * k + 1, none⟩ (.int .u64 (c : Int))) := Fr.setCell (Fr.refl _ w) (fun _ => h.ct_pool hps hi) _
  have b1 := h.hb.cell 1 rfl
  have c2 : w.cell? ⟨g, 6 * k + 1, none⟩ = some (.int .u64 (a : Int)) := hx.cell 1 _ rfl
  have f2 : w.frozen? ⟨g, 6 * k + 1, none⟩ = false := hx.frz _
  have hcm : Cm _ B cb q3 q4 q5 q6 (p.set i (.jmp c)) := ⟨_, _, _, by rw [List.length_set]; exact h1⟩
  have HR := Lib.hid (And.intro hcm hF1)
  have e1 : (i : Int) < (p.length : Int) := by omega
  clear h h1 hF1 hx hcm hi
  go_enter Tryd.func56, Tryd.ntmps56
  go_wp2
  go_end0
  exact ⟨rfl, HR.out.1, HR.out.2⟩
end Go.Proofs.YtjeklnbfpehbeaaDoor

/- Two more methods of package regexp's compiler, walked: checkSize, compileUtf8Ranges. Condition: fewer than 10^6 instructions. -/
namespace Go.Proofs.YtjeklnbfpehbeaaDoor
open Go.RowKit

theorem Cm.drewN {w : World} {B cb : Nat} {q3 q4 q5 q6 : Value} {p : List Ins} (h : Cm w B cb q3 q4 q5 q6 p) (m : Nat) : Cm (w.drewN m) B cb q3 q4 q5 q6 p := h.drop ((Fr.refl _ w).drewN m)

set_option maxRecDepth 100000 in
set_option maxHeartbeats 1000000 in
theorem size_calls {w : World} {B cb : Nat} {q3 q4 q5 q6 : Value} {p : List Ins} {E : Value} (h : Cm w B cb q3 q4 q5 q6 p) (hl : p.length ≤ 1000000) (hE : w.cell? ⟨3, 0, none⟩ = some E) :
    Calls Tryd.prog 57 #[.pointer (some ⟨cb, 0, none⟩)] w fun e w' => e = .returned (if p.length ≤ 262144 then .nilIface else E) ∧ ∃ m, w' = w.drewN m := by
  obtain ⟨pv, pl, ps, h⟩ := h
  obtain ⟨A, c, rfl⟩ : ∃ A c, pv = .slice A p.length c := by
    rcases h.own.2 with ⟨rfl, h0⟩ | ⟨g, cap, cur, rfl, _⟩
    · exact ⟨none, 0, by rw [h0]⟩
    · exact ⟨_, cap, rfl⟩
  have c1 := h.hb.cell 1 rfl
  have c0 := h.hb.cell 0 rfl
  clear h
  generalize p.length = n at *
  have e1 : IntKind.i64.wrap ((n : Int) * 40) = (n : Int) * 40 := IntWalk.i64_in _ (by omega)
  have e2 : IntKind.u64.wrap ((n : Int) * 40) = (n : Int) * 40 := IntWalk.u64_in _ (by omega)
  by_cases hn : n ≤ 262144
  · rw [if_pos hn]
    have e3 : ¬ ((10485760 : Int) < (n : Int) * 40) := by omega
    go_enter Tryd.func57, Tryd.ntmps57
    go_wp2_with fail
    go_quiet (fail)
    go_wp2_with fail
    go_ret
    exact ⟨rfl, _, rfl⟩
  · rw [if_neg hn]
    have e3 : (10485760 : Int) < (n : Int) * 40 := by omega
    go_enter Tryd.func57, Tryd.ntmps57
    go_wp2_with fail
    go_quiet (fail)
    have hE' : ∀ m, (w.drewN m).cell? ⟨3, 0, none⟩ = some E := fun m => hE
    go_wp2_with fail
    go_ret
    exact ⟨rfl, _, rfl⟩
end Go.Proofs.YtjeklnbfpehbeaaDoor

/- The walk of '(*compiler).compileUtf8Ranges' of package regexp: a sequence of ranges of bytes becomes as many instructions. Condition: fewer than 10^6 instructions. -/
namespace Go.Proofs.YtjeklnbfpehbeaaDoor
open Go.RowKit

/-- The slice v of ranges reads as rs. -/
def SeqAt (w : World) (v : Value) (rs : List (Nat × Nat)) : Prop :=
  ∃ (A : Option Addr) (c : Nat), v = .slice A rs.length c ∧ ∀ (i : Nat) (r : Nat × Nat), rs[i]? = some r → r.1 < 256 ∧ r.2 < 256 ∧ ∃ b o cs, A = some ⟨b, o, none⟩ ∧ Blk w b cs 168 ∧ w.cell? ⟨b, o + i * 2, none⟩ = some (.int .u8 (r.1 : Int)) ∧ w.cell? ⟨b, o + i * 2 + 1, none⟩ = some (.int .u8 (r.2 : Int))

theorem SeqAt.fr {w w' : World} {v : Value} {rs : List (Nat × Nat)} {F : Nat → Prop} (h : SeqAt w v rs) (hf : Fr F w w') (hn : ∀ k cs, Blk w k cs 168 → ¬ F k) : SeqAt w' v rs := by
  obtain ⟨A, c, h1, h2⟩ := h
  refine ⟨A, c, h1, fun i r hr => ?_⟩
  obtain ⟨l1, l2, b, o, cs, h3, h4, h5, h6⟩ := h2 i r hr
  have := hn b cs h4
  exact ⟨l1, l2, b, o, cs, h3, h4.fr hf this, hf.cell h5 this, hf.cell h6 this⟩
theorem SeqAt.ct {w w' : World} {v : Value} {rs : List (Nat × Nat)} {B : Nat} (h : SeqAt w v rs) (hf : Fr (CT w B) w w') : SeqAt w' v rs :=
  h.fr hf (fun k cs hk => blk_ct hk (by decide) (by decide) (by decide))

def rngs (rs : List (Nat × Nat)) : List Ins := rs.map fun r => .rng r.1 r.2

set_option maxRecDepth 100000 in
set_option maxHeartbeats 2000000 in
theorem seq_calls {w : World} {B cb : Nat} {q3 q4 q5 q6 : Value} {p : List Ins} (h : Cm w B cb q3 q4 q5 q6 p) (hB : B ≤ w.heap.size) {v : Value} {rs : List (Nat × Nat)} (hs : SeqAt w v rs) (hl : p.length + rs.length ≤ 1000000) :
    Calls Tryd.prog 50 #[.pointer (some ⟨cb, 0, none⟩), v] w fun e w' => e = .returned (.tuple #[]) ∧ Cm w' B cb q3 q4 q5 q6 (p ++ rngs rs) ∧ Fr (CT w B) w w' := by
  obtain ⟨A, c, rfl, hcells⟩ := id hs
  clear hcells
  go_enter Tryd.func50, Tryd.ntmps50
  go_wp2_with fail
  go_loopg [9] (rs.length + 1) (fun g i wr => ∃ k : Nat, k ≤ rs.length ∧ g = rs.length - k + 1 ∧ i = .int .i64 (k : Int) ∧ Cm wr B cb q3 q4 q5 q6 (p ++ rngs (rs.take k)) ∧ Fr (CT w B) w wr)
  case atStart => exact ⟨0, Nat.zero_le _, by omega, rfl, by simpa [rngs] using h, Fr.refl _ _⟩
  case round =>
    obtain ⟨k, hk, hg, rfl, hcm, hF⟩ := hrel
    subst hg
    by_cases hlt : k < rs.length
    · obtain ⟨⟨lo, hi⟩, hr⟩ : ∃ r, rs[k]? = some r := ⟨_, List.getElem?_eq_getElem hlt⟩
      obtain ⟨A', c', he, hcells⟩ := hs.ct hF
      obtain ⟨l1, l2, b, o, cs, rfl, hb, c0, c1⟩ := hcells k _ hr
      obtain ⟨rfl, rfl⟩ : A = some ⟨b, o, none⟩ ∧ c = c' := by simpa using he
      have e1 : (k : Int) < (rs.length : Int) := by omega
      have hB1 : B ≤ wr.heap.size := Nat.le_trans hB hF.size
      clear hcells he
      simp only at c0 c1 l1 l2
      go_wp2_with fail
      have hFa : Fr (fun _ => False) wr (wr.alloc (.cells #[.int .u8 (lo : Int), .int .u8 (hi : Int)] 168)) := (Fr.refl _ wr).alloc _
      have hca := hcm.drop hFa
      obtain ⟨pv, pl, ps, hC⟩ := hca
      have hpl : (p ++ rngs (rs.take k)).length = p.length + k := by simp [rngs]; omega
      have hal := alloc_calls hC (Nat.le_trans hB1 hFa.size)
      have hnb : Blk (wr.alloc (.cells #[.int .u8 (lo : Int), .int .u8 (hi : Int)] 168)) wr.heap.size [.int .u8 (lo : Int), .int .u8 (hi : Int)] 168 := Blk.new wr [_, _] 168
      refine hal.mono ?_
      rintro e w1 ⟨g, m, pl', rfl, h1, hF1⟩
      have hlen := hC.len
      have hF1c := hF1.mono (G := CT (wr.alloc (.cells #[.int .u8 (lo : Int), .int .u8 (hi : Int)] 168)) B) (fun k _ hk => by subst hk; exact hC.ct)
      have hnb1 := hnb.fr hF1c (blk_ct hnb (by decide) (by decide) (by decide))
      generalize hP : p ++ rngs (rs.take k) = P at *
      have hps : (ps ++ [(g, m)])[P.length]? = some (g, m) := by rw [← hlen]; simp
      have hpx : (P ++ [.mtch])[P.length]? = some .mtch := by simp
      have h2 := h1.setAt hps hpx (by decide) rng_cells
      rw [set_last] at h2
      have hpx2 : (P ++ [.rng 0 0])[P.length]? = some (.rng 0 0) := by simp
      have h3 := h2.setAt (y := .rng lo 0) hps hpx2 (j := 4) (v := .int .u8 (lo : Int)) (by decide) rfl
      rw [set_last] at h3
      have hpx3 : (P ++ [.rng lo 0])[P.length]? = some (.rng lo 0) := by simp
      have h4 := h3.setAt (y := .rng lo hi) hps hpx3 (j := 5) (v := .int .u8 (hi : Int)) (by decide) rfl
      rw [set_last] at h4
      simp only [Nat.add_zero] at h2 h3 h4
      have x1 := (h1.at_ _ _ _ hps hpx).1
      have x2 := (h2.at_ _ _ _ hps hpx2).1
      have x3 := (h3.at_ _ _ _ hps hpx3).1
      have hF2 := Fr.setCell (p := ⟨g, 6 * m, none⟩) (Fr.refl (CT w1 B) w1) (fun _ => h1.ct_pool hps hpx) (.int .i64 3)
      have hF3 := ct_trans hF2 (Fr.setCell (p := ⟨g, 6 * m + 4, none⟩) (Fr.refl _ _) (fun _ => h2.ct_pool hps hpx2) (.int .u8 (lo : Int)))
      have hF4 := ct_trans hF3 (Fr.setCell (p := ⟨g, 6 * m + 5, none⟩) (Fr.refl _ _) (fun _ => h3.ct_pool hps hpx3) (.int .u8 (hi : Int)))
      have c0' : w1.cell? ⟨g, 6 * m, none⟩ = some (.int .i64 0) := x1.cell 0 _ rfl
      have f0' : w1.frozen? ⟨g, 6 * m, none⟩ = false := x1.frz _
      have c4' : (w1.setCell ⟨g, 6 * m, none⟩ (.int .i64 3)).cell? ⟨g, 6 * m + 4, none⟩ = some (.int .u8 0) := x2.cell 4 _ rfl
      have f4' : (w1.setCell ⟨g, 6 * m, none⟩ (.int .i64 3)).frozen? ⟨g, 6 * m + 4, none⟩ = false := x2.frz _
      have c5' : ((w1.setCell ⟨g, 6 * m, none⟩ (.int .i64 3)).setCell ⟨g, 6 * m + 4, none⟩ (.int .u8 (lo : Int))).cell? ⟨g, 6 * m + 5, none⟩ = some (.int .u8 0) := x3.cell 5 _ rfl
      have f5' : ((w1.setCell ⟨g, 6 * m, none⟩ (.int .i64 3)).setCell ⟨g, 6 * m + 4, none⟩ (.int .u8 (lo : Int))).frozen? ⟨g, 6 * m + 5, none⟩ = false := x3.frz _
      have r0 := (hnb1.fr hF2 (blk_ct hnb1 (by decide) (by decide) (by decide))).cell 0 rfl
      have r1 := (hnb1.fr hF3 (blk_ct hnb1 (by decide) (by decide) (by decide))).cell 1 rfl
      generalize hW4 : ((w1.setCell ⟨g, 6 * m, none⟩ (.int .i64 3)).setCell ⟨g, 6 * m + 4, none⟩ (.int .u8 (lo : Int))).setCell ⟨g, 6 * m + 5, none⟩ (.int .u8 (hi : Int)) = W4 at *
      have hbk := h4.hb
      have b1 := hbk.cell 1 rfl
      have hz4 : W4.heap.size = w1.heap.size := by rw [← hW4]; simp only [size_setCell]
      have hBs : B ≤ W4.heap.size := Nat.le_trans hB1 (Nat.le_trans hFa.size (Nat.le_trans hF1.size hF4.size))
      have hown := h4.own
      have H2 := Lib.hid (And.intro h4 (And.intro hF4 (And.intro hF1c (And.intro hps (And.intro hF hFa)))))
      clear h1 h2 h3 h4 hF1 hF2 hF3 hF4 hF1c hps hpx hpx2 hpx3 x1 x2 x3 hal hC hcm hF hFa hnb hnb1 hb
      go_wp2_with (first
        | (at_builtin; refine app1b W4 w1.heap.size hz4 rfl _ _ 60 rfl B 101 (.pointer none) 1 8 Tryd.underlying60 (by kernel_rfl) rfl (by decide) pv P.length _ [.pointer (some ⟨g, 6 * m, none⟩)] rfl rfl hown rfl (by simp [Value.oneCell']) (by omega) (by decide) hBs ?_; intro pv' w2 ho2 hf2 hn2; obtain ⟨g2, c2, rfl⟩ := own_slc ho2; have hbk2 := hbk.fr hf2 (own_ne_blk hown hbk (by decide)); have b2 := hbk2.cell 1 rfl; have fb2 := hbk2.frz 1)
        | fail)
      go_roundg (rs.length - (k + 1) + 1)
      case measure => omega
      case rel =>
        obtain ⟨h4, hF4, hF1c, hps, hF, hFa⟩ := H2.out
        obtain ⟨h5, hF5⟩ := h4.push hps ho2 hf2
        have e : p ++ rngs (rs.take (k + 1)) = P ++ [.rng lo hi] := by rw [← hP, take_snoc_getElem? hr]; simp [rngs]
        rw [hpl] at h5 hF5
        refine ⟨k + 1, by omega, rfl, by simp, ?_, ct_trans (ct_trans (ct_trans (ct_trans hF (ct_drop hFa)) hF1c) hF4) hF5⟩
        rw [e]
        exact ⟨_, _, _, by rw [List.length_append, hpl]; exact h5⟩
    · obtain rfl : k = rs.length := by omega
      rw [List.take_length] at hcm
      have e1 : ¬ ((rs.length : Int) < (rs.length : Int)) := by omega
      go_wp2_with fail
      go_end0
      exact ⟨rfl, hcm, hF⟩
end Go.Proofs.YtjeklnbfpehbeaaDoor

/- Masks of bits in plain numbers. Condition: runes below 2^21, bytes below 256. -/
namespace Go.Proofs.YtjeklnbfpehbeaaDoor
open Go.RowKit

theorem bv_nat {w : Nat} {a : Nat} (h : a < 2 ^ w) : (BitVec.ofInt w (a : Int)).toNat = a := by
  rw [BitVec.toNat_ofInt]
  have : ((a : Int) % (2 ^ w : Nat)).toNat = a % 2 ^ w := by rw [← Int.natCast_emod]; rfl
  rw [this, Nat.mod_eq_of_lt h]

theorem nat_or_mask (a j : Nat) : a ||| (2 ^ j - 1) = 2 ^ j * (a / 2 ^ j) + (2 ^ j - 1) := by
  apply Nat.eq_of_testBit_eq
  intro i
  have hp : 0 < 2 ^ j := Nat.pow_pos (by decide)
  have hlt : 2 ^ j - 1 < 2 ^ j := by omega
  rw [Nat.testBit_or, Nat.testBit_two_pow_mul_add _ hlt, Nat.testBit_two_pow_sub_one]
  by_cases h : i < j
  · simp [h]
  · simp [h, Nat.testBit_div_two_pow]
    rw [show i - j + j = i by omega]

theorem nat_and_high (a j w : Nat) (hw : a < 2 ^ w) (hj : j ≤ w) : a &&& (2 ^ w - 2 ^ j) = 2 ^ j * (a / 2 ^ j) := by
  apply Nat.eq_of_testBit_eq
  intro i
  have hp : 0 < 2 ^ j := Nat.pow_pos (by decide)
  have e : 2 ^ w - 2 ^ j = 2 ^ j * (2 ^ (w - j) - 1) + 0 := by
    rw [Nat.mul_sub, ← Nat.pow_add, Nat.mul_one, show j + (w - j) = w by omega]
    rfl
  have e2 : 2 ^ j * (a / 2 ^ j) = 2 ^ j * (a / 2 ^ j) + 0 := rfl
  rw [Nat.testBit_and, e, e2, Nat.testBit_two_pow_mul_add _ hp, Nat.testBit_two_pow_mul_add _ hp]
  by_cases h : i < j
  · simp [h]
  · simp [h, Nat.testBit_div_two_pow, Nat.testBit_two_pow_sub_one]
    rw [show i - j + j = i by omega]
    by_cases hi : i < w
    · rw [decide_eq_true (by omega : i - j < w - j), Bool.and_true]
    · rw [Nat.testBit_lt_two_pow (Nat.lt_of_lt_of_le hw (Nat.pow_le_pow_right (by decide) (by omega : w ≤ i))), Bool.false_and]

theorem i32_wrap {n : Nat} (h : n < 2147483648) : IntKind.i32.wrap (n : Int) = (n : Int) := by rw [IntKind.wrap_i32]; omega
theorem u8_wrap {n : Nat} (h : n < 256) : IntKind.u8.wrap (n : Int) = (n : Int) := by rw [IntKind.wrap_u8]; omega

theorem and_mask {a : Nat} (ha : a < 2097152) {j : Nat} (hj : j ≤ 20) : bits .and .i32 (a : Int) ((2 ^ j - 1 : Nat) : Int) = ((a % 2 ^ j : Nat) : Int) := by
  have hp : 2 ^ j ≤ 2 ^ 20 := Nat.pow_le_pow_right (by decide) hj
  have h1 : (BitVec.ofInt 32 (a : Int)).toNat = a := bv_nat (by omega)
  have h2 : (BitVec.ofInt 32 ((2 ^ j - 1 : Nat) : Int)).toNat = 2 ^ j - 1 := bv_nat (by omega)
  show IntKind.i32.wrap (((BitVec.ofInt 32 (a : Int)) &&& (BitVec.ofInt 32 ((2 ^ j - 1 : Nat) : Int))).toNat : Int) = _
  rw [BitVec.toNat_and, h1, h2, Nat.and_two_pow_sub_one_eq_mod]
  exact i32_wrap (by have := Nat.mod_le a (2 ^ j); omega)

theorem or_mask {a : Nat} (ha : a < 2097152) {j : Nat} (hj : j ≤ 20) : bits .or .i32 (a : Int) ((2 ^ j - 1 : Nat) : Int) = ((2 ^ j * (a / 2 ^ j) + (2 ^ j - 1) : Nat) : Int) := by
  have hp : 2 ^ j ≤ 2 ^ 20 := Nat.pow_le_pow_right (by decide) hj
  have h1 : (BitVec.ofInt 32 (a : Int)).toNat = a := bv_nat (by omega)
  have h2 : (BitVec.ofInt 32 ((2 ^ j - 1 : Nat) : Int)).toNat = 2 ^ j - 1 := bv_nat (by omega)
  show IntKind.i32.wrap (((BitVec.ofInt 32 (a : Int)) ||| (BitVec.ofInt 32 ((2 ^ j - 1 : Nat) : Int))).toNat : Int) = _
  rw [BitVec.toNat_or, h1, h2, nat_or_mask]
  have := Nat.mul_div_le a (2 ^ j)
  exact i32_wrap (by omega)

theorem and_high {a : Nat} (ha : a < 2097152) {j : Nat} (hj : j ≤ 20) : bits .and .i32 (a : Int) (-(2 ^ j : Nat) : Int) = ((2 ^ j * (a / 2 ^ j) : Nat) : Int) := by
  have hp : 2 ^ j ≤ 2 ^ 20 := Nat.pow_le_pow_right (by decide) hj
  have hp0 : 0 < 2 ^ j := Nat.pow_pos (by decide)
  have h1 : (BitVec.ofInt 32 (a : Int)).toNat = a := bv_nat (by omega)
  have h2 : (BitVec.ofInt 32 (-(2 ^ j : Nat) : Int)).toNat = 2 ^ 32 - 2 ^ j := by
    rw [BitVec.toNat_ofInt]
    have : (-((2 ^ j : Nat) : Int)) % ((2 ^ 32 : Nat) : Int) = ((2 ^ 32 - 2 ^ j : Nat) : Int) := by omega
    rw [this]; rfl
  show IntKind.i32.wrap (((BitVec.ofInt 32 (a : Int)) &&& (BitVec.ofInt 32 (-(2 ^ j : Nat) : Int))).toNat : Int) = _
  rw [BitVec.toNat_and, h1, h2, nat_and_high a j 32 (by omega) (by omega)]
  have := Nat.mul_div_le a (2 ^ j)
  exact i32_wrap (by omega)

theorem or_u8 {k q x : Nat} (hx : x < 2 ^ k) (h : 2 ^ k * q + x < 256) : bits .or .u8 ((2 ^ k * q : Nat) : Int) (x : Int) = ((2 ^ k * q + x : Nat) : Int) := by
  have h1 : (BitVec.ofInt 8 ((2 ^ k * q : Nat) : Int)).toNat = 2 ^ k * q := bv_nat (by omega)
  have h2 : (BitVec.ofInt 8 (x : Int)).toNat = x := bv_nat (by omega)
  show IntKind.u8.wrap (((BitVec.ofInt 8 ((2 ^ k * q : Nat) : Int)) ||| (BitVec.ofInt 8 (x : Int))).toNat : Int) = _
  rw [BitVec.toNat_or, h1, h2, ← Nat.two_pow_add_eq_or_of_lt hx]
  exact u8_wrap h
theorem and_u8 {x : Nat} (hx : x < 256) : bits .and .u8 (x : Int) 63 = ((x % 64 : Nat) : Int) := by
  have h1 : (BitVec.ofInt 8 (x : Int)).toNat = x := bv_nat (by omega)
  show IntKind.u8.wrap (((BitVec.ofInt 8 (x : Int)) &&& (BitVec.ofInt 8 63)).toNat : Int) = _
  rw [BitVec.toNat_and, h1, show (BitVec.ofInt 8 63).toNat = 2 ^ 6 - 1 from rfl, Nat.and_two_pow_sub_one_eq_mod]
  exact u8_wrap (by omega)
end Go.Proofs.YtjeklnbfpehbeaaDoor

/- The walk of unicode/utf8's EncodeRune at runes that have bytes. Condition: the rune has bytes, the buffer four places. -/
namespace Go.Proofs.YtjeklnbfpehbeaaDoor
open Go.RowKit

/-- A rune's bytes. -/
def enc (r : Nat) : List Nat :=
  if r < 128 then [r] else if r < 2048 then [192 + r / 64, 128 + r % 64] else if r < 65536 then [224 + r / 4096, 128 + r / 64 % 64, 128 + r % 64]
  else [240 + r / 262144, 128 + r / 4096 % 64, 128 + r / 64 % 64, 128 + r % 64]
def okRune (r : Nat) : Prop := r ≤ 1114111 ∧ (r < 55296 ∨ 57343 < r)

set_option maxRecDepth 100000 in
set_option maxHeartbeats 1000000 in
theorem enc2_calls {w : World} {sb : Nat} {a b c d : Nat} (h : Blk w sb (u8s [a, b, c, d]) 5) {r : Nat} (h1 : 128 ≤ r) (h2 : r < 2048) :
    Calls Tryd.prog 79 #[.slice (some ⟨sb, 0, none⟩) 4 4, .int .i32 (r : Int)] w fun e w' => e = .returned (.int .i64 2) ∧ Blk w' sb (u8s [192 + r / 64, 128 + r % 64, c, d]) 5 ∧ Fr (fun k => k = sb) w w' := by
  have c0 := h.cell 0 rfl
  have c1 := h.cell 1 rfl
  have f0 := h.frz 0
  have f1 := h.frz 1
  have e1 : IntKind.u32.wrap (r : Int) = (r : Int) := by rw [IntKind.wrap_u32]; omega
  have e2 : (r : Int) ≤ 2047 := by omega
  go_enter Tryd.func79, Tryd.ntmps79
  go_wp2_with fail
  go_ret
  exact ⟨rfl, (h.set 0 _).set 1 _, Fr.setCell (p := ⟨sb, 1, none⟩) (Fr.setCell (F := fun k => k = sb) (p := ⟨sb, 0, none⟩) (Fr.refl _ w) (fun _ => rfl) _) (fun _ => rfl) _⟩

set_option maxRecDepth 100000 in
set_option maxHeartbeats 1000000 in
theorem enc3_calls {w : World} {sb : Nat} {a b c d : Nat} (h : Blk w sb (u8s [a, b, c, d]) 5) {r : Nat} (h1 : 2048 ≤ r) (h2 : r < 65536) (h3 : r < 55296 ∨ 57343 < r) :
    Calls Tryd.prog 79 #[.slice (some ⟨sb, 0, none⟩) 4 4, .int .i32 (r : Int)] w fun e w' => e = .returned (.int .i64 3) ∧ Blk w' sb (u8s [224 + r / 4096, 128 + r / 64 % 64, 128 + r % 64, d]) 5 ∧ Fr (fun k => k = sb) w w' := by
  have c0 := h.cell 0 rfl
  have c1 := h.cell 1 rfl
  have c2 := h.cell 2 rfl
  have f0 := h.frz 0
  have f1 := h.frz 1
  have f2 := h.frz 2
  have e1 : IntKind.u32.wrap (r : Int) = (r : Int) := by rw [IntKind.wrap_u32]; omega
  have e2 : ¬ ((r : Int) ≤ 2047) := by omega
  have hF : Fr (fun k => k = sb) w (((w.setCell ⟨sb, 0, none⟩ (.int .u8 (224 + (r : Int) / 4096))).setCell ⟨sb, 1, none⟩ (.int .u8 (128 + (r : Int) / 64 % 64))).setCell ⟨sb, 2, none⟩ (.int .u8 (128 + (r : Int) % 64))) :=
    Fr.setCell (p := ⟨sb, 2, none⟩) (Fr.setCell (p := ⟨sb, 1, none⟩) (Fr.setCell (F := fun k => k = sb) (p := ⟨sb, 0, none⟩) (Fr.refl _ w) (fun _ => rfl) _) (fun _ => rfl) _) (fun _ => rfl) _
  have hR : Blk (((w.setCell ⟨sb, 0, none⟩ (.int .u8 (224 + (r : Int) / 4096))).setCell ⟨sb, 1, none⟩ (.int .u8 (128 + (r : Int) / 64 % 64))).setCell ⟨sb, 2, none⟩ (.int .u8 (128 + (r : Int) % 64))) sb (u8s [224 + r / 4096, 128 + r / 64 % 64, 128 + r % 64, d]) 5 := ((h.set 0 _).set 1 _).set 2 _
  by_cases h4 : r < 55296
  · have e3 : (r : Int) < 55296 := by omega
    go_enter Tryd.func79, Tryd.ntmps79
    go_wp2_with fail
    go_ret
    exact ⟨rfl, hR, hF⟩
  · have e3 : ¬ ((r : Int) < 55296) := by omega
    have e4 : (57343 : Int) < (r : Int) := by omega
    have e5 : (r : Int) ≤ 65535 := by omega
    go_enter Tryd.func79, Tryd.ntmps79
    go_wp2_with fail
    go_ret
    exact ⟨rfl, hR, hF⟩

set_option maxRecDepth 100000 in
set_option maxHeartbeats 1000000 in
theorem enc4_calls {w : World} {sb : Nat} {a b c d : Nat} (h : Blk w sb (u8s [a, b, c, d]) 5) {r : Nat} (h1 : 65536 ≤ r) (h2 : r ≤ 1114111) :
    Calls Tryd.prog 79 #[.slice (some ⟨sb, 0, none⟩) 4 4, .int .i32 (r : Int)] w fun e w' => e = .returned (.int .i64 4) ∧ Blk w' sb (u8s [240 + r / 262144, 128 + r / 4096 % 64, 128 + r / 64 % 64, 128 + r % 64]) 5 ∧ Fr (fun k => k = sb) w w' := by
  have c0 := h.cell 0 rfl
  have c1 := h.cell 1 rfl
  have c2 := h.cell 2 rfl
  have c3 := h.cell 3 rfl
  have f0 := h.frz 0
  have f1 := h.frz 1
  have f2 := h.frz 2
  have f3 := h.frz 3
  have e1 : IntKind.u32.wrap (r : Int) = (r : Int) := by rw [IntKind.wrap_u32]; omega
  have e2 : ¬ ((r : Int) ≤ 2047) := by omega
  have e3 : ¬ ((r : Int) < 55296) := by omega
  have e4 : (57343 : Int) < (r : Int) := by omega
  have e5 : ¬ ((r : Int) ≤ 65535) := by omega
  have e6 : (65535 : Int) < (r : Int) := by omega
  have e7 : (r : Int) ≤ 1114111 := by omega
  have hF : Fr (fun k => k = sb) w ((((w.setCell ⟨sb, 0, none⟩ (.int .u8 (240 + (r : Int) / 262144))).setCell ⟨sb, 1, none⟩ (.int .u8 (128 + (r : Int) / 4096 % 64))).setCell ⟨sb, 2, none⟩ (.int .u8 (128 + (r : Int) / 64 % 64))).setCell ⟨sb, 3, none⟩ (.int .u8 (128 + (r : Int) % 64))) :=
    Fr.setCell (p := ⟨sb, 3, none⟩) (Fr.setCell (p := ⟨sb, 2, none⟩) (Fr.setCell (p := ⟨sb, 1, none⟩) (Fr.setCell (F := fun k => k = sb) (p := ⟨sb, 0, none⟩) (Fr.refl _ w) (fun _ => rfl) _) (fun _ => rfl) _) (fun _ => rfl) _) (fun _ => rfl) _
  have hR : Blk ((((w.setCell ⟨sb, 0, none⟩ (.int .u8 (240 + (r : Int) / 262144))).setCell ⟨sb, 1, none⟩ (.int .u8 (128 + (r : Int) / 4096 % 64))).setCell ⟨sb, 2, none⟩ (.int .u8 (128 + (r : Int) / 64 % 64))).setCell ⟨sb, 3, none⟩ (.int .u8 (128 + (r : Int) % 64))) sb (u8s [240 + r / 262144, 128 + r / 4096 % 64, 128 + r / 64 % 64, 128 + r % 64]) 5 := (((h.set 0 _).set 1 _).set 2 _).set 3 _
  go_enter Tryd.func79, Tryd.ntmps79
  go_wp2_with fail
  go_ret
  exact ⟨rfl, hR, hF⟩

set_option maxRecDepth 100000 in
set_option maxHeartbeats 1000000 in
/-- A rune's bytes are written to the beginning of a buffer. -/
theorem enc_calls {w : World} {sb : Nat} {cs : List Nat} (h : Blk w sb (u8s cs) 5) (hl : cs.length = 4) {r : Nat} (hr : okRune r) :
    Calls Tryd.prog 77 #[.slice (some ⟨sb, 0, none⟩) 4 4, .int .i32 (r : Int)] w fun e w' => ∃ cs', e = .returned (.int .i64 ((enc r).length : Int)) ∧ cs'.length = 4 ∧ cs'.take (enc r).length = enc r ∧ Blk w' sb (u8s cs') 5 ∧ Fr (fun k => k = sb) w w' := by
  obtain ⟨a, b, c, d, rfl⟩ : ∃ a b c d, cs = [a, b, c, d] := by
    match cs, hl with
    | [a, b, c, d], _ => exact ⟨a, b, c, d, rfl⟩
  have e1 : IntKind.u32.wrap (r : Int) = (r : Int) := by rw [IntKind.wrap_u32]; have := hr.1; omega
  by_cases h1 : r < 128
  · have e2 : (r : Int) ≤ 127 := by omega
    have e3 : IntKind.u8.wrap (r : Int) = (r : Int) := by rw [IntKind.wrap_u8]; omega
    have c0 := h.cell 0 rfl
    have f0 := h.frz 0
    have ee : enc r = [r] := if_pos h1
    rw [ee]
    go_enter Tryd.func77, Tryd.ntmps77
    go_wp2_with fail
    go_ret
    exact ⟨rfl, [r, b, c, d], rfl, rfl, h.set 0 _, Fr.setCell (F := fun k => k = sb) (p := ⟨sb, 0, none⟩) (Fr.refl _ w) (fun _ => rfl) _⟩
  · have e2 : ¬ ((r : Int) ≤ 127) := by omega
    have key : Calls Tryd.prog 79 #[.slice (some ⟨sb, 0, none⟩) 4 4, .int .i32 (r : Int)] w fun e w' => ∃ cs', e = .returned (.int .i64 ((enc r).length : Int)) ∧ cs'.length = 4 ∧ cs'.take (enc r).length = enc r ∧ Blk w' sb (u8s cs') 5 ∧ Fr (fun k => k = sb) w w' := by
      by_cases h2 : r < 2048
      · have ee : enc r = [192 + r / 64, 128 + r % 64] := by rw [enc, if_neg h1, if_pos h2]
        rw [ee]
        exact (enc2_calls h (by omega) h2).mono fun e w' ⟨x1, x2, x3⟩ => ⟨_, x1, rfl, rfl, x2, x3⟩
      · by_cases h3 : r < 65536
        · have ee : enc r = [224 + r / 4096, 128 + r / 64 % 64, 128 + r % 64] := by rw [enc, if_neg h1, if_neg h2, if_pos h3]
          rw [ee]
          exact (enc3_calls h (by omega) h3 hr.2).mono fun e w' ⟨x1, x2, x3⟩ => ⟨_, x1, rfl, rfl, x2, x3⟩
        · have ee : enc r = [240 + r / 262144, 128 + r / 4096 % 64, 128 + r / 64 % 64, 128 + r % 64] := by rw [enc, if_neg h1, if_neg h2, if_neg h3]
          rw [ee]
          exact (enc4_calls h (by omega) hr.1).mono fun e w' ⟨x1, x2, x3⟩ => ⟨_, x1, rfl, rfl, x2, x3⟩
    clear h
    go_enter Tryd.func77, Tryd.ntmps77
    go_wp2_with fail
    refine key.mono ?_
    rintro e w1 ⟨cs', rfl, x1, x2, x3, x4⟩
    go_wp2_with fail
    go_ret
    exact ⟨cs', rfl, x1, x2, x3, x4⟩
end Go.Proofs.YtjeklnbfpehbeaaDoor

/- The stack of ranges of package utf8, and the methods of a range, walked. Condition: the stack stays below 2^40. -/
namespace Go.Proofs.YtjeklnbfpehbeaaDoor
open Go.RowKit

/-- Ranges as cells. -/
def rgs (T : List (Nat × Nat)) : List Value := T.flatMap fun r => [.int .i32 (r.1 : Int), .int .i32 (r.2 : Int)]
theorem rgs_len (T : List (Nat × Nat)) : (rgs T).length = T.length * 2 := by
  induction T with
  | nil => rfl
  | cons a T ih => simp only [rgs, List.flatMap_cons, List.length_append, List.length_cons, List.length_nil] at *; omega
theorem rgs_snoc (T : List (Nat × Nat)) (r : Nat × Nat) : rgs (T ++ [r]) = rgs T ++ [.int .i32 (r.1 : Int), .int .i32 (r.2 : Int)] := by simp [rgs]

set_option maxHeartbeats 400000 in
theorem rpush_calls {w : World} {base : Nat} {v : Value} {T : List (Nat × Nat)} (a b : Nat) (h : w.ownsRow base 160 2 v T.length (rgs T)) (hb : base ≤ w.heap.size) (hl : T.length ≤ 1000000000) :
    Calls Tryd.prog 67 #[v, .agg #[.int .i32 (a : Int), .int .i32 (b : Int)]] w fun e w' => ∃ v', e = .returned v' ∧ w'.ownsRow base 160 2 v' (T ++ [(a, b)]).length (rgs (T ++ [(a, b)])) ∧ Fr (fun k => v.ownBlock = some k) w w' ∧ (v'.ownBlock = v.ownBlock ∨ ∃ k, v'.ownBlock = some k ∧ w.heap.size ≤ k) := by
  have hF : Fr (fun _ => False) w (w.alloc (.cells #[.int .i32 (a : Int), .int .i32 (b : Int)] 160)) := (Fr.refl _ w).alloc _
  have ha : (w.alloc (.cells #[.int .i32 (a : Int), .int .i32 (b : Int)] 160)).ownsRow base 160 2 v T.length (rgs T) := h.alloc _
  have c0 : (w.alloc (.cells #[.int .i32 (a : Int), .int .i32 (b : Int)] 160)).cell? ⟨w.heap.size, 0, none⟩ = some (.int .i32 (a : Int)) := (Blk.new w [.int .i32 (a : Int), .int .i32 (b : Int)] 160).cell 0 rfl
  have c1 : (w.alloc (.cells #[.int .i32 (a : Int), .int .i32 (b : Int)] 160)).cell? ⟨w.heap.size, 1, none⟩ = some (.int .i32 (b : Int)) := (Blk.new w [.int .i32 (a : Int), .int .i32 (b : Int)] 160).cell 1 rfl
  have hb2 := Nat.le_trans hb hF.size
  go_enter Tryd.func67, Tryd.ntmps67
  go_wp2_with (first
    | (at_builtin; refine app1b (w.alloc (.cells #[.int .i32 (a : Int), .int .i32 (b : Int)] 160)) (w.heap.size + 1) (by simp) rfl _ _ 97 rfl base 160 (.agg #[.int .i32 0, .int .i32 0]) 2 8 Tryd.underlying97 (by kernel_rfl) rfl (by decide) v T.length (rgs T) [.int .i32 (a : Int), .int .i32 (b : Int)] rfl rfl ha rfl (by simp [Value.oneCell']) (by omega) (by decide) hb2 ?_; intro v2 w2 ho2 hf2 hn2)
    | fail)
  go_ret
  refine ⟨v2, rfl, by rw [rgs_snoc]; simpa using ho2, (hF.mono (G := fun k => v.ownBlock = some k) (fun _ _ h => h.elim)).trans hf2 (fun _ _ h => h), ?_⟩
  exact hn2.imp id fun ⟨k, h1, h2⟩ => ⟨k, h1, Nat.le_trans hF.size h2⟩

/-- The ranges that package utf8 keeps as none. -/
structure Nils (w : World) : Prop where
  s0 : w.cell? ⟨8, 0, none⟩ = some (.int .i32 65535)
  s1 : w.cell? ⟨8, 1, none⟩ = some (.int .i32 0)
  r0 : w.cell? ⟨9, 0, none⟩ = some (.int .u8 255)
  r1 : w.cell? ⟨9, 1, none⟩ = some (.int .u8 0)
theorem Nils.fr {w w' : World} {F : Nat → Prop} (h : Nils w) (hf : Fr F w w') (h8 : ¬ F 8) (h9 : ¬ F 9) : Nils w' := ⟨hf.cell h.s0 h8, hf.cell h.s1 h8, hf.cell h.r0 h9, hf.cell h.r1 h9⟩

set_option maxRecDepth 100000 in
set_option maxHeartbeats 1000000 in
theorem valid_calls {w : World} {rb a b : Nat} (h : Blk w rb [.int .i32 (a : Int), .int .i32 (b : Int)] 160) (hab : a ≤ b) : Calls Tryd.prog 70 #[.pointer (some ⟨rb, 0, none⟩)] w fun e w' => e = .returned (.bool true) ∧ ∃ n, w' = w.drewN n := by
  have c0 := h.cell 0 rfl
  have c1 := h.cell 1 rfl
  have e1 : (a : Int) ≤ (b : Int) := by omega
  clear h
  go_enter Tryd.func70, Tryd.ntmps70
  go_wp2_with fail
  go_quiet (fail)
  go_wp2_with fail
  go_ret
  exact ⟨rfl, _, rfl⟩

set_option maxRecDepth 100000 in
theorem max_calls {w : World} (i : Nat) (h1 : 1 ≤ i) (h2 : i ≤ 3) : Calls Tryd.prog 71 #[.int .i64 (i : Int)] w fun e w' => e = .returned (.int .i32 (if i = 1 then 127 else if i = 2 then 2047 else 65535)) ∧ w = w' := by
  have : i = 1 ∨ i = 2 ∨ i = 3 := by omega
  rcases this with rfl | rfl | rfl
  all_goals go_enter Tryd.func71, Tryd.ntmps71
  all_goals go_wp2
  all_goals go_ret
  all_goals exact ⟨rfl, rfl⟩

set_option maxRecDepth 100000 in
set_option maxHeartbeats 1000000 in
theorem cut_calls {w : World} {rb a b : Nat} (h : Blk w rb [.int .i32 (a : Int), .int .i32 (b : Int)] 160) (h1 : a < 57344) (h2 : 55295 < b) : Calls Tryd.prog 69 #[.pointer (some ⟨rb, 0, none⟩)] w fun e w' => e = .returned (.tuple #[.agg #[.int .i32 (a : Int), .int .i32 55295], .agg #[.int .i32 57344, .int .i32 (b : Int)]]) ∧ Fr (fun _ => False) w w' := by
  have c0 : ∀ X Y, ((w.alloc X).alloc Y).cell? ⟨rb, 0, none⟩ = some (.int .i32 (a : Int)) := fun X Y => ((h.alloc X).alloc Y).cell 0 rfl
  have c1 : ∀ X Y, ((w.alloc X).alloc Y).cell? ⟨rb, 1, none⟩ = some (.int .i32 (b : Int)) := fun X Y => ((h.alloc X).alloc Y).cell 1 rfl
  have e1 : (a : Int) < 57344 := by omega
  have e2 : (55295 : Int) < (b : Int) := by omega
  clear h
  go_enter Tryd.func69, Tryd.ntmps69
  go_wp2_with fail
  go_region
  all_goals go_wp2_with fail
  all_goals go_returns
  all_goals exact ⟨rfl, ((((Fr.refl _ w).alloc _).alloc _).drew)⟩

set_option maxRecDepth 100000 in
set_option maxHeartbeats 1000000 in
theorem keep_calls {w : World} {rb a b : Nat} (h : Blk w rb [.int .i32 (a : Int), .int .i32 (b : Int)] 160) (hn : Nils w) (h1 : 57344 ≤ a ∨ b ≤ 55295) : Calls Tryd.prog 69 #[.pointer (some ⟨rb, 0, none⟩)] w fun e w' => e = .returned (.tuple #[.agg #[.int .i32 65535, .int .i32 0], .agg #[.int .i32 65535, .int .i32 0]]) ∧ Fr (fun _ => False) w w' := by
  have c0 : ∀ X Y, ((w.alloc X).alloc Y).cell? ⟨rb, 0, none⟩ = some (.int .i32 (a : Int)) := fun X Y => ((h.alloc X).alloc Y).cell 0 rfl
  have c1 : ∀ X Y, ((w.alloc X).alloc Y).cell? ⟨rb, 1, none⟩ = some (.int .i32 (b : Int)) := fun X Y => ((h.alloc X).alloc Y).cell 1 rfl
  have n0 : ∀ X Y, ((w.alloc X).alloc Y).cell? ⟨8, 0, none⟩ = some (.int .i32 65535) := fun X Y => (((Fr.refl (fun _ => False) w).alloc X).alloc Y).cell hn.s0 (fun h => h)
  have n1 : ∀ X Y, ((w.alloc X).alloc Y).cell? ⟨8, 1, none⟩ = some (.int .i32 0) := fun X Y => (((Fr.refl (fun _ => False) w).alloc X).alloc Y).cell hn.s1 (fun h => h)
  clear h hn
  by_cases h2 : 57344 ≤ a
  · have e1 : ¬ ((a : Int) < 57344) := by omega
    go_enter Tryd.func69, Tryd.ntmps69
    go_wp2_with fail
    go_region
    all_goals go_wp2_with fail
    all_goals go_returns
    all_goals exact ⟨rfl, ((((Fr.refl _ w).alloc _).alloc _).drew)⟩
  · have e1 : (a : Int) < 57344 := by omega
    have e2 : ¬ ((55295 : Int) < (b : Int)) := by omega
    go_enter Tryd.func69, Tryd.ntmps69
    go_wp2_with fail
    go_region
    all_goals go_wp2_with fail
    all_goals go_returns
    all_goals exact ⟨rfl, ((((Fr.refl _ w).alloc _).alloc _).drew)⟩

set_option maxRecDepth 100000 in
set_option maxHeartbeats 1000000 in
theorem ascii_calls {w : World} {rb a b : Nat} (h : Blk w rb [.int .i32 (a : Int), .int .i32 (b : Int)] 160) (hn : Nils w) (hab : a ≤ b) : Calls Tryd.prog 72 #[.pointer (some ⟨rb, 0, none⟩)] w fun e w' => e = .returned (if b ≤ 127 then .agg #[.int .u8 (a : Int), .int .u8 (b : Int)] else .agg #[.int .u8 255, .int .u8 0]) ∧ Fr (fun _ => False) w w' := by
  have c0 : ∀ X m, ((w.alloc X).drewN m).cell? ⟨rb, 0, none⟩ = some (.int .i32 (a : Int)) := fun X m => ((h.alloc X).drewN m).cell 0 rfl
  have c1 : ∀ X m, ((w.alloc X).drewN m).cell? ⟨rb, 1, none⟩ = some (.int .i32 (b : Int)) := fun X m => ((h.alloc X).drewN m).cell 1 rfl
  have n0 : ∀ X m, ((w.alloc X).drewN m).cell? ⟨9, 0, none⟩ = some (.int .u8 255) := fun X m => (((Fr.refl (fun _ => False) w).alloc X).drewN m).cell hn.r0 (fun h => h)
  have n1 : ∀ X m, ((w.alloc X).drewN m).cell? ⟨9, 1, none⟩ = some (.int .u8 0) := fun X m => (((Fr.refl (fun _ => False) w).alloc X).drewN m).cell hn.r1 (fun h => h)
  have hv : ∀ X, Calls Tryd.prog 70 #[.pointer (some ⟨rb, 0, none⟩)] (w.alloc X) fun e w' => e = .returned (.bool true) ∧ ∃ n, w' = (w.alloc X).drewN n := fun X => valid_calls (h.alloc X) hab
  clear h hn
  by_cases h2 : b ≤ 127
  · rw [if_pos h2]
    have e1 : (b : Int) ≤ 127 := by omega
    have e2 : IntKind.u8.wrap (a : Int) = (a : Int) := by rw [IntKind.wrap_u8]; omega
    have e3 : IntKind.u8.wrap (b : Int) = (b : Int) := by rw [IntKind.wrap_u8]; omega
    go_enter Tryd.func72, Tryd.ntmps72
    go_wp2_with fail
    refine (hv _).mono ?_
    rintro e w1 ⟨rfl, n, rfl⟩
    go_wp2_with fail
    go_region
    all_goals go_wp2_with fail
    all_goals go_returns
    all_goals exact ⟨rfl, Fr.setCell (p := ⟨w.heap.size, 1, none⟩) (Fr.setCell (p := ⟨w.heap.size, 0, none⟩) (((Fr.refl (fun _ => False) w).alloc _).drewN _) (fun h => absurd h (Nat.lt_irrefl _)) _) (fun h => absurd h (Nat.lt_irrefl _)) _⟩
  · rw [if_neg h2]
    have e1 : ¬ ((b : Int) ≤ 127) := by omega
    go_enter Tryd.func72, Tryd.ntmps72
    go_wp2_with fail
    refine (hv _).mono ?_
    rintro e w1 ⟨rfl, n, rfl⟩
    go_wp2_with fail
    go_returns
    exact ⟨rfl, Fr.setCell (p := ⟨w.heap.size, 1, none⟩) (Fr.setCell (p := ⟨w.heap.size, 0, none⟩) (((Fr.refl (fun _ => False) w).alloc _).drewN _) (fun h => absurd h (Nat.lt_irrefl _)) _) (fun h => absurd h (Nat.lt_irrefl _)) _⟩

set_option maxRecDepth 100000 in
set_option maxHeartbeats 1000000 in
theorem enc2b_calls {w : World} {rb sb eb a b : Nat} {cs ce : List Nat} (h : Blk w rb [.int .i32 (a : Int), .int .i32 (b : Int)] 160) (hs : Blk w sb (u8s cs) 5) (he : Blk w eb (u8s ce) 5) (h1 : cs.length = 4) (h2 : ce.length = 4) (hne : sb ≠ eb) (ha : okRune a) (hb : okRune b) :
    Calls Tryd.prog 73 #[.pointer (some ⟨rb, 0, none⟩), .slice (some ⟨sb, 0, none⟩) 4 4, .slice (some ⟨eb, 0, none⟩) 4 4] w fun e w' => ∃ cs' ce', e = .returned (.tuple #[.int .i64 ((enc a).length : Int), .int .i64 ((enc b).length : Int)]) ∧
      cs'.length = 4 ∧ ce'.length = 4 ∧ cs'.take (enc a).length = enc a ∧ ce'.take (enc b).length = enc b ∧ Blk w' sb (u8s cs') 5 ∧ Blk w' eb (u8s ce') 5 ∧ Fr (fun k => k = sb ∨ k = eb) w w' := by
  have c0 := h.cell 0 rfl
  have q1 := enc_calls hs h1 ha
  have n1 : ¬ (rb = sb) := blk_ne h hs (by decide)
  go_enter Tryd.func73, Tryd.ntmps73
  go_wp2_with fail
  refine q1.mono ?_
  rintro e w1 ⟨cs', rfl, x1, x2, x3, x4⟩
  have c1 := (h.fr x4 n1).cell 1 rfl
  have q2 := enc_calls (he.fr x4 (fun e => hne e.symm)) h2 hb
  go_wp2_with fail
  refine q2.mono ?_
  rintro e w2 ⟨ce', rfl, y1, y2, y3, y4⟩
  go_wp2_with fail
  go_ret2
  exact ⟨cs', ce', rfl, x1, y1, x2, y2, x3.fr y4 hne, y3, (x4.mono (G := fun k => k = sb ∨ k = eb) (fun _ _ h => .inl h)).trans y4 (fun _ _ h => .inr h)⟩
end Go.Proofs.YtjeklnbfpehbeaaDoor

/- The stack of ranges of package utf8: Pop. Condition: the stack stays below 2^40. -/
namespace Go.Proofs.YtjeklnbfpehbeaaDoor
open Go.RowKit

theorem own_sl' {w : World} {base n : Nat} {e : TypeId} {size : Nat} {v : Value} {xs : List Value} (h : w.ownsRow base e size v n xs) : ∃ A c, v = .slice A n c := by
  rcases h.2 with ⟨rfl, rfl⟩ | ⟨g, cap, cur, rfl, _⟩
  · exact ⟨none, 0, rfl⟩
  · exact ⟨_, cap, rfl⟩

theorem own_shorter2 {w : World} {base n c g m : Nat} {e : TypeId} {size : Nat} {xs : List Value} (h : w.ownsRow base e size (.slice (some ⟨g, 0, none⟩) n c) n xs) (hm : m ≤ n) : w.ownsRow base e size (.slice (some ⟨g, 0, none⟩) m c) m (xs.take (m * size)) := by
  rcases h.2 with ⟨h', _⟩ | ⟨g', cap', cur, h', h1, h2, h3, h4, h5, h6⟩
  · cases h'
  · simp at h'
    obtain ⟨rfl, rfl⟩ := h'
    have hms := Nat.mul_le_mul_right size hm
    refine ⟨by rw [List.length_take, h.1]; omega, .inr ⟨g, c, cur, rfl, h1, h2, by omega, h4, h5, ?_⟩⟩
    rw [← h6, List.take_take, Nat.min_eq_left hms]

set_option maxRecDepth 100000 in
set_option maxHeartbeats 1000000 in
theorem rpop_nil {w : World} {base : Nat} {v : Value} (h : w.ownsRow base 160 2 v 0 []) (hn : Nils w) : Calls Tryd.prog 68 #[v] w fun e w' => e = .returned (.tuple #[v, .agg #[.int .i32 65535, .int .i32 0]]) ∧ Fr (fun _ => False) w w' := by
  obtain ⟨A, c, rfl⟩ := own_sl' h
  have n0 : ∀ X, (w.alloc X).cell? ⟨8, 0, none⟩ = some (.int .i32 65535) := fun X => ((Fr.refl (fun _ => False) w).alloc X).cell hn.s0 (fun h => h)
  have n1 : ∀ X, (w.alloc X).cell? ⟨8, 1, none⟩ = some (.int .i32 0) := fun X => ((Fr.refl (fun _ => False) w).alloc X).cell hn.s1 (fun h => h)
  clear h hn
  go_enter Tryd.func68, Tryd.ntmps68
  go_wp2_with fail
  go_region
  all_goals go_wp2_with fail
  all_goals go_returns
  all_goals exact ⟨rfl, (((Fr.refl (fun _ => False) w).alloc _).drew)⟩

set_option maxRecDepth 100000 in
set_option maxHeartbeats 1000000 in
theorem rpop_calls {w : World} {base : Nat} {v : Value} {T : List (Nat × Nat)} {a b : Nat} (h : w.ownsRow base 160 2 v (T ++ [(a, b)]).length (rgs (T ++ [(a, b)]))) (hl : T.length ≤ 1000000000) :
    Calls Tryd.prog 68 #[v] w fun e w' => ∃ v', e = .returned (.tuple #[v', .agg #[.int .i32 (a : Int), .int .i32 (b : Int)]]) ∧ w'.ownsRow base 160 2 v' T.length (rgs T) ∧ Fr (fun _ => False) w w' ∧ v'.ownBlock = v.ownBlock := by
  have hx0 : (rgs (T ++ [(a, b)]))[T.length * 2]? = some (.int .i32 (a : Int)) := by rw [rgs_snoc, ← rgs_len]; simp
  have hx1 : (rgs (T ++ [(a, b)]))[T.length * 2 + 1]? = some (.int .i32 (b : Int)) := by rw [rgs_snoc, ← rgs_len, List.getElem?_append_right (by omega)]; simp
  obtain ⟨g, c, rfl, hc, hcm, q0, -⟩ := own_cell h hx0
  obtain ⟨g', c', e', -, -, q1, -⟩ := own_cell h hx1
  simp at e'
  obtain ⟨rfl, rfl⟩ := e'
  have hn : (T ++ [(a, b)]).length = T.length + 1 := by simp
  have hcap : T.length + 1 ≤ c := by rw [hn] at hc; exact hc
  rw [hn] at h ⊢
  have ho : w.ownsRow base 160 2 (.slice (some ⟨g, 0, none⟩) T.length c) T.length (rgs T) := by
    have := own_shorter2 h (m := T.length) (by omega)
    rw [rgs_snoc, List.take_append_of_le_length (by rw [rgs_len]; exact Nat.le_refl _), List.take_of_length_le (by rw [rgs_len]; exact Nat.le_refl _)] at this
    exact this
  have hlt := (own_lt' ho rfl).2
  have c0 : ∀ X, (w.alloc X).cell? ⟨g, T.length * 2, none⟩ = some (.int .i32 (a : Int)) := fun X => ((Fr.refl (fun _ => False) w).alloc X).cell q0 (fun h => h)
  have c1 : ∀ X, (w.alloc X).cell? ⟨g, T.length * 2 + 1, none⟩ = some (.int .i32 (b : Int)) := fun X => ((Fr.refl (fun _ => False) w).alloc X).cell q1 (fun h => h)
  have HO := Lib.hid ho
  have HC := Lib.hid hcm
  clear h ho hn hcm hc hx0 hx1 q0 q1
  generalize T.length = n at *
  have e1 : IntKind.i64.wrap (n : Int) = (n : Int) := IntWalk.i64_in _ (by omega)
  have e4 : (n : Int) ≤ (c : Int) := by omega
  have e6 : (n : Int) < (n : Int) + 1 := by omega
  have e7 : (0 : Int) ≤ (n : Int) := by omega
  have e8 : ¬ ((n : Int) + 1 < 1) := by omega
  go_enter Tryd.func68, Tryd.ntmps68
  go_wp2_with fail
  go_region
  all_goals go_wp2_with fail
  all_goals go_returns
  all_goals exact ⟨_, rfl, (HO.out.alloc _).drew, (((Fr.refl (fun _ => False) w).alloc _).drew), rfl⟩
end Go.Proofs.YtjeklnbfpehbeaaDoor
