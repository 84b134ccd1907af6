/- The builder's states in memory, all at once: reset of one, and the pool's Get and Put. No condition. The pool of states: Get and Put. No condition. The pool of states: Get. No condition. The open states in memory. No condition. The open states: get and put of the cache. No condition. The builder's core in memory: open states, their nodes, the pool, and nodes that are held elsewhere. No condition. -/
import Derived.Test.YtmhlnijpimjjaaaGreatDoorM09
import Derived.Deep.QuietTactic
import Derived.BigQuiet
set_option linter.unusedSimpArgs false
set_option linter.unusedVariables false
namespace Go.Proofs.YtmhlnijpimjjaaaGreatDoor
section
open Go.RowKit Fmt

def upd {α : Type} (f : Nat → α) (x : Nat) (v : α) : Nat → α := fun y => if y = x then v else f y
theorem upd_at {α : Type} (f : Nat → α) (x : Nat) (v : α) : upd f x v x = v := by simp [upd]
theorem upd_ne {α : Type} (f : Nat → α) {x y : Nat} (v : α) (h : y ≠ x) : upd f x v y = f y := by simp [upd, h]
/-- Blocks L are builderNodes; no two share a row of transitions. -/
structure Nds (w : World) (col : Col) (L : List Nat) (nd : Nat → Nd) (tv : Nat → Value) (nx : Nat → Option Nat) : Prop where
 nodup : L.Nodup
 node : ∀ x, x ∈ L → NodeC w col x (nd x) (tv x) (nx x)
 apart : ∀ x, x ∈ L → ∀ y, y ∈ L → x ≠ y → ∀ k, (tv x).ownBlock = some k → (tv y).ownBlock ≠ some k
section
variable {w w' : World} {col col' : Col} {C : Nat → Prop} {L : List Nat} {nd : Nat → Nd} {tv : Nat → Value} {nx : Nat → Option Nat}
theorem Nds.kp (h : Nds w col L nd tv nx) (k : Kp C col w col' w') (h4 : ¬ C 4) (h5 : ¬ C 5) : Nds w' col' L nd tv nx := ⟨h.nodup, fun x hx => (h.node x hx).kp k h4 h5, h.apart⟩
theorem Nds.sub (h : Nds w col L nd tv nx) {L' : List Nat} (hn : L'.Nodup) (hs : ∀ x, x ∈ L' → x ∈ L) : Nds w col L' nd tv nx := ⟨hn, fun x hx => h.node x (hs x hx), fun x hx y hy => h.apart x (hs x hx) y (hs y hy)⟩
/-- What a change of one state must leave: the others lie elsewhere. -/
theorem Nds.one (h : Nds w col L nd tv nx) {x : Nat} (hx : x ∈ L) (hf : Fr (fun k => k = x ∨ (tv x).ownBlock = some k) w w') (hs : ∀ k, k < w.heap.size → col' k = col k) {nd' : Nd} {tv' : Value} {nx' : Option Nat} (hn : NodeC w' col' x nd' tv' nx') (ht : tv'.ownBlock = (tv x).ownBlock ∨ ∀ k, tv'.ownBlock = some k → w.heap.size ≤ k) :
  Nds w' col' L (upd nd x nd') (upd tv x tv') (upd nx x nx') := by
 refine ⟨h.nodup, fun y hy => ?_, fun y hy z hz hyz k hk => ?_⟩
 ·by_cases e : y = x
  ·subst e; rw [upd_at, upd_at, upd_at]; exact hn
  ·rw [upd_ne _ _ e, upd_ne _ _ e, upd_ne _ _ e]
   have hy' := h.node y hy
   have hx' := h.node x hx
   refine ⟨⟨hy'.blk.blk.fr hf ?_, (hs _ hy'.blk.lt).trans hy'.blk.col⟩, ⟨own_fr hy'.row.own hf ?_, fun k hk => (hs _ (own_lt' hy'.row.own hk).2).trans (hy'.row.col k hk)⟩⟩
   ·rintro (e1 | e1)
    ·exact e e1
    ·have := hx'.row.col _ e1; rw [hy'.blk.col] at this; omega
   ·rintro k hk (e1 | e1)
    ·have := hy'.row.col k hk; rw [e1, hx'.blk.col] at this; omega
    ·exact h.apart y hy x hx e k hk e1
 ·by_cases e : y = x
  ·subst e
   rw [upd_at] at hk
   rw [upd_ne _ _ (Ne.symm hyz)]
   rcases ht with ht | ht
   ·rw [ht] at hk; exact h.apart y hy z hz hyz k hk
   ·intro hz'
    have := ht k hk
    have := (own_lt' (h.node z hz).row.own hz').2
    omega
  ·rw [upd_ne _ _ e] at hk
   by_cases e2 : z = x
   ·subst e2
    rw [upd_at]
    rcases ht with ht | ht
    ·rw [ht]; exact h.apart y hy z hz hyz k hk
    ·intro hz'
     have := ht k hz'
     have := (own_lt' (h.node y hy).row.own hk).2
     omega
   ·rw [upd_ne _ _ e2]; exact h.apart y hy z hz hyz k hk
end

theorem own_len (A : Option Addr) (n c m d : Nat) : (Value.slice A n c).ownBlock = (Value.slice A m d).ownBlock := by cases A <;> rfl
set_option maxHeartbeats 1000000 in
set_option maxRecDepth 100000 in
theorem reset_calls {w : World} {col : Col} {x : Nat} {nd : Nd} {tv : Value} {nx : Option Nat} (h : NodeC w col x nd tv nx) :
  Calls Tryz.prog 97 #[.pointer (some ⟨x, 0, none⟩)] w fun e w' => e = .returned (.tuple #[]) ∧ ∃ tv', NodeC w' col x ⟨false, 0, []⟩ tv' none ∧ tv'.ownBlock = tv.ownBlock ∧ Fr (fun k => k = x) w w' ∧ w'.heap.size = w.heap.size := by
 obtain ⟨A, c, rfl, hc1, hc2⟩ := h.slc
 have hb := h.blk.blk
 have s1 := hb.set 2 (.bool false)
 have s2 := s1.set 0 (.int .u64 0)
 have s3 := s2.set 1 (.slice A 0 c)
 have s4 := s3.set 3 (.pointer none)
 have c2 := hb.cell 2 rfl
 have z2 := hb.frz 2
 have c0 := s1.cell 0 rfl
 have z0 := s1.frz 0
 have c1 := s2.cell 1 rfl
 have z1 := s2.frz 1
 have c3 := s3.cell 3 rfl
 have z3 := s3.frz 3
 have hF : Fr (fun k => k = x) w ((((w.setCell ⟨x, 2, none⟩ (.bool false)).setCell ⟨x, 0, none⟩ (.int .u64 0)).setCell ⟨x, 1, none⟩ (.slice A 0 c)).setCell ⟨x, 3, none⟩ (.pointer none)) :=
  (((Fr.setCell (F := fun k => k = x) (p := ⟨x, 2, none⟩) (Fr.refl _ w) (fun _ => rfl) _).setCell (fun _ => rfl) _).setCell (fun _ => rfl) _).setCell (fun _ => rfl) _
 have hrow : (((w.setCell ⟨x, 2, none⟩ (.bool false)).setCell ⟨x, 0, none⟩ (.int .u64 0)).setCell ⟨x, 1, none⟩ (.slice A 0 c) |>.setCell ⟨x, 3, none⟩ (.pointer none)).ownsRow 0 196 3 (.slice A 0 c) 0 [] := by
  have h0 := own_fr h.row.own hF (fun k hk e => by have := h.row.col k hk; rw [e, h.blk.col] at this; omega)
  rcases h0.2 with ⟨e, _⟩ | ⟨g, cap, cur, e, hb, hg, r1, r2, r3, r4⟩
  ·injection e with a1 a2 a3
   subst a1 a3
   exact World.ownsRow_nil _ _ _ _
  ·injection e with a1 a2 a3
   subst a1 a3
   exact ⟨by simp, .inr ⟨g, c, cur, rfl, Nat.zero_le _, hg, Nat.zero_le _, r2, r3, by simp⟩⟩
 have hres : NodeC ((((w.setCell ⟨x, 2, none⟩ (.bool false)).setCell ⟨x, 0, none⟩ (.int .u64 0)).setCell ⟨x, 1, none⟩ (.slice A 0 c)).setCell ⟨x, 3, none⟩ (.pointer none)) col x ⟨false, 0, []⟩ (.slice A 0 c) none :=
  ⟨⟨s4, h.blk.col⟩, ⟨hrow, fun k hk => h.row.col k (by rw [own_len A _ c 0 c]; exact hk)⟩⟩
 have HE := Lib.hid (And.intro hres hF)
 have hsz : ((((w.setCell ⟨x, 2, none⟩ (.bool false)).setCell ⟨x, 0, none⟩ (.int .u64 0)).setCell ⟨x, 1, none⟩ (.slice A 0 c)).setCell ⟨x, 3, none⟩ (.pointer none)).heap.size = w.heap.size := by simp [World.setCell]
 have HS := Lib.hid hsz
 have e1 : (nd.arcs.length : Int) ≤ (c : Int) := by omega
 clear hres hF hrow s1 s2 s3 s4 hb h hsz
 generalize nd.arcs.length = n at *
 unfold maxLen at hc2
 go_enter Tryz.func97, Tryz.ntmps97
 go_wp2_with fail
 go_end0
 exact ⟨rfl, _, HE.out.1, own_len _ _ _ _ _, HE.out.2, HS.out⟩
end
section
open Go.RowKit Fmt

/-- A clean state. -/
abbrev nd0 : Nd := ⟨false, 0, []⟩
/-- The pool holds the states PL, each clean, each with the next one; its block has colour 7. -/
structure Pool (w : World) (col : Col) (pb : Nat) (PL : List Nat) (nd : Nat → Nd) (nx : Nat → Option Nat) : Prop where
 blk : BlkC w col 7 pb [ptrN PL.head?] 149
 chain : ∀ (i x : Nat), PL[i]? = some x → nx x = PL[i + 1]?
 clean : ∀ x, x ∈ PL → nd x = nd0
theorem Pool.kp {w w' : World} {col col' : Col} {C : Nat → Prop} {pb : Nat} {PL : List Nat} {nd : Nat → Nd} {nx : Nat → Option Nat} (h : Pool w col pb PL nd nx) (k : Kp C col w col' w') (h7 : ¬ C 7) : Pool w' col' pb PL nd nx := ⟨h.blk.kp k h7, h.chain, h.clean⟩
/-- The states that are not in the pool change. -/
theorem Pool.upd {w w' : World} {col col' : Col} {pb : Nat} {PL : List Nat} {nd : Nat → Nd} {nx : Nat → Option Nat} (h : Pool w col pb PL nd nx) (hb : BlkC w' col' 7 pb [ptrN PL.head?] 149) {x : Nat} (hx : x ∉ PL) (nd' : Nd) (nx' : Option Nat) : Pool w' col' pb PL (upd nd x nd') (upd nx x nx') :=
 ⟨hb, fun i y hy => by rw [upd_ne _ _ (fun e => hx (by rw [← e]; exact List.mem_of_getElem? hy))]; exact h.chain i y hy, fun y hy => by rw [upd_ne _ _ (fun e => hx (by rw [← e]; exact hy))]; exact h.clean y hy⟩
/-- The colours that states and the pool have. -/
def npc : Nat → Prop := fun d => d = 4 ∨ d = 5 ∨ d = 7

set_option maxHeartbeats 1000000 in
set_option maxRecDepth 100000 in
theorem put_calls {w : World} {col : Col} {pb : Nat} {L PL : List Nat} {nd : Nat → Nd} {tv : Nat → Value} {nx : Nat → Option Nat} (hN : Nds w col L nd tv nx) (hP : Pool w col pb PL nd nx) {x : Nat} (hx : x ∈ L) (hxp : x ∉ PL) :
  Calls Tryz.prog 94 #[.pointer (some ⟨pb, 0, none⟩), .pointer (some ⟨x, 0, none⟩)] w fun e w' => e = .returned (.tuple #[]) ∧ ∃ tv', Nds w' col L (upd nd x nd0) (upd tv x tv') (upd nx x PL.head?) ∧ Pool w' col pb (x :: PL) (upd nd x nd0) (upd nx x PL.head?) ∧ Kp npc col w col w' := by
 have hr := reset_calls (hN.node x hx)
 have hxb := (hN.node x hx).blk
 have hne : pb ≠ x := fun e => by have := hP.blk.col; rw [e, hxb.col] at this; omega
 have HH := Lib.hid (And.intro hN (And.intro hP (And.intro hxb hne)))
 have hPb := hP.blk
 clear hN hP hxb
 go_enter Tryz.func94, Tryz.ntmps94
 go_wp2_with fail
 refine hr.mono ?_
 rintro e w1 ⟨rfl, tv', hn1, ht1, hF1, hs1⟩
 obtain ⟨hN, hP, hxb, -⟩ := HH.out
 have hp1 : Blk w1 pb [ptrN PL.head?] 149 := hPb.blk.fr hF1 hne
 have p0 := hp1.cell 0 rfl
 have q3 := hn1.blk.blk.cell 3 rfl
 have z3 := hn1.blk.blk.frz 3
 have hx2 := hn1.blk.blk.set 3 (ptrN PL.head?)
 have hp2 := hp1.set_ne (a := ⟨x, 3, none⟩) hne (ptrN PL.head?)
 have hp3 := hp2.set 0 (.pointer (some ⟨x, 0, none⟩))
 have u0 := hp2.cell 0 rfl
 have uz := hp2.frz 0
 have hx3 := hx2.set_ne (a := ⟨pb, 0, none⟩) (Ne.symm hne) (.pointer (some ⟨x, 0, none⟩))
 have hF2 : Fr (fun k => k = x ∨ k = pb) w ((w1.setCell ⟨x, 3, none⟩ (ptrN PL.head?)).setCell ⟨pb, 0, none⟩ (.pointer (some ⟨x, 0, none⟩))) :=
  (Fr.setCell (F := fun k => k = x ∨ k = pb) (p := ⟨x, 3, none⟩) (hF1.mono (fun _ _ e => .inl e)) (fun _ => .inl rfl) _).setCell (fun _ => .inr rfl) _
 have hS : Fr (fun k => k = x ∨ k = pb) w1 ((w1.setCell ⟨x, 3, none⟩ (ptrN PL.head?)).setCell ⟨pb, 0, none⟩ (.pointer (some ⟨x, 0, none⟩))) :=
  (Fr.setCell (F := fun k => k = x ∨ k = pb) (p := ⟨x, 3, none⟩) (Fr.refl _ w1) (fun _ => .inl rfl) _).setCell (fun _ => .inr rfl) _
 have hrow : NodeC ((w1.setCell ⟨x, 3, none⟩ (ptrN PL.head?)).setCell ⟨pb, 0, none⟩ (.pointer (some ⟨x, 0, none⟩))) col x nd0 tv' PL.head? :=
  ⟨⟨hx3, hn1.blk.col⟩, ⟨own_fr hn1.row.own hS (fun k hk e => by
   have := hn1.row.col k hk
   rcases e with e | e
   ·rw [e, hn1.blk.col] at this; omega
   ·rw [e, hPb.col] at this; omega), hn1.row.col⟩⟩
 have hpbl : pb < w.heap.size := hPb.lt
 have hres : Nds ((w1.setCell ⟨x, 3, none⟩ (ptrN PL.head?)).setCell ⟨pb, 0, none⟩ (.pointer (some ⟨x, 0, none⟩))) col L (upd nd x nd0) (upd tv x tv') (upd nx x PL.head?) ∧ Pool ((w1.setCell ⟨x, 3, none⟩ (ptrN PL.head?)).setCell ⟨pb, 0, none⟩ (.pointer (some ⟨x, 0, none⟩))) col pb (x :: PL) (upd nd x nd0) (upd nx x PL.head?) ∧ Kp npc col w col ((w1.setCell ⟨x, 3, none⟩ (ptrN PL.head?)).setCell ⟨pb, 0, none⟩ (.pointer (some ⟨x, 0, none⟩))) := by
  refine ⟨?_, ⟨⟨hp3, hPb.col⟩, ?_, ?_⟩, ⟨hF2.mono (fun k hk e => ?_), fun _ _ => rfl, fun k h1 h2 => ?_⟩⟩
  · -- the pool's own block is none of the states'
   have hK : Kp (fun d => d = 7) col w1 col (w1.setCell ⟨pb, 0, none⟩ (.pointer (some ⟨x, 0, none⟩))) := kp_set hPb.col 0 _
   refine ⟨hN.nodup, fun y hy => ?_, fun y hy z hz hyz k hk => ?_⟩
   ·by_cases e : y = x
    ·subst e; rw [upd_at, upd_at, upd_at]; exact hrow
    ·rw [upd_ne _ _ e, upd_ne _ _ e, upd_ne _ _ e]
     have hy' := hN.node y hy
     refine ⟨⟨hy'.blk.blk.fr hF2 ?_, hy'.blk.col⟩, ⟨own_fr hy'.row.own hF2 ?_, hy'.row.col⟩⟩
     ·rintro (e1 | e1)
      ·exact e e1
      ·have := hy'.blk.col; rw [e1, hPb.col] at this; omega
     ·rintro k hk (e1 | e1)
      ·have := hy'.row.col k hk; rw [e1, hxb.col] at this; omega
      ·have := hy'.row.col k hk; rw [e1, hPb.col] at this; omega
   ·have e3 : (upd tv x tv' y).ownBlock = (tv y).ownBlock := by
     by_cases e : y = x
     ·subst e; rw [upd_at]; exact ht1
     ·rw [upd_ne _ _ e]
    have e4 : (upd tv x tv' z).ownBlock = (tv z).ownBlock := by
     by_cases e : z = x
     ·subst e; rw [upd_at]; exact ht1
     ·rw [upd_ne _ _ e]
    rw [e3] at hk
    rw [e4]
    exact hN.apart y hy z hz hyz k hk
  ·intro i y hy
   cases i with
   | zero =>
    simp only [List.getElem?_cons_zero, Option.some.injEq] at hy
    subst hy
    rw [upd_at]; simp [List.head?_eq_getElem?]
   | succ i =>
    simp only [List.getElem?_cons_succ] at hy ⊢
    rw [upd_ne _ _ (fun e => hxp (by rw [← e]; exact List.mem_of_getElem? hy))]
    exact hP.chain i y hy
  ·intro y hy
   by_cases e : y = x
   ·subst e; rw [upd_at]
   ·rw [upd_ne _ _ e]
    exact hP.clean y ((List.mem_cons.1 hy).resolve_left e)
  ·rcases e with rfl | rfl
   ·exact .inl hxb.col
   ·exact .inr (.inr hPb.col)
  ·simp [World.setCell] at h2; omega
 have HE := Lib.hid hres
 clear hres hF2 hS hrow hx2 hx3 hp2 hp3 hn1 hF1 hN hP hp1 hr hPb ht1
 obtain ⟨o, ho⟩ : ∃ o, Hid (ptrN PL.head? = .pointer o) := ⟨_, Lib.hid rfl⟩
 rw [ho.out] at HE p0 u0 uz
 go_wp2_with fail
 go_end0
 exact ⟨rfl, tv', HE.out⟩
end
section
open Go.RowKit Fmt

/-- What Get yields: a state out of the pool, or a new one. -/
def GetPost (w : World) (col : Col) (pb : Nat) (L PL : List Nat) (nd : Nat → Nd) (nx : Nat → Option Nat) (x : Nat) (w' : World) : Prop :=
 ∃ L' nd' tv' nx' col', Nds w' col' L' nd' tv' nx' ∧ Pool w' col' pb PL.tail nd' nx' ∧ x ∈ L' ∧ x ∉ PL.tail ∧ (L' = x :: L ∧ x ∉ L ∨ L' = L ∧ PL.head? = some x) ∧ nd' x = nd0 ∧ (∀ y, y ∈ L → nd' y = nd y ∧ nx' y = nx y) ∧ Kp npc col w col' w'

theorem Nds.new {w w' : World} {col : Col} {L : List Nat} {nd : Nat → Nd} {tv : Nat → Value} {nx : Nat → Option Nat} (h : Nds w col L nd tv nx) (hw : w' = w.alloc (.cells #[.int .u64 0, .slice none 0 0, .bool false, .pointer none] 156)) :
  Nds w' (paint w.heap.size 4 col) (w.heap.size :: L) (upd nd w.heap.size nd0) (upd tv w.heap.size (.slice none 0 0)) (upd nx w.heap.size none) ∧ w.heap.size ∉ L ∧ Kp npc col w (paint w.heap.size 4 col) w' := by
 have hF : Fr (fun _ => False) w w' := by rw [hw]; exact (Fr.refl _ w).alloc _
 have hK : Kp (fun d => d = 4) col w (paint w.heap.size 4 col) w' := Kp.news hF 4 rfl
 have hK0 : Kp (fun _ => True) col w (paint w.heap.size 4 col) w' := hK.mono fun _ _ => trivial
 have hn : w.heap.size ∉ L := fun e => by have := (h.node _ e).blk.lt; omega
 have hne : ∀ y, y ∈ L → y ≠ w.heap.size := fun y hy e => hn (e ▸ hy)
 refine ⟨⟨List.nodup_cons.2 ⟨hn, h.nodup⟩, fun y hy => ?_, fun y hy z hz hyz k hk => ?_⟩, hn, hK.mono fun _ e => .inl e⟩
 ·rcases List.mem_cons.1 hy with e | hy
  ·subst e
   rw [upd_at, upd_at, upd_at]
   refine ⟨⟨?_, paint_ge (Nat.le_refl _)⟩, OwnC.nil _ _ _ _ _⟩
   rw [hw]; exact Blk.new w _ _
  ·rw [upd_ne _ _ (hne y hy), upd_ne _ _ (hne y hy), upd_ne _ _ (hne y hy)]
   have hy' := h.node y hy
   refine ⟨⟨hy'.blk.blk.fr hF (fun e => e), (paint_lt hy'.blk.lt).trans hy'.blk.col⟩, ⟨own_fr hy'.row.own hF (fun _ _ e => e), fun k hk => (paint_lt (own_lt' hy'.row.own hk).2).trans (hy'.row.col k hk)⟩⟩
 ·rcases List.mem_cons.1 hy with e | hy
  ·subst e
   rw [upd_at] at hk
   simp [Value.ownBlock] at hk
  ·rw [upd_ne _ _ (hne y hy)] at hk
   rcases List.mem_cons.1 hz with e | hz
   ·subst e
    rw [upd_at]; simp [Value.ownBlock]
   ·rw [upd_ne _ _ (hne z hz)]
    exact h.apart y hy z hz hyz k hk

set_option maxHeartbeats 1000000 in
set_option maxRecDepth 100000 in
theorem get_calls {w : World} {col : Col} {pb : Nat} {L PL : List Nat} {nd : Nat → Nd} {tv : Nat → Value} {nx : Nat → Option Nat} (hN : Nds w col L nd tv nx) (hP : Pool w col pb PL nd nx) (hs : ∀ y, y ∈ PL → y ∈ L) (hd : PL.Nodup) :
  Calls Tryz.prog 75 #[.pointer (some ⟨pb, 0, none⟩)] w fun e w' => ∃ x, e = .returned (.pointer (some ⟨x, 0, none⟩)) ∧ GetPost w col pb L PL nd nx x w' := by
 cases PL with
 | nil =>
  have hp0 := hP.blk.blk.cell 0 rfl
  have hn := hN.new rfl
  have hres : GetPost w col pb L [] nd nx w.heap.size (w.alloc (.cells #[.int .u64 0, .slice none 0 0, .bool false, .pointer none] 156)) := by
   refine ⟨_, _, _, _, _, hn.1, ⟨?_, fun i y hy => by simp at hy, fun y hy => by simp at hy⟩, List.mem_cons_self, by simp, .inl ⟨rfl, hn.2.1⟩, upd_at _ _ _, fun y hy => ?_, hn.2.2⟩
   ·refine ⟨hP.blk.blk.alloc _, (paint_lt hP.blk.lt).trans hP.blk.col⟩
   ·have : y ≠ w.heap.size := fun e => hn.2.1 (e ▸ hy)
    exact ⟨upd_ne _ _ this, upd_ne _ _ this⟩
  have HE := Lib.hid hres
  clear hres hn hN hP hs hd
  have hp1 : w.cell? ⟨pb, 0, none⟩ = some (.pointer none) := hp0
  clear hp0
  go_enter Tryz.func75, Tryz.ntmps75
  go_wp2_with fail
  go_ret
  exact ⟨_, rfl, HE.out⟩
 | cons x PL =>
  have hx := hs x List.mem_cons_self
  have hp1 : w.cell? ⟨pb, 0, none⟩ = some (.pointer (some ⟨x, 0, none⟩)) := hP.blk.blk.cell 0 rfl
  have hpz := hP.blk.blk.frz 0
  have hnx : nx x = PL.head? := by
   have := hP.chain 0 x rfl
   rw [this]; simp [List.head?_eq_getElem?]
  have hx3 : w.cell? ⟨x, 3, none⟩ = some (ptrN PL.head?) := by
   have := (hN.node x hx).blk.blk.cell 3 rfl
   rwa [hnx] at this
  have hb := hP.blk.blk.set 0 (ptrN PL.head?)
  have hK : Kp (fun d => d = 7) col w col (w.setCell ⟨pb, 0, none⟩ (ptrN PL.head?)) := kp_set hP.blk.col 0 _
  have hres : GetPost w col pb L (x :: PL) nd nx x (w.setCell ⟨pb, 0, none⟩ (ptrN PL.head?)) := by
   refine ⟨_, _, _, _, _, hN.kp hK (by omega) (by omega), ⟨⟨hb, hP.blk.col⟩, fun i y hy => hP.chain (i + 1) y hy, fun y hy => hP.clean y (List.mem_cons_of_mem _ hy)⟩, hx, (List.nodup_cons.1 hd).1, .inr ⟨rfl, rfl⟩, hP.clean x List.mem_cons_self, fun y _ => ⟨rfl, rfl⟩, hK.mono fun d e => .inr (.inr e)⟩
  have HE := Lib.hid hres
  obtain ⟨o, ho⟩ : ∃ o, Hid (ptrN PL.head? = .pointer o) := ⟨_, Lib.hid rfl⟩
  rw [ho.out] at HE hx3
  clear hres hK hb hN hP hs hd hx hnx
  go_enter Tryz.func75, Tryz.ntmps75
  go_wp2_with fail
  go_ret
  exact ⟨_, rfl, HE.out⟩
end
section
open Go.RowKit Fmt

/-- An open state's four cells: its node, the last transition's output and key, whether there is one. -/
structure Ue where
 x : Option Nat
 lo : Nat
 li : Nat
 hl : Bool
def Ue.cells (u : Ue) : List Value := [ptrN u.x, .int .u64 (u.lo : Int), .int .u8 (u.li : Int), .bool u.hl]
abbrev ue0 : Ue := ⟨none, 0, 0, false⟩
/-- A row of four-cell parts. -/
def rng4 (f : Nat → List Value) (n : Nat) : List Value := (List.range n).flatMap f
theorem rng4_succ (f : Nat → List Value) (n : Nat) : rng4 f (n + 1) = rng4 f n ++ f n := by
 unfold rng4; rw [List.range_succ]; simp
theorem rng4_len {f : Nat → List Value} (hf : ∀ i, (f i).length = 4) : ∀ n, (rng4 f n).length = n * 4
 | 0 => rfl
 | n + 1 => by rw [rng4_succ, List.length_append, rng4_len hf n, hf]; omega
theorem rng4_at {f : Nat → List Value} (hf : ∀ i, (f i).length = 4) : ∀ {n i j : Nat}, i < n → j < 4 → (rng4 f n)[i * 4 + j]? = (f i)[j]?
 | 0, i, j, h, _ => absurd h (by omega)
 | n + 1, i, j, h, hj => by
  rw [rng4_succ]
  by_cases e : i = n
  ·subst e
   rw [List.getElem?_append_right (by rw [rng4_len hf]; omega), rng4_len hf]
   congr 1; omega
  ·rw [List.getElem?_append_left (by rw [rng4_len hf]; omega)]
   exact rng4_at hf (by omega) hj
theorem rng4_congr {f g : Nat → List Value} : ∀ {n : Nat}, (∀ i, i < n → f i = g i) → rng4 f n = rng4 g n
 | 0, _ => rfl
 | n + 1, h => by rw [rng4_succ, rng4_succ, rng4_congr (fun i hi => h i (by omega)), h n (by omega)]
theorem rng4_set {f : Nat → List Value} (hf : ∀ i, (f i).length = 4) (v : Value) : ∀ {n i j : Nat}, i < n → j < 4 → (rng4 f n).set (i * 4 + j) v = rng4 (upd f i ((f i).set j v)) n
 | 0, i, j, h, _ => absurd h (by omega)
 | n + 1, i, j, h, hj => by
  rw [rng4_succ, rng4_succ]
  by_cases e : i = n
  ·subst e
   rw [List.set_append_right _ _ (by rw [rng4_len hf]; omega), rng4_len hf, upd_at, show i * 4 + j - i * 4 = j by omega]
   congr 1
   exact rng4_congr fun k hk => (upd_ne _ _ (by omega)).symm
  ·rw [List.set_append_left _ _ (by rw [rng4_len hf]; omega), rng4_set hf v (by omega) hj, upd_ne _ _ (fun e2 => e e2.symm)]
/-- The cache's parts: an open state's, or zeros. -/
def cpart (vs : List Ue) (i : Nat) : List Value := match vs[i]? with
 | some u => u.cells
 | none => ue0.cells
theorem cpart_len (vs : List Ue) (i : Nat) : (cpart vs i).length = 4 := by unfold cpart; split <;> rfl
/-- Where the i-th open state lies: in the cache, or in a block of its own. -/
def plc (cb : Nat) (bs : Nat → Nat) (i : Nat) : Nat × Nat := if i < 64 then (cb, i * 4) else (bs i, 0)
/-- The open states: vs are laid, the first m of them are on the stack. Colour 6. -/
structure Unf (w : World) (col : Col) (ub cb pb : Nat) (sv : Value) (full : List Value) (bs : Nat → Nat) (m : Nat) (vs : List Ue) : Prop where
 blk : BlkC w col 6 ub [sv, .slice (some ⟨cb, 0, none⟩) 64 64, .pointer (some ⟨pb, 0, none⟩)] 163
 cache : BlkC w col 6 cb (rng4 (cpart vs) 64) 158
 far : ∀ i u, 64 ≤ i → vs[i]? = some u → BlkC w col 6 (bs i) u.cells 158
 sep : ∀ i, 64 ≤ i → i < vs.length → bs i ≠ cb
 inj : ∀ i j, 64 ≤ i → 64 ≤ j → i < vs.length → j < vs.length → bs i = bs j → i = j
 row : RowC w col 6 159 1 sv m full
 ptr : ∀ i, i < m → full[i]? = some (.pointer (some ⟨(plc cb bs i).1, (plc cb bs i).2, none⟩))
 le : m ≤ vs.length
section
variable {w w' : World} {col col' : Col} {C : Nat → Prop} {ub cb pb m : Nat} {sv : Value} {full : List Value} {bs : Nat → Nat} {vs : List Ue}
theorem Unf.kp (h : Unf w col ub cb pb sv full bs m vs) (k : Kp C col w col' w') (h6 : ¬ C 6) : Unf w' col' ub cb pb sv full bs m vs :=
 ⟨h.blk.kp k h6, h.cache.kp k h6, fun i u hi hu => (h.far i u hi hu).kp k h6, h.sep, h.inj, h.row.kp k h6, h.ptr, h.le⟩
theorem Unf.drew (h : Unf w col ub cb pb sv full bs m vs) : Unf w.drew col ub cb pb sv full bs m vs :=
 ⟨h.blk.drew, h.cache.drew, fun i u hi hu => (h.far i u hi hu).drew, h.sep, h.inj, h.row.drew, h.ptr, h.le⟩
/-- A cell of an open state. -/
theorem Unf.cell (h : Unf w col ub cb pb sv full bs m vs) {i : Nat} {u : Ue} (hu : vs[i]? = some u) {j : Nat} {v : Value} (hv : u.cells[j]? = some v) :
  w.cell? ⟨(plc cb bs i).1, (plc cb bs i).2 + j, none⟩ = some v ∧ w.frozen? ⟨(plc cb bs i).1, (plc cb bs i).2 + j, none⟩ = false := by
 have hj : j < 4 := (List.getElem?_eq_some_iff.1 hv).1
 unfold plc
 split
 ·next hi =>
  refine ⟨h.cache.blk.cell _ ?_, h.cache.blk.frz _⟩
  rw [rng4_at (cpart_len vs) hi hj]
  unfold cpart; rw [hu]; exact hv
 ·next hi =>
  have hb := h.far i u (by omega) hu
  exact ⟨hb.blk.cell _ (by simpa using hv), hb.blk.frz _⟩
/-- A cell of an open state written. -/
theorem Unf.set (h : Unf w col ub cb pb sv full bs m vs) {i : Nat} {u u' : Ue} (hu : vs[i]? = some u) {j : Nat} {v : Value} (hj : j < 4) (hc : u'.cells = u.cells.set j v) :
  Unf (w.setCell ⟨(plc cb bs i).1, (plc cb bs i).2 + j, none⟩ v) col ub cb pb sv full bs m (vs.set i u') := by
 have hil := (List.getElem?_eq_some_iff.1 hu).1
 have hget : ∀ k, (vs.set i u')[k]? = if k = i then some u' else vs[k]? := fun k => by
  rw [List.getElem?_set]
  by_cases e : k = i
  ·subst e; simp [hil]
  ·rw [if_neg (fun e2 => e e2.symm), if_neg e]
 have hcp : ∀ k, cpart (vs.set i u') k = upd (cpart vs) i ((cpart vs i).set j v) k := fun k => by
  by_cases e : k = i
  ·subst e
   rw [upd_at]; unfold cpart; rw [hget, if_pos rfl, hu]; exact hc
  ·rw [upd_ne _ _ e]; unfold cpart; rw [hget, if_neg e]
 have hne : h.blk.blk.lt = h.blk.blk.lt := rfl
 have hbt : ∀ {b : Nat} {cs : List Value} {t : TypeId}, Blk w b cs t → t ≠ 158 → b ≠ (plc cb bs i).1 := fun {b cs t} hb ht => by
  unfold plc
  split
  ·exact blk_ne hb h.cache.blk ht
  ·exact blk_ne hb (h.far i u (by omega) hu).blk ht
 have hpc : col (plc cb bs i).1 = 6 := by
  unfold plc; split
  ·exact h.cache.col
  ·exact (h.far i u (by omega) hu).col
 refine ⟨⟨h.blk.blk.set_ne (hbt h.blk.blk (by decide)) v, h.blk.col⟩, ⟨?_, h.cache.col⟩, fun k q hk hq => ?_, fun k hk hl => h.sep k hk (by simpa using hl), fun k k2 hk hk2 hl hl2 => h.inj k k2 hk hk2 (by simpa using hl) (by simpa using hl2), ⟨?_, h.row.col⟩, h.ptr, by simpa using h.le⟩
 ·by_cases hi : i < 64
  ·have := h.cache.blk.set (i * 4 + j) v
   rw [rng4_set (cpart_len vs) v hi hj] at this
   rw [rng4_congr (fun k _ => hcp k)]
   unfold plc; rw [if_pos hi]; exact this
  ·have e : rng4 (cpart (vs.set i u')) 64 = rng4 (cpart vs) 64 := rng4_congr fun k hk => by rw [hcp, upd_ne _ _ (by omega)]
   rw [e]
   refine h.cache.blk.set_ne ?_ v
   unfold plc; rw [if_neg hi]; exact Ne.symm (h.sep i (by omega) hil)
 ·rw [hget] at hq
  by_cases e : k = i
  ·subst e
   rw [if_pos rfl, Option.some.injEq] at hq
   subst hq
   have hb := h.far k u hk hu
   refine ⟨?_, hb.col⟩
   have := hb.blk.set j v
   rw [hc]
   unfold plc; rw [if_neg (by omega)]; simpa using this
  ·rw [if_neg e] at hq
   have hb := h.far k q hk hq
   refine ⟨hb.blk.set_ne ?_ v, hb.col⟩
   have hkl := (List.getElem?_eq_some_iff.1 hq).1
   unfold plc
   split
   ·exact h.sep k hk hkl
   ·exact fun e2 => e (h.inj k i hk (by omega) hkl hil e2)
 ·have hF : Fr (fun k => k = (plc cb bs i).1) w (w.setCell ⟨(plc cb bs i).1, (plc cb bs i).2 + j, none⟩ v) := Fr.setCell (F := fun k => k = (plc cb bs i).1) (p := ⟨(plc cb bs i).1, (plc cb bs i).2 + j, none⟩) (Fr.refl _ w) (fun _ => rfl) v
  refine h.row.row.fr hF fun b hb e => ?_
  obtain ⟨g, cap, e1, e2⟩ : ∃ g cap, sv = .slice (some ⟨g, 0, none⟩) m cap ∧ Blk w g full 159 := by
   rcases h.row.row with ⟨rfl, _⟩ | ⟨g, cap, rfl, hb2, _⟩
   ·simp [Value.ownBlock] at hb
   ·exact ⟨g, cap, rfl, hb2⟩
  subst e1
  simp [Value.ownBlock] at hb
  subst hb
  exact hbt e2 (by decide) e
end
end
section
open Go.RowKit Fmt

theorem RowC.cap {w : World} {col : Col} {c : Nat} {e : TypeId} {size : Nat} {v : Value} {n : Nat} {full : List Value} (h : RowC w col c e size v n full) : ∃ A cap, v = .slice A n cap ∧ n ≤ cap ∧ cap ≤ maxLen := by
 obtain ⟨A, cap, h1, h2, h3, _⟩ := h.row.slc
 exact ⟨A, cap, h1, h2, h3⟩
section
variable {w : World} {col : Col} {ub cb pb : Nat} {sv : Value} {full : List Value} {bs : Nat → Nat} {vs : List Ue}
theorem Unf.drewN {m : Nat} (h : Unf w col ub cb pb sv full bs m vs) (q : Nat) : Unf (w.drewN q) col ub cb pb sv full bs m vs := h.kp ((Kp.refl (fun _ => False) col w).drewN q) (fun e => e)
/-- A further one is laid: in the cache, where zeros lie, nothing is written. -/
theorem Unf.more (h : Unf w col ub cb pb sv full bs vs.length vs) (hl : vs.length < 64) : Unf w col ub cb pb sv full bs vs.length (vs ++ [ue0]) := by
 have hcp : rng4 (cpart (vs ++ [ue0])) 64 = rng4 (cpart vs) 64 := rng4_congr fun i _ => by
  unfold cpart
  by_cases e : i < vs.length
  ·rw [List.getElem?_append_left e]
  ·rw [List.getElem?_append_right (by omega), List.getElem?_eq_none (by omega : vs.length ≤ i)]
   by_cases e2 : i - vs.length = 0
   ·rw [e2]; rfl
   ·rw [List.getElem?_eq_none (by simp; omega)]
 refine ⟨h.blk, by rw [hcp]; exact h.cache, fun i u hi hu => ?_, fun i hi h2 => ?_, fun i j hi hj h2 h3 => ?_, h.row, h.ptr, by simp⟩
 ·have := (List.getElem?_eq_some_iff.1 hu).1; simp at this; omega
 ·simp at h2; omega
 ·simp at h2; omega
theorem Unf.more64 (h : Unf w col ub cb pb sv full bs vs.length vs) (hl : 64 ≤ vs.length) {w' : World} (hw : w' = w.alloc (.cells ue0.cells.toArray 158)) :
  Unf w' (paint w.heap.size 6 col) ub cb pb sv full (upd bs vs.length w.heap.size) vs.length (vs ++ [ue0]) ∧ Kp (fun d => d = 6) col w (paint w.heap.size 6 col) w' := by
 have hF : Fr (fun _ => False) w w' := by rw [hw]; exact (Fr.refl _ w).alloc _
 have hK : Kp (fun d => d = 6) col w (paint w.heap.size 6 col) w' := Kp.news hF 6 rfl
 have hb : ∀ {b : Nat} {cs : List Value} {t : TypeId}, BlkC w col 6 b cs t → BlkC w' (paint w.heap.size 6 col) 6 b cs t := fun {b cs t} hb => ⟨hb.blk.fr hF (fun e => e), (paint_lt hb.lt).trans hb.col⟩
 have hcp : rng4 (cpart (vs ++ [ue0])) 64 = rng4 (cpart vs) 64 := rng4_congr fun i hi => by
  unfold cpart
  rw [List.getElem?_append_left (by omega)]
 refine ⟨⟨hb h.blk, by rw [hcp]; exact hb h.cache, fun i u hi hu => ?_, fun i hi h2 => ?_, fun i j hi hj h2 h3 e => ?_, ⟨h.row.row.fr hF (fun _ _ e => e), fun k hk => (paint_lt (h.row.row.lt hk)).trans (h.row.col k hk)⟩, fun i hi => ?_, by simp⟩, hK⟩
 ·by_cases e : i = vs.length
  ·subst e
   rw [List.getElem?_append_right (Nat.le_refl _), Nat.sub_self, List.getElem?_cons_zero, Option.some.injEq] at hu
   subst hu
   rw [upd_at]
   exact ⟨by rw [hw]; exact Blk.new w _ _, paint_ge (Nat.le_refl _)⟩
  ·have hil := (List.getElem?_eq_some_iff.1 hu).1
   simp at hil
   rw [List.getElem?_append_left (by omega)] at hu
   rw [upd_ne _ _ e]; exact hb (h.far i u hi hu)
 ·by_cases e : i = vs.length
  ·subst e; rw [upd_at]; have := h.cache.lt; omega
  ·simp at h2
   rw [upd_ne _ _ e]; exact h.sep i hi (by omega)
 ·simp at h2 h3
  have hlt : ∀ k, 64 ≤ k → k < vs.length → bs k < w.heap.size := fun k hk hl => (h.far k vs[k] hk (List.getElem?_eq_getElem hl)).lt
  by_cases e1 : i = vs.length
  ·by_cases e2 : j = vs.length
   ·omega
   ·subst e1
    rw [upd_at, upd_ne _ _ e2] at e
    have := hlt j hj (by omega); omega
  ·by_cases e2 : j = vs.length
   ·subst e2
    rw [upd_at, upd_ne _ _ e1] at e
    have := hlt i hi (by omega); omega
   ·rw [upd_ne _ _ e1, upd_ne _ _ e2] at e
    exact h.inj i j hi hj (by omega) (by omega) e
 ·rw [h.ptr i hi]
  unfold plc
  split
  ·rfl
  ·rw [upd_ne _ _ (by omega)]

set_option maxHeartbeats 1000000 in
set_option maxRecDepth 100000 in
theorem uget_calls (h : Unf w col ub cb pb sv full bs vs.length vs) :
  Calls Tryz.prog 74 #[.pointer (some ⟨ub, 0, none⟩)] w fun e w' => ∃ bs' col', e = .returned (.pointer (some ⟨(plc cb bs' vs.length).1, (plc cb bs' vs.length).2, none⟩)) ∧ Unf w' col' ub cb pb sv full bs' vs.length (vs ++ [ue0]) ∧ Kp (fun d => d = 6) col w col' w' := by
 obtain ⟨A, cap, hsv, hcap, hmax⟩ := h.row.cap
 subst hsv
 have p0 := h.blk.blk.cell 0 rfl
 have p1 := h.blk.blk.cell 1 rfl
 by_cases hl : vs.length < 64
 ·have HE := Lib.hid (show Unf w col ub cb pb (.slice A vs.length cap) full bs vs.length (vs ++ [ue0]) ∧ Kp (fun d => d = 6) col w col w from ⟨h.more hl, Kp.refl _ _ _⟩)
  have hpl : plc cb bs vs.length = (cb, vs.length * 4) := if_pos hl
  have HP := Lib.hid hpl
  clear h hpl
  generalize hn : vs.length = n at *
  have HN := Lib.hid hn
  clear hn
  have hl' : (n : Int) < 64 := by omega
  go_enter Tryz.func74, Tryz.ntmps74
  go_wp2_with fail
  go_quiet (fail)
  go_wp2_with fail
  go_quiet (fail)
  go_wp2_with fail
  go_ret
  refine ⟨bs, col, by rw [HP.out]; rfl, (HE.out.1.drewN _).drewN _, (HE.out.2.drewN _).drewN _⟩
 ·have HE := Lib.hid (fun q => (h.drewN q).more64 (by omega) rfl)
  have hpl : plc cb (upd bs vs.length w.heap.size) vs.length = (w.heap.size, 0) := by unfold plc; rw [if_neg hl, upd_at]
  have HP := Lib.hid hpl
  clear h hpl
  generalize hn : vs.length = n at *
  have HN := Lib.hid hn
  clear hn
  have hl' : ¬ (n : Int) < 64 := by omega
  go_enter Tryz.func74, Tryz.ntmps74
  go_wp2_with fail
  go_quiet (fail)
  rename_i nq
  go_wp2_with fail
  go_ret
  refine ⟨_, _, by rw [show plc cb (upd bs n (w.drewN nq).heap.size) n = (w.heap.size, 0) from HP.out]; rfl, (HE.out nq).1, ?_⟩
  exact ((Kp.refl _ col w).drewN _).trans (HE.out _).2
end
end
section
open Go.RowKit Fmt

/-- Four cells v and the state x stand for the open state u. -/
structure RepI (nd : Nat → Nd) (v : Ue) (u : Un) (x : Nat) : Prop where
 hx : v.x = some x
 hn : nd x = u.nd
 yes : ∀ i o, u.last = some (i, o) → v.hl = true ∧ v.li = i ∧ v.lo = o
 no : u.last = none → v.hl = false
structure Rep (nd : Nat → Nd) (vs : List Ue) (st : List Un) (xs : List Nat) : Prop where
 len : vs.length = st.length
 lenx : xs.length = st.length
 rep : ∀ (i : Nat) (v : Ue) (u : Un) (x : Nat), vs[i]? = some v → st[i]? = some u → xs[i]? = some x → RepI nd v u x
section
variable {nd : Nat → Nd} {vs : List Ue} {st : List Un} {xs : List Nat}
theorem Rep.nil (nd : Nat → Nd) : Rep nd [] [] [] := ⟨rfl, rfl, fun i v u x h => by simp at h⟩
theorem Rep.get (h : Rep nd vs st xs) {i : Nat} {u : Un} (hu : st[i]? = some u) : ∃ v x, vs[i]? = some v ∧ xs[i]? = some x ∧ RepI nd v u x := by
 have hl := (List.getElem?_eq_some_iff.1 hu).1
 have h1 : i < vs.length := by rw [h.len]; exact hl
 have h2 : i < xs.length := by rw [h.lenx]; exact hl
 exact ⟨vs[i], xs[i], List.getElem?_eq_getElem h1, List.getElem?_eq_getElem h2, h.rep i _ u _ (List.getElem?_eq_getElem h1) hu (List.getElem?_eq_getElem h2)⟩
theorem Rep.snoc (h : Rep nd vs st xs) {v : Ue} {u : Un} {x : Nat} (hr : RepI nd v u x) : Rep nd (vs ++ [v]) (st ++ [u]) (xs ++ [x]) := by
 refine ⟨by simp [h.len], by simp [h.lenx], fun i v' u' x' h1 h2 h3 => ?_⟩
 have hl := (List.getElem?_eq_some_iff.1 h2).1
 simp at hl
 by_cases e : i < st.length
 ·rw [List.getElem?_append_left (by rw [h.len]; exact e)] at h1
  rw [List.getElem?_append_left e] at h2
  rw [List.getElem?_append_left (by rw [h.lenx]; exact e)] at h3
  exact h.rep i _ _ _ h1 h2 h3
 ·have e2 : i = st.length := by omega
  subst e2
  rw [List.getElem?_append_right (by rw [h.len]; omega), h.len, Nat.sub_self, List.getElem?_cons_zero, Option.some.injEq] at h1
  rw [List.getElem?_append_right (by omega), Nat.sub_self, List.getElem?_cons_zero, Option.some.injEq] at h2
  rw [List.getElem?_append_right (by rw [h.lenx]; omega), h.lenx, Nat.sub_self, List.getElem?_cons_zero, Option.some.injEq] at h3
  subst h1 h2 h3; exact hr
theorem Rep.last {u : Un} (h : Rep nd vs (st ++ [u]) xs) : ∃ vs' v xs' x, vs = vs' ++ [v] ∧ xs = xs' ++ [x] ∧ vs'.length = st.length ∧ xs'.length = st.length ∧ Rep nd vs' st xs' ∧ RepI nd v u x := by
 have hv := h.len
 have hx := h.lenx
 simp at hv hx
 rcases List.eq_nil_or_concat vs with rfl | ⟨vs', v, rfl⟩
 ·simp at hv
 rcases List.eq_nil_or_concat xs with rfl | ⟨xs', x, rfl⟩
 ·simp at hx
 simp at hv hx
 refine ⟨vs', v, xs', x, by simp, by simp, hv, hx, ⟨hv, hx, fun i v' u' x' h1 h2 h3 => ?_⟩, ?_⟩
 ·refine h.rep i v' u' x' ?_ ?_ ?_
  ·simp only [List.concat_eq_append]; rw [List.getElem?_append_left (List.getElem?_eq_some_iff.1 h1).1]; exact h1
  ·rw [List.getElem?_append_left (List.getElem?_eq_some_iff.1 h2).1]; exact h2
  ·simp only [List.concat_eq_append]; rw [List.getElem?_append_left (List.getElem?_eq_some_iff.1 h3).1]; exact h3
 ·refine h.rep st.length v u x ?_ ?_ ?_
  ·simp only [List.concat_eq_append]; rw [List.getElem?_append_right (by omega), hv, Nat.sub_self]; rfl
  ·rw [List.getElem?_append_right (by omega), Nat.sub_self]; rfl
  ·simp only [List.concat_eq_append]; rw [List.getElem?_append_right (by omega), hx, Nat.sub_self]; rfl
theorem Rep.nds (h : Rep nd vs st xs) {nd' : Nat → Nd} (hn : ∀ x, x ∈ xs → nd' x = nd x) : Rep nd' vs st xs :=
 ⟨h.len, h.lenx, fun i v u x h1 h2 h3 => have r := h.rep i v u x h1 h2 h3; ⟨r.hx, by rw [hn x (List.mem_of_getElem? h3)]; exact r.hn, r.yes, r.no⟩⟩
/-- One open state changes: its cells, its node. -/
theorem Rep.put (h : Rep nd vs st xs) (hd : xs.Nodup) {i x : Nat} (hx : xs[i]? = some x) {n' : Nd} {v' : Ue} {u' : Un} (hr : RepI (upd nd x n') v' u' x) : Rep (upd nd x n') (vs.set i v') (st.set i u') xs := by
 refine ⟨by simp [h.len], by simp [h.lenx], fun k v u y h1 h2 h3 => ?_⟩
 by_cases e : k = i
 ·subst e
  rw [List.getElem?_set_self (by rw [h.len]; have := (List.getElem?_eq_some_iff.1 h2).1; simpa using this), Option.some.injEq] at h1
  rw [List.getElem?_set_self (by have := (List.getElem?_eq_some_iff.1 h2).1; simpa using this), Option.some.injEq] at h2
  rw [hx, Option.some.injEq] at h3
  subst h1 h2 h3; exact hr
 ·rw [List.getElem?_set_ne (Ne.symm e)] at h1 h2
  have r := h.rep k v u y h1 h2 h3
  have hne : y ≠ x := by
   intro e2; subst e2
   have h3' := List.getElem?_eq_some_iff.1 h3
   have hx' := List.getElem?_eq_some_iff.1 hx
   exact e ((List.getElem_inj hd).1 (h3'.2.trans hx'.2.symm))
  exact ⟨r.hx, by rw [upd_ne _ _ hne]; exact r.hn, r.yes, r.no⟩
/-- One open state's cells change. -/
theorem Rep.set (h : Rep nd vs st xs) {i x : Nat} (hx : xs[i]? = some x) {v' : Ue} {u' : Un} (hr : RepI nd v' u' x) : Rep nd (vs.set i v') (st.set i u') xs := by
 refine ⟨by simp [h.len], by simp [h.lenx], fun k v u y h1 h2 h3 => ?_⟩
 by_cases e : k = i
 ·subst e
  rw [List.getElem?_set_self (by rw [h.len]; have := (List.getElem?_eq_some_iff.1 h2).1; simpa using this), Option.some.injEq] at h1
  rw [List.getElem?_set_self (by have := (List.getElem?_eq_some_iff.1 h2).1; simpa using this), Option.some.injEq] at h2
  rw [hx, Option.some.injEq] at h3
  subst h1 h2 h3; exact hr
 ·rw [List.getElem?_set_ne (Ne.symm e)] at h1 h2
  exact h.rep k v u y h1 h2 h3
end

/-- The core's colours. -/
def crc : Nat → Prop := fun d => d = 4 ∨ d = 5 ∨ d = 6 ∨ d = 7
/-- The core: the open states st (nodes xs), cells ws laid beyond the stack, the pool PL, nodes K held elsewhere. -/
structure CrI (w : World) (col : Col) (ub cb pb : Nat) (K : List (Nat × Nd)) (st : List Un) (ws : List Ue) (sv : Value) (full : List Value) (bs : Nat → Nat) (vs : List Ue) (xs PL L : List Nat) (nd : Nat → Nd) (tv : Nat → Value) (nx : Nat → Option Nat) : Prop where
 unf : Unf w col ub cb pb sv full bs vs.length (vs ++ ws)
 rep : Rep nd vs st xs
 nds : Nds w col L nd tv nx
 pool : Pool w col pb PL nd nx
 sub : ∀ x, x ∈ xs ++ (PL ++ K.map Prod.fst) → x ∈ L
 nodup : (xs ++ (PL ++ K.map Prod.fst)).Nodup
 held : ∀ q, q ∈ K → nd q.1 = q.2
def Cr (w : World) (col : Col) (ub cb pb : Nat) (K : List (Nat × Nd)) (st : List Un) : Prop :=
 ∃ sv full bs vs xs PL L nd tv nx, CrI w col ub cb pb K st [] sv full bs vs xs PL L nd tv nx
section
variable {w w' : World} {col col' : Col} {C : Nat → Prop} {ub cb pb : Nat} {K : List (Nat × Nd)} {st : List Un} {ws : List Ue}
section
variable {sv : Value} {full : List Value} {bs : Nat → Nat} {vs : List Ue} {xs PL L : List Nat} {nd : Nat → Nd} {tv : Nat → Value} {nx : Nat → Option Nat}
theorem CrI.kp (h : CrI w col ub cb pb K st ws sv full bs vs xs PL L nd tv nx) (k : Kp C col w col' w') (hc : ∀ d, C d → ¬ crc d) : CrI w' col' ub cb pb K st ws sv full bs vs xs PL L nd tv nx :=
 ⟨h.unf.kp k fun e => hc _ e (.inr (.inr (.inl rfl))), h.rep, h.nds.kp k (fun e => hc _ e (.inl rfl)) (fun e => hc _ e (.inr (.inl rfl))), h.pool.kp k fun e => hc _ e (.inr (.inr (.inr rfl))), h.sub, h.nodup, h.held⟩
/-- The cells of the open states changed. -/
theorem CrI.unf' (h : CrI w col ub cb pb K st ws sv full bs vs xs PL L nd tv nx) (k : Kp (fun d => d = 6) col w col' w') {sv' : Value} {full' : List Value} {bs' : Nat → Nat} {vs' ws' : List Ue} {st' : List Un} {xs' : List Nat} {K' : List (Nat × Nd)} (hu : Unf w' col' ub cb pb sv' full' bs' vs'.length (vs' ++ ws')) (hr : Rep nd vs' st' xs') (hs : ∀ x, x ∈ xs' ++ (PL ++ K'.map Prod.fst) → x ∈ L) (hd : (xs' ++ (PL ++ K'.map Prod.fst)).Nodup) (hk : ∀ q, q ∈ K' → nd q.1 = q.2) :
  CrI w' col' ub cb pb K' st' ws' sv' full' bs' vs' xs' PL L nd tv nx :=
 ⟨hu, hr, h.nds.kp k (by omega) (by omega), h.pool.kp k (by omega), hs, hd, hk⟩
/-- A node out of the pool. -/
theorem CrI.get (h : CrI w col ub cb pb K st ws sv full bs vs xs PL L nd tv nx) {x : Nat} (hg : GetPost w col pb L PL nd nx x w') :
  ∃ PL' L' nd' tv' nx' col', CrI w' col' ub cb pb ((x, nd0) :: K) st ws sv full bs vs xs PL' L' nd' tv' nx' ∧ Kp npc col w col' w' := by
 obtain ⟨L', nd', tv', nx', col', hN, hP, hx, hxt, hL, hx0, hsame, hk⟩ := hg
 have hn := h.nodup
 have hxn : x ∉ xs ++ (PL.tail ++ K.map Prod.fst) := by
  rcases hL with ⟨_, hnew⟩ | ⟨_, hhd⟩
  ·intro e
   refine hnew (h.sub x ?_)
   rcases List.mem_append.1 e with e | e
   ·exact List.mem_append_left _ e
   ·refine List.mem_append_right _ ?_
    rcases List.mem_append.1 e with e | e
    ·exact List.mem_append_left _ (List.mem_of_mem_tail e)
    ·exact List.mem_append_right _ e
  ·cases PL with
   | nil => simp at hhd
   | cons y T =>
    simp at hhd
    subst hhd
    have := (List.perm_middle (a := y) (l₁ := xs) (l₂ := T ++ K.map Prod.fst)).nodup_iff.1 (by simpa using hn)
    exact (List.nodup_cons.1 this).1
 have hsub' : ∀ y, y ∈ xs ++ (PL.tail ++ K.map Prod.fst) → y ∈ L := fun y e => h.sub y (by
  rcases List.mem_append.1 e with e | e
  ·exact List.mem_append_left _ e
  ·refine List.mem_append_right _ ?_
   rcases List.mem_append.1 e with e | e
   ·exact List.mem_append_left _ (List.mem_of_mem_tail e)
   ·exact List.mem_append_right _ e)
 have hLL : ∀ y, y ∈ L → y ∈ L' := fun y hy => by
  rcases hL with ⟨e, _⟩ | ⟨e, _⟩
  ·rw [e]; exact List.mem_cons_of_mem _ hy
  ·rw [e]; exact hy
 have hp : (xs ++ (PL.tail ++ ((x, nd0) :: K).map Prod.fst)).Perm (x :: (xs ++ (PL.tail ++ K.map Prod.fst))) := by
  rw [List.map_cons, ← List.append_assoc, ← List.append_assoc]; exact List.perm_middle
 refine ⟨PL.tail, L', nd', tv', nx', col', ⟨h.unf.kp hk (by unfold npc; omega), h.rep.nds fun y hy => (hsame y (h.sub y (List.mem_append_left _ hy))).1, hN, hP, fun y hy => ?_, hp.nodup_iff.2 (List.nodup_cons.2 ⟨hxn, ?_⟩), fun q hq => ?_⟩, hk⟩
 ·rcases List.mem_cons.1 (hp.mem_iff.1 hy) with e | e
  ·rw [e]; exact hx
  ·exact hLL _ (hsub' y e)
 ·refine List.Nodup.sublist ?_ hn
  exact (List.Sublist.refl _).append ((List.tail_sublist PL).append (List.Sublist.refl _))
 ·rcases List.mem_cons.1 hq with e | hq
  ·rw [e]; exact hx0
  ·have hqL := h.sub q.1 (List.mem_append_right _ (List.mem_append_right _ (List.mem_map.2 ⟨q, hq, rfl⟩)))
   rw [(hsame _ hqL).1]; exact h.held q hq
/-- A held node goes back into the pool. -/
theorem CrI.free {x : Nat} {n : Nd} (h : CrI w col ub cb pb ((x, n) :: K) st ws sv full bs vs xs PL L nd tv nx) {tv' : Nat → Value} {nx' : Nat → Option Nat} (hN : Nds w' col' L (upd nd x nd0) tv' nx') (hP : Pool w' col' pb (x :: PL) (upd nd x nd0) nx') (k : Kp npc col w col' w') :
  CrI w' col' ub cb pb K st ws sv full bs vs xs (x :: PL) L (upd nd x nd0) tv' nx' := by
 have hp : (xs ++ (PL ++ ((x, n) :: K).map Prod.fst)).Perm (xs ++ ((x :: PL) ++ K.map Prod.fst)) := by
  refine (List.Perm.refl _).append ?_
  rw [List.map_cons, List.cons_append]; exact List.perm_middle
 have hd := hp.nodup_iff.1 h.nodup
 have hx : x ∉ xs ++ (PL ++ K.map Prod.fst) := by
  have : (xs ++ (x :: PL ++ K.map Prod.fst)).Perm (x :: (xs ++ (PL ++ K.map Prod.fst))) := List.perm_middle
  exact (List.nodup_cons.1 (this.nodup_iff.1 hd)).1
 refine ⟨h.unf.kp k (by unfold npc; omega), h.rep.nds fun y hy => upd_ne _ _ (fun e => hx (by rw [← e]; exact List.mem_append_left _ hy)), hN, hP, fun y hy => h.sub y (hp.mem_iff.2 hy), hd, fun q hq => ?_⟩
 rw [upd_ne _ _ (fun e => hx (by rw [← e]; exact List.mem_append_right _ (List.mem_append_right _ (List.mem_map.2 ⟨q, hq, rfl⟩))))]
 exact h.held q (List.mem_cons_of_mem _ hq)
/-- A held node changes. -/
theorem CrI.upd {x : Nat} {n n' : Nd} (h : CrI w col ub cb pb ((x, n) :: K) st ws sv full bs vs xs PL L nd tv nx) {tv' : Nat → Value} (hN : Nds w' col' L (YtmhlnijpimjjaaaGreatDoor.upd nd x n') tv' nx) (k : Kp (fun d => d = 4 ∨ d = 5) col w col' w') :
  CrI w' col' ub cb pb ((x, n') :: K) st ws sv full bs vs xs PL L (YtmhlnijpimjjaaaGreatDoor.upd nd x n') tv' nx := by
 have hx : x ∉ xs ++ (PL ++ K.map Prod.fst) := by
  have : (xs ++ (PL ++ ((x, n) :: K).map Prod.fst)).Perm (x :: (xs ++ (PL ++ K.map Prod.fst))) := by
   rw [List.map_cons, ← List.append_assoc, ← List.append_assoc]; exact List.perm_middle
  exact (List.nodup_cons.1 (this.nodup_iff.1 h.nodup)).1
 refine ⟨h.unf.kp k (by omega), h.rep.nds fun y hy => upd_ne _ _ (fun e => hx (by rw [← e]; exact List.mem_append_left _ hy)), hN, ⟨(h.pool.kp k (by omega)).blk, h.pool.chain, fun y hy => ?_⟩, h.sub, h.nodup, fun q hq => ?_⟩
 ·rw [upd_ne _ _ (fun e => hx (by rw [← e]; exact List.mem_append_right _ (List.mem_append_left _ hy)))]; exact h.pool.clean y hy
 ·rcases List.mem_cons.1 hq with e | hq
  ·rw [e]; exact upd_at _ _ _
  ·rw [upd_ne _ _ (fun e => hx (by rw [← e]; exact List.mem_append_right _ (List.mem_append_right _ (List.mem_map.2 ⟨q, hq, rfl⟩))))]
   exact h.held q (List.mem_cons_of_mem _ hq)
end
theorem Cr.kp (h : Cr w col ub cb pb K st) (k : Kp C col w col' w') (hc : ∀ d, C d → ¬ crc d) : Cr w' col' ub cb pb K st := by
 obtain ⟨sv, full, bs, vs, xs, PL, L, nd, tv, nx, h⟩ := h
 exact ⟨sv, full, bs, vs, xs, PL, L, nd, tv, nx, h.kp k hc⟩
theorem Cr.drew (h : Cr w col ub cb pb K st) : Cr w.drew col ub cb pb K st := h.kp (C := fun _ => False) (Kp.refl _ col w).drew fun _ e => e.elim
theorem Cr.drewN (h : Cr w col ub cb pb K st) (q : Nat) : Cr (w.drewN q) col ub cb pb K st := h.kp (C := fun _ => False) ((Kp.refl _ col w).drewN q) fun _ e => e.elim
/-- A held node in memory. -/
theorem Cr.node (h : Cr w col ub cb pb K st) {x : Nat} {n : Nd} (hk : (x, n) ∈ K) : ∃ tv nx, NodeC w col x n tv nx := by
 obtain ⟨sv, full, bs, vs, xs, PL, L, nd, tv, nx, h⟩ := h
 have hx : x ∈ L := h.sub x (List.mem_append_right _ (List.mem_append_right _ (List.mem_map.2 ⟨_, hk, rfl⟩)))
 have := h.nds.node x hx
 rw [h.held _ hk] at this
 exact ⟨_, _, this⟩
theorem Cr.knodup (h : Cr w col ub cb pb K st) : (K.map Prod.fst).Nodup := by
 obtain ⟨sv, full, bs, vs, xs, PL, L, nd, tv, nx, h⟩ := h
 exact ((List.nodup_append.1 (List.nodup_append.1 h.nodup).2.1).2.1)
theorem Cr.perm {K' : List (Nat × Nd)} (h : Cr w col ub cb pb K st) (hp : K.Perm K') : Cr w col ub cb pb K' st := by
 obtain ⟨sv, full, bs, vs, xs, PL, L, nd, tv, nx, h⟩ := h
 have hq : (xs ++ (PL ++ K.map Prod.fst)).Perm (xs ++ (PL ++ K'.map Prod.fst)) := (List.Perm.refl _).append ((List.Perm.refl _).append (hp.map _))
 exact ⟨sv, full, bs, vs, xs, PL, L, nd, tv, nx, h.unf, h.rep, h.nds, h.pool, fun x hx => h.sub x (hq.mem_iff.2 hx), hq.nodup_iff.1 h.nodup, fun q hq' => h.held q (hp.mem_iff.2 hq')⟩
/-- The stack's row is lengthened by one: a further open state is on it. -/
theorem Unf.push {sv v' : Value} {full full' : List Value} {bs : Nat → Nat} {vs : List Ue} {v : Ue} {z : Array Value} (h : Unf w col ub cb pb sv full bs vs.length (vs ++ [v])) (hr : RowF w' 159 1 v' (vs.length + 1) full') (hF : Fr (fun k => sv.ownBlock = some k) w w')
  (hc : (v'.ownBlock = sv.ownBlock ∧ full' = full.take (vs.length * 1) ++ [.pointer (some ⟨(plc cb bs vs.length).1, (plc cb bs vs.length).2, none⟩)] ++ full.drop ((vs.length + 1) * 1)) ∨ ((∃ b', v'.ownBlock = some b' ∧ w.heap.size ≤ b') ∧ ∃ k, full' = full.take (vs.length * 1) ++ [.pointer (some ⟨(plc cb bs vs.length).1, (plc cb bs vs.length).2, none⟩)] ++ zeros z k)) :
  Unf (w'.setCell ⟨ub, 0, none⟩ v') (paint w.heap.size 6 col) ub cb pb v' full' bs (vs ++ [v]).length (vs ++ [v]) ∧ Kp (fun d => d = 6) col w (paint w.heap.size 6 col) (w'.setCell ⟨ub, 0, none⟩ v') := by
 have hK : Kp (fun d => d = 6) col w (paint w.heap.size 6 col) w' := Kp.of hF 6 (fun k hk e => h.row.col k e) rfl
 have hK2 := hK.set (p := ⟨ub, 0, none⟩) v' ((paint_lt h.blk.lt).trans h.blk.col)
 have hnl : full.take (vs.length * 1) = full.take vs.length := by rw [Nat.mul_one]
 have hfl : vs.length ≤ full.length := by
  obtain ⟨A, cap, _, h1, _, h3⟩ := h.row.row.slc
  omega
 have htl : (full.take vs.length).length = vs.length := by rw [List.length_take]; omega
 have hown : ∀ {b : Nat} {cs : List Value} {t : TypeId}, Blk w b cs t → t ≠ 159 → ¬ sv.ownBlock = some b := fun {b cs t} hb ht e => by
  rcases h.row.row with ⟨e1, _⟩ | ⟨g, cap, e1, hb2, _⟩
  ·rw [e1] at e; simp [Value.ownBlock] at e
  ·rw [e1] at e; simp [Value.ownBlock] at e
   subst e
   exact ht (hb.inj hb2).2
 have hbk : ∀ {b : Nat} {cs : List Value} {t : TypeId}, BlkC w col 6 b cs t → t ≠ 159 → b ≠ ub → BlkC (w'.setCell ⟨ub, 0, none⟩ v') (paint w.heap.size 6 col) 6 b cs t := fun {b cs t} hb ht hne =>
  ⟨(hb.blk.fr hF (hown hb.blk ht)).set_ne hne _, (paint_lt hb.lt).trans hb.col⟩
 have hub : Blk (w'.setCell ⟨ub, 0, none⟩ v') ub [v', .slice (some ⟨cb, 0, none⟩) 64 64, .pointer (some ⟨pb, 0, none⟩)] 163 := (h.blk.blk.fr hF (hown h.blk.blk (by decide))).set 0 v'
 have hfu : ∀ i, i < vs.length + 1 → full'[i]? = some (.pointer (some ⟨(plc cb bs i).1, (plc cb bs i).2, none⟩)) := fun i hi => by
  have key : ∀ T : List Value, (full.take (vs.length * 1) ++ [.pointer (some ⟨(plc cb bs vs.length).1, (plc cb bs vs.length).2, none⟩)] ++ T)[i]? = some (.pointer (some ⟨(plc cb bs i).1, (plc cb bs i).2, none⟩)) := fun T => by
   rw [hnl, List.append_assoc]
   by_cases e : i < vs.length
   ·rw [List.getElem?_append_left (by omega), List.getElem?_take_of_lt e]; exact h.ptr i e
   ·have e2 : i = vs.length := by omega
    subst e2
    rw [List.getElem?_append_right (by omega), htl, Nat.sub_self]; rfl
  rcases hc with ⟨_, e⟩ | ⟨_, k, e⟩
  ·rw [e]; exact key _
  ·rw [e]; exact key _
 refine ⟨⟨⟨hub, (paint_lt h.blk.lt).trans h.blk.col⟩, hbk h.cache (by decide) (Ne.symm (blk_ne h.blk.blk h.cache.blk (by decide))), fun i u hi hu => hbk (h.far i u hi hu) (by decide) (Ne.symm (blk_ne h.blk.blk (h.far i u hi hu).blk (by decide))), h.sep, h.inj, ⟨?_, fun k hk => ?_⟩, fun i hi => hfu i (by simpa using hi), Nat.le_refl _⟩, hK2⟩
 ·rw [show (vs ++ [v]).length = vs.length + 1 by simp]
  refine hr.fr (F := fun k => k = ub) (Fr.setCell (F := fun k => k = ub) (p := ⟨ub, 0, none⟩) (Fr.refl _ w') (fun _ => rfl) v') fun b hb e => ?_
  rcases hr with ⟨e1, _⟩ | ⟨g, cap, e1, hb2, _⟩
  ·rw [e1] at hb; simp [Value.ownBlock] at hb
  ·rw [e1] at hb; simp [Value.ownBlock] at hb
   have hbb := h.blk.blk.fr hF (hown h.blk.blk (by decide))
   subst hb; subst e
   exact absurd (hbb.inj hb2).2 (by decide)
 ·rcases hc with ⟨e, _⟩ | ⟨⟨b, e, hb⟩, _⟩
  ·rw [e] at hk; exact (paint_lt (h.row.row.lt hk)).trans (h.row.col k hk)
  ·rw [e] at hk; injection hk with hk; subst hk; exact paint_ge hb
/-- The stack's row is cut by one. -/
theorem Unf.cut {full : List Value} {bs : Nat → Nat} {vs : List Ue} {v : Ue} {A : Option Addr} {n cap : Nat} (h : Unf w col ub cb pb (.slice A n cap) full bs (vs ++ [v]).length (vs ++ [v])) (hn : n = vs.length + 1) :
  Unf (w.setCell ⟨ub, 0, none⟩ (.slice A vs.length cap)) col ub cb pb (.slice A vs.length cap) full bs vs.length (vs ++ [v]) ∧ Kp (fun d => d = 6) col w col (w.setCell ⟨ub, 0, none⟩ (.slice A vs.length cap)) := by
 subst hn
 have hl : (vs ++ [v]).length = vs.length + 1 := by simp
 have hK : Kp (fun d => d = 6) col w col (w.setCell ⟨ub, 0, none⟩ (.slice A vs.length cap)) := (Kp.refl _ col w).set _ h.blk.col
 have hr := h.row.row.cut (m := vs.length) (by omega) A cap (by rw [hl])
 refine ⟨⟨⟨h.blk.blk.set 0 _, h.blk.col⟩, ⟨h.cache.blk.set_ne (Ne.symm (blk_ne h.blk.blk h.cache.blk (by decide))) _, h.cache.col⟩, fun i u hi hu => ⟨(h.far i u hi hu).blk.set_ne (Ne.symm (blk_ne h.blk.blk (h.far i u hi hu).blk (by decide))) _, (h.far i u hi hu).col⟩, h.sep, h.inj, ⟨?_, fun k hk => h.row.col k (by rw [own_len A _ cap vs.length cap]; exact hk)⟩, fun i hi => h.ptr i (by omega), by omega⟩, hK⟩
 refine hr.fr (F := fun k => k = ub) (Fr.setCell (F := fun k => k = ub) (p := ⟨ub, 0, none⟩) (Fr.refl _ w) (fun _ => rfl) _) fun b hb e => ?_
 rcases hr with ⟨e1, _⟩ | ⟨g, cp, e1, hb2, _⟩
 ·rw [e1] at hb; simp [Value.ownBlock] at hb
 ·rw [e1] at hb; simp [Value.ownBlock] at hb
  subst hb; subst e
  exact absurd (h.blk.blk.inj hb2).2 (by decide)
end
end
end Go.Proofs.YtmhlnijpimjjaaaGreatDoor
