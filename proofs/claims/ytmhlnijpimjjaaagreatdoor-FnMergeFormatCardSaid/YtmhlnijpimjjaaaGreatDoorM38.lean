/- The reference goes through all states: what it has in memory. No condition. -/
import Derived.Test.YtmhlnijpimjjaaaGreatDoorM36
import Derived.Test.YtmhlnijpimjjaaaGreatDoorM28
set_option linter.unusedSimpArgs false
set_option linter.unusedVariables false
namespace Go.Proofs.YtmhlnijpimjjaaaGreatDoor
open Go.RowKit Fmt
/-- The pairs behind a text. -/
def outp (t : List Nat) (s : Nat) (L : Prs) : Prs := L.map fun q => (t ++ q.1, s + q.2)
theorem outp_app (t : List Nat) (s : Nat) (A B : Prs) : outp t s (A ++ B) = outp t s A ++ outp t s B := by simp [outp]
theorem outp_pre (t : List Nat) (s i o : Nat) (L : Prs) : outp t s (pre i o L) = outp (t ++ [i]) (s + o) L := by
 unfold outp pre
 rw [List.map_map]
 refine List.map_congr_left fun q _ => ?_
 simp [Nat.add_assoc]
/-- What the walk may write: its own block, and rows of pairs. -/
def Wf (base : Nat) (w : World) (k : Nat) : Prop := base ≤ k ∧ ∃ cs t, Blk w k cs t ∧ (t = 66 ∨ t = 42)
theorem wf_trans {base : Nat} {w w1 w2 : World} (h : Fr (Wf base w) w w1) (k : Fr (Wf base w1) w1 w2) : Fr (Wf base w) w w2 := by
 refine h.trans k fun i hi hw => ?_
 by_cases hc : Wf base w i
 ·exact hc
 ·obtain ⟨h1, cs, t, h2, h3⟩ := hw
  have := h.block i hi hc
  exact ⟨h1, cs, t, by unfold Blk at h2 ⊢; rw [← this]; exact h2, h3⟩
theorem wf_false {base : Nat} {w w1 : World} (h : Fr (fun _ => False) w w1) : Fr (Wf base w) w w1 := h.mono fun _ _ h => h.elim
structure WkD (w : World) (base gd n cap gb : Nat) (D : List Nat) : Prop where
 dat : Byts w gd 0 D
 len : D.length = n
 gdl : gd < base
 cap1 : n ≤ cap
 cap2 : cap ≤ maxLen
 bak : Blk w gb (u8s (bkL 256)) 5
 gbl : gb < base
 bsz : base ≤ w.heap.size
structure WkAt (w : World) (base wb gd n cap gb : Nat) (SS : List (ByteArray × Nat)) : Prop where
 ex : ∃ v, Blk w wb [.slice (some ⟨gd, 0, none⟩) n cap, .slice (some ⟨gb, 0, none⟩) 64 64, v, .bool false] 66 ∧ PrO w base v SS
 ge : base ≤ wb
theorem WkD.fr {w w' : World} {base gd n cap gb : Nat} {D : List Nat} (h : WkD w base gd n cap gb D) (k : Fr (Wf base w) w w') : WkD w' base gd n cap gb D :=
 { h with dat := h.dat.fr k (fun e => by have := e.1; have := h.gdl; omega), bak := h.bak.fr k (fun e => by have := e.1; have := h.gbl; omega), bsz := Nat.le_trans h.bsz k.size }
theorem WkAt.fr0 {w w' : World} {base wb gd n cap gb : Nat} {SS : List (ByteArray × Nat)} (h : WkAt w base wb gd n cap gb SS) (k : Fr (fun _ => False) w w') : WkAt w' base wb gd n cap gb SS := by
 obtain ⟨v, h1, h2⟩ := h.ex
 exact ⟨⟨v, h1.fr k (fun h => h), h2.fr k (fun _ _ h => h)⟩, h.ge⟩
theorem file_view {D B : List Nat} {L : Prs} {root : Nat} (h : File codesN backN D L B root) {x : Nat} (hx : Ok codesN backN B x) : View D x (nodeOf (getB backN B) x) := by
 have h1 := h.len
 have h2 := h.dlen
 by_cases h0 : x = 0
 ·subst h0; exact .inl ⟨rfl, rfl⟩
 ·right
  rw [nodeOf_pos h0, h.eq]
  obtain ⟨S, k1, k2, k3, k4, k5, k6, k7, k8⟩ := hx.view codesOk (by omega) h0 (pk L.length 8 ++ pk root 8)
  exact ⟨h0, S, k1, k2, by rw [← h.eq]; omega, k4, k5, k6, k7, k8⟩
/-- A state in the walk's memory. -/
structure WkS (w : World) (b8 : Nat) (s : Nd) (A : Value) (fo : Nat) (X : World) : Prop where
 blk : Blk X b8 [.bool s.fin, .int .u64 (fo : Int), A] 94
 fo : s.fin = true → fo = s.fout
 row : ∃ fa, RowF X 98 3 A s.arcs.length fa ∧ fa.take (s.arcs.length * 3) = acells s.arcs
theorem WkS.fr {w X Y : World} {b8 fo base : Nat} {s : Nd} {A : Value} (h : WkS w b8 s A fo X) (k : Fr (Wf base X) X Y) : WkS w b8 s A fo Y := by
 obtain ⟨fa, h1, h2⟩ := h.row
 refine ⟨h.blk.fr k (fun e => ?_), h.fo, fa, h1.fr k (fun b hb e => ?_), h2⟩
 ·obtain ⟨_, cs, t, e1, e2⟩ := e
  have := (e1.inj h.blk).2
  rcases e2 with rfl | rfl <;> exact absurd this (by decide)
 ·obtain ⟨_, cs, t, e1, e2⟩ := e
  rcases h1 with ⟨e3, _⟩ | ⟨g, c, e3, hb', _⟩
  ·rw [e3] at hb; simp [Value.ownBlock] at hb
  ·rw [e3] at hb
   simp [Value.ownBlock] at hb
   subst hb
   have := (e1.inj hb').2
   rcases e2 with rfl | rfl <;> exact absurd this (by decide)
theorem WkS.at_ {w X : World} {b8 fo i : Nat} {s : Nd} {A : Value} (h : WkS w b8 s A fo X) {x : Nat × Nat × Nat} (hx : s.arcs[i]? = some x) : ∃ g c, A = .slice (some ⟨g, 0, none⟩) s.arcs.length c ∧ X.cell? ⟨g, i * 3, none⟩ = some (.int .u8 (x.1 : Int)) ∧ X.cell? ⟨g, i * 3 + 1, none⟩ = some (.int .u64 (x.2.1 : Int)) ∧ X.cell? ⟨g, i * 3 + 2, none⟩ = some (.int .i64 (x.2.2 : Int)) := by
 obtain ⟨fa, h1, h2⟩ := h.row
 obtain ⟨c1, c2, c3⟩ := acells_at hx
 have hil := (List.getElem?_eq_some_iff.1 hx).1
 have get : ∀ j x, j < s.arcs.length * 3 → (acells s.arcs)[j]? = some x → fa[j]? = some x := fun j x hj hx => by
  rw [← h2, List.getElem?_take, if_pos hj] at hx; exact hx
 rcases h1 with ⟨rfl, h0, _⟩ | ⟨g, cap, rfl, hb, hc, hm, _⟩
 ·omega
 ·exact ⟨g, cap, rfl, hb.cell _ (get _ _ (by omega) c1), hb.cell _ (get _ _ (by omega) c2), hb.cell _ (get _ _ (by omega) c3)⟩
/-- A pair is appended to what was found. -/
theorem WkAt.app {w w5 : World} {base wb gd n cap gb : Nat} {v v' : Value} {O : List (ByteArray × Nat)} {s : ByteArray × Nat} {full full' : List Value} (hb : Blk w wb [.slice (some ⟨gd, 0, none⟩) n cap, .slice (some ⟨gb, 0, none⟩) 64 64, v, .bool false] 66) (hge : base ≤ wb) (h1 : RowF w 42 2 v O.length full) (h2 : full.take (O.length * 2) = cellsP O) (h3 : ∀ b, v.ownBlock = some b → base ≤ b) (hbs : base ≤ w.heap.size) (hr : RowF w5 42 2 v' (O.length + 1) full') (hF : Fr (fun k => v.ownBlock = some k) w w5)
  (hc : (v'.ownBlock = v.ownBlock ∧ full' = full.take (O.length * 2) ++ [.string s.1, .int .u64 (s.2 : Int)] ++ full.drop ((O.length + 1) * 2)) ∨ ((∃ b', v'.ownBlock = some b' ∧ w.heap.size ≤ b') ∧ ∃ k, full' = full.take (O.length * 2) ++ [.string s.1, .int .u64 (s.2 : Int)] ++ zeros #[Value.string ⟨#[]⟩, Value.int .u64 0] k)) :
  WkAt (w5.setCell ⟨wb, 2, none⟩ v') base wb gd n cap gb (O ++ [s]) ∧ Fr (Wf base w) w (w5.setCell ⟨wb, 2, none⟩ v') := by
 have ho := PrO.app h1 h2 h3 hbs hr hc
 have hne : ∀ b, v.ownBlock = some b → b ≠ wb := fun b e1 e2 => by
  subst e2
  rcases h1 with ⟨e, _⟩ | ⟨g, c, e, hb', _⟩
  ·rw [e] at e1; simp [Value.ownBlock] at e1
  ·rw [e] at e1
   simp [Value.ownBlock] at e1
   subst e1
   exact absurd (hb.inj hb').2 (by decide)
 have hne' : ∀ b, v'.ownBlock = some b → b ≠ wb := fun b e1 e2 => by
  rcases hc with ⟨e, _⟩ | ⟨⟨b', e, hb'⟩, _⟩
  ·rw [e] at e1; exact hne b e1 e2
  ·rw [e] at e1; cases e1
   have := hb.lt; omega
 have hS : Fr (fun k => k = wb) w5 (w5.setCell ⟨wb, 2, none⟩ v') := Fr.setCell (F := fun k => k = wb) (p := ⟨wb, 2, none⟩) (Fr.refl _ w5) (fun _ => rfl) _
 refine ⟨⟨⟨v', (hb.fr hF (fun e => hne wb e rfl)).set 2 v', ho.fr hS (fun b e1 e2 => hne' b e1 e2)⟩, hge⟩, (hF.mono (G := Wf base w) fun k hk e => ?_).trans hS fun k hk e => ?_⟩
 ·rcases h1 with ⟨e', _⟩ | ⟨g, c, e', hb', _⟩
  ·rw [e'] at e; simp [Value.ownBlock] at e
  ·have e0 := e
   rw [e'] at e
   simp [Value.ownBlock] at e
   subst e
   exact ⟨h3 _ e0, _, _, hb', .inr rfl⟩
 ·subst e; exact ⟨hge, _, _, hb, .inl rfl⟩
end Go.Proofs.YtmhlnijpimjjaaaGreatDoor
