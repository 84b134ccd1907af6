/- The open states: put of the cache. No condition. append of one element in a region that draws its order. Condition: the row stays below 2^47 bytes. An open state's last transition is closed: lastCompiled. Condition: at most 256 transitions. The core's changes: a state is pushed, a state is popped, a node's flag and output are set. No condition. A new empty state on the stack: pushEmpty. Condition: at most 2^40 open states. States popped from the stack: popEmpty, popRoot, popFreeze. Condition: at most 2^40 open states. A state popped whose last transition is closed, and the top's: popFreeze, topLastFreeze. Condition: at most 2^40 open states. -/
import Derived.Test.YtmhlnijpimjjaaaGreatDoorM11
import Derived.Deep.MidRow
import Derived.Deep.AppendLies
set_option linter.unusedSimpArgs false
set_option linter.unusedVariables false
namespace Go.Proofs.YtmhlnijpimjjaaaGreatDoor
section
open Go.RowKit Fmt
section
variable {w : World} {col : Col} {ub cb pb : Nat} {sv : Value} {full : List Value} {bs : Nat → Nat} {vs : List Ue} {u : Ue}
/-- The last one is given up: cells that hold zeros, or a block of its own. -/
theorem Unf.less (h : Unf w col ub cb pb sv full bs vs.length (vs ++ [u])) (hu : 64 ≤ vs.length ∨ u = ue0) : Unf w col ub cb pb sv full bs vs.length vs := by
 have hcp : rng4 (cpart (vs ++ [u])) 64 = rng4 (cpart vs) 64 := rng4_congr fun i hi => by
  unfold cpart
  by_cases e : i < vs.length
  ·rw [List.getElem?_append_left e]
  ·rcases hu with hu | hu
   ·omega
   ·rw [List.getElem?_append_right (by omega), List.getElem?_eq_none (by omega : vs.length ≤ i)]
    by_cases e2 : i - vs.length = 0
    ·rw [e2, hu]; rfl
    ·rw [List.getElem?_eq_none (by simp; omega)]
 have hlt : ∀ {i : Nat} {q : Ue}, vs[i]? = some q → (vs ++ [u])[i]? = some q := fun {i q} hq => by
  rw [List.getElem?_append_left (List.getElem?_eq_some_iff.1 hq).1]; exact hq
 exact ⟨h.blk, by rw [← hcp]; exact h.cache, fun i q hi hq => h.far i q hi (hlt hq), fun i hi h2 => h.sep i hi (by simp; omega), fun i j hi hj h2 h3 e => h.inj i j hi hj (by simp; omega) (by simp; omega) e, h.row, h.ptr, Nat.le_refl _⟩
theorem Unf.zero (h : Unf w col ub cb pb sv full bs vs.length (vs ++ [u])) (hl : vs.length < 64) :
  Unf (w.setCells cb (vs.length * 4) ue0.cells) col ub cb pb sv full bs vs.length vs ∧ Kp (fun d => d = 6) col w col (w.setCells cb (vs.length * 4) ue0.cells) := by
 have hg : ∀ q : Ue, (vs ++ [q])[vs.length]? = some q := fun q => by simp
 have hs : ∀ q q' : Ue, (vs ++ [q]).set vs.length q' = vs ++ [q'] := fun q q' => by simp
 have hp : plc cb bs vs.length = (cb, vs.length * 4) := if_pos hl
 have h1 := h.set (hg u) (u' := ⟨none, u.lo, u.li, u.hl⟩) (j := 0) (v := ptrN none) (by omega) rfl
 rw [hs, hp] at h1
 have h2 := h1.set (hg _) (u' := ⟨none, 0, u.li, u.hl⟩) (j := 1) (v := .int .u64 0) (by omega) rfl
 rw [hs, hp] at h2
 have h3 := h2.set (hg _) (u' := ⟨none, 0, 0, u.hl⟩) (j := 2) (v := .int .u8 0) (by omega) rfl
 rw [hs, hp] at h3
 have h4 := h3.set (hg _) (u' := ue0) (j := 3) (v := .bool false) (by omega) rfl
 rw [hs, hp] at h4
 exact ⟨h4.less (.inr rfl), ((((Kp.refl (fun d => d = 6) col w).set _ h.cache.col).set _ h.cache.col).set _ h.cache.col).set _ h.cache.col⟩

set_option maxHeartbeats 1000000 in
set_option maxRecDepth 100000 in
theorem uput_calls (h : Unf w col ub cb pb sv full bs vs.length (vs ++ [u])) :
  Calls Tryz.prog 77 #[.pointer (some ⟨ub, 0, none⟩)] w fun e w' => e = .returned (.tuple #[]) ∧ Unf w' col ub cb pb sv full bs vs.length vs ∧ Kp (fun d => d = 6) col w col w' := by
 obtain ⟨A, cap, hsv, hcap, hmax⟩ := h.row.cap
 subst hsv
 have p0 := h.blk.blk.cell 0 rfl
 have p1 := h.blk.blk.cell 1 rfl
 by_cases hl : vs.length < 64
 ·have HZ := Lib.hid (fun q => And.intro ((h.drewN q).drew.zero hl).1 (((Kp.refl (fun d => d = 6) col w).drewN q).drew.trans ((h.drewN q).drew.zero hl).2))
  have HT := Lib.hid (show ((w.cell? ⟨cb, vs.length * 4, none⟩ = some (ptrN u.x) ∧ w.frozen? ⟨cb, vs.length * 4, none⟩ = false) ∧ (w.cell? ⟨cb, vs.length * 4 + 1, none⟩ = some (.int .u64 (u.lo : Int)) ∧ w.frozen? ⟨cb, vs.length * 4 + 1, none⟩ = false) ∧ (w.cell? ⟨cb, vs.length * 4 + 2, none⟩ = some (.int .u8 (u.li : Int)) ∧ w.frozen? ⟨cb, vs.length * 4 + 2, none⟩ = false) ∧ (w.cell? ⟨cb, vs.length * 4 + 3, none⟩ = some (.bool u.hl) ∧ w.frozen? ⟨cb, vs.length * 4 + 3, none⟩ = false)) from by
   have hp : plc cb bs vs.length = (cb, vs.length * 4) := if_pos hl
   have hc := fun j v hv => h.cell (i := vs.length) (u := u) (by simp) (j := j) (v := v) hv
   rw [hp] at hc
   exact ⟨hc 0 _ rfl, hc 1 _ rfl, hc 2 _ rfl, hc 3 _ rfl⟩)
  clear h
  generalize hn : vs.length = n at *
  have HN := Lib.hid hn
  clear hn
  have hl' : ¬ (64 : Int) ≤ (n : Int) := by omega
  go_enter Tryz.func77, Tryz.ntmps77
  go_wp2_with fail
  go_quiet (fail)
  rename_i nq
  have p0' : (w.drewN nq).cell? ⟨ub, 0, none⟩ = some (.slice A n cap) := p0
  have p1' : (w.drewN nq).cell? ⟨ub, 1, none⟩ = some (.slice (some ⟨cb, 0, none⟩) 64 64) := p1
  have e1 : (0 : Int) ≤ (n : Int) := by omega
  have e2 : (n : Int) < 64 := by omega
  have e3 : (n : Int).toNat = n := by omega
  clear p0 p1
  obtain ⟨c0, c1, c2, c3⟩ := HT.out
  have z0 := c0.2; have z1 := c1.2; have z2 := c2.2; have z3 := c3.2
  replace c0 := c0.1; replace c1 := c1.1; replace c2 := c2.1; replace c3 := c3.1
  go_wp2_with fail
  refine wp_region_seqV (fun W => W.cell? ⟨ub, 0, none⟩ = some (.slice A n cap) ∧ W.cell? ⟨ub, 1, none⟩ = some (.slice (some ⟨cb, 0, none⟩) 64 64)) (fun i => decide (i ≠ 11)) (fun i => ![3, 7].contains i && decide (i ≠ 11)) (fun i => decide (i = 11)) [0, 1, 2, 3, 4, 5, 6, 7, 8, 9, 10, 11] (by kernel_rfl) (by kernel_rfl) (fun c a d v w h => by cases d <;> exact h) ⟨p0', p1'⟩ ?_
  iterate 3 (apply seqV_pure (ho := rfl) (hr := rfl) (hg := rfl); (intro w'; go_simp; rfl))
  (apply seqV_read (ho := rfl) (hr := rfl) (hp := rfl) (hg := rfl); (rintro w' ⟨q0, q1⟩; go_simp; rfl))
  iterate 3 (apply seqV_pure (ho := rfl) (hr := rfl) (hg := rfl); (intro w'; go_simp; rfl))
  (apply seqV_read (ho := rfl) (hr := rfl) (hp := rfl) (hg := rfl); (rintro w' ⟨q0, q1⟩; go_simp; rfl))
  iterate 3 (apply seqV_pure (ho := rfl) (hr := rfl) (hg := rfl); (intro w'; go_simp; rfl))
  refine seqV_do rfl rfl fun K hK => ?_
  go_simp
  refine hK _ _ (fun h => by cases h) ?_
  clear hK K
  unfold seqV
  go_simp
  go_wp2_with fail
  go_end0

  exact ⟨rfl, HZ.out nq⟩
 ·have HE := Lib.hid (fun q => And.intro ((h.drewN q).less (.inl (by omega))) ((Kp.refl (fun d => d = 6) col w).drewN q))
  clear h
  generalize hn : vs.length = n at *
  have hl' : (64 : Int) ≤ (n : Int) := by omega
  clear hn
  go_enter Tryz.func77, Tryz.ntmps77
  go_wp2_with fail
  go_quiet (fail)
  go_wp2_with fail
  refine bodyPost_ret (results_none rfl _ _ _) rfl ?_
  exact ⟨rfl, HE.out _⟩
end
end
section
open Go.RowKit Fmt
section
variable {ops : Array Oper} {o : Oper} {a : Act} {K : Act → World → Prop} {Q : Exit → Act → World → Prop} {E : Prop} {w : World}
theorem stepA (hgd : o.guard = none) (s x : Operand) (t : TypeId) (ho : o.op = .call { callee := .builtin .append, args := #[s, x], argTypes := #[t, t] })
  (e : TypeId) (z : Value) (size bytes : Nat) (ht : Tryz.prog.underlying t = some (.slice e)) (hinfo : (Tryz.prog.info? e).map (fun i => (i.zero, i.size, i.bytes)) = some (some z, size, bytes)) (hzs : z.cells.size = size) (hsz : 0 < size)
  (v : Value) (n : Nat) (xs : List Value) (hs : a.eval s = v) (hown : w.ownsRow 0 e size v n xs) (b : Nat) (news : List Value) (hx : a.eval x = .slice (some ⟨b, 0, none⟩) 1 1) (hb : Blk w b news e) (hl : news.length = size) (h1 : ∀ u ∈ news, u.oneCell' = true)
  (hbytes : (n + 1) * bytes ≤ 140737488355328) (hb0 : 0 < bytes)
  (h : ∀ g cap w', w'.ownsRow 0 e size (.slice (some ⟨g, 0, none⟩) (n + 1) cap) (n + 1) (xs ++ news) → Fr (fun k => v.ownBlock = some k) w w' → (v.ownBlock = some g ∨ g = w.heap.size) → n + 1 ≤ cap ∧ cap ≤ maxLen → K (a.put o.dst (.slice (some ⟨g, 0, none⟩) (n + 1) cap)) w') :
  if Region.wanted o (yielded ops a.tmps) = true then Oper.wp Tryz.prog o a w K Q else E := by
 obtain ⟨i0, hi, hzz⟩ := Option.map_eq_some_iff.1 hinfo
 simp only [Prod.mk.injEq] at hzz
 obtain ⟨hz0, hz1, hz2⟩ := hzz
 have hlen : n + 1 ≤ 140737488355328 := Nat.le_trans (Nat.le_mul_of_pos_right _ hb0) hbytes
 refine step_append_lies (w := w) hgd s x t ho 0 e i0 z size bytes ht hi hz0 hz1 hz2 hzs hsz v n xs hs hown ⟨b, 0, none⟩ 1 1 news hx (by omega)
  (World.news_of_block (cs := news.toArray) (t := e) (fr := (0, 0)) hb) h1 (by decide) (by simp only [maxLen]; omega) hbytes (Nat.zero_le _) _ rfl ?_
 intro g cap w' h2 h3 h4 h5
 refine h g cap w' h2 ((Fr.refl _ w).grown h3 (fun k hk hlt => hk)) h4 ?_
 rcases h2.2 with ⟨e1, _⟩ | ⟨g', c', cur, e1, _, _, a1, a2, _⟩
 ·injection e1 with e1 _ _; cases e1
 ·injection e1 with _ _ e1; subst e1; exact ⟨a1, a2⟩
end
end
section
open Go.RowKit Fmt
section
variable {w : World} {col : Col} {ub cb pb : Nat} {sv : Value} {full : List Value} {bs : Nat → Nat} {vs : List Ue} {v : Ue} {m i x ad : Nat} {L : List Nat} {nd : Nat → Nd} {tv : Nat → Value} {nx : Nat → Option Nat}
set_option maxHeartbeats 1000000 in
set_option maxRecDepth 100000 in
theorem lastc_no (hU : Unf w col ub cb pb sv full bs m vs) (hv : vs[i]? = some v) (hh : v.hl = false) :
  Calls Tryz.prog 88 #[.pointer (some ⟨(plc cb bs i).1, (plc cb bs i).2, none⟩), .int .i64 (ad : Int)] w fun e w' => e = .returned (.tuple #[]) ∧ w' = w := by
 have p3 := (hU.cell hv (j := 3) (v := .bool v.hl) rfl).1
 rw [hh] at p3
 clear hU
 generalize (plc cb bs i).1 = pB at *
 generalize (plc cb bs i).2 = pO at *
 go_enter Tryz.func88, Tryz.ntmps88
 go_wp2_with fail
 go_end0
 exact ⟨rfl, rfl⟩

/-- What lastCompiled leaves. -/
def LastPost (w : World) (col : Col) (ub cb pb : Nat) (sv : Value) (full : List Value) (bs : Nat → Nat) (vs : List Ue) (v : Ue) (m i x ad : Nat) (L : List Nat) (nd : Nat → Nd) (nx : Nat → Option Nat) (w' : World) : Prop :=
 ∃ col' tv', Kp (fun d => d = 4 ∨ d = 5 ∨ d = 6) col w col' w' ∧ Unf w' col' ub cb pb sv full bs m (vs.set i ⟨some x, 0, v.li, false⟩) ∧ Nds w' col' L (upd nd x ⟨(nd x).fin, (nd x).fout, (nd x).arcs ++ [(v.li, v.lo, ad)]⟩) tv' nx

theorem lastc_post {W2 w3 : World} {vs' : List Ue} (U2 : Unf W2 col ub cb pb sv full bs m vs') (N2 : Nds W2 col L nd tv nx) (hx : x ∈ L) {v0 : Value} (htv : tv x = v0) (hxn : NodeC W2 col x (nd x) v0 (nx x)) {t : Nat × Nat × Nat} {g n cap : Nat} (hn : (nd x).arcs.length = n)
  (ho3 : w3.ownsRow 0 196 3 (.slice (some ⟨g, 0, none⟩) (n + 1) cap) (n + 1) ((nd x).arcs.flatMap arcCells ++ arcCells t)) (hF : Fr (fun k => v0.ownBlock = some k) W2 w3) (hg : v0.ownBlock = some g ∨ W2.heap.size ≤ g) :
  ∃ col' tv', Kp (fun d => d = 4 ∨ d = 5) col W2 col' (w3.setCell ⟨x, 1, none⟩ (.slice (some ⟨g, 0, none⟩) (n + 1) cap)) ∧ Unf (w3.setCell ⟨x, 1, none⟩ (.slice (some ⟨g, 0, none⟩) (n + 1) cap)) col' ub cb pb sv full bs m vs' ∧ Nds (w3.setCell ⟨x, 1, none⟩ (.slice (some ⟨g, 0, none⟩) (n + 1) cap)) col' L (upd nd x ⟨(nd x).fin, (nd x).fout, (nd x).arcs ++ [t]⟩) tv' nx := by
 have hne : v0.ownBlock ≠ some x := own_ne_blk hxn.row.own hxn.blk.blk (by decide)
 have K3 : Kp (fun d => d = 5) col W2 (paint W2.heap.size 5 col) w3 := Kp.of hF 5 (fun k _ e => hxn.row.col k e) rfl
 have hx4 : paint W2.heap.size 5 col x = 4 := (paint_lt hxn.blk.lt).trans hxn.blk.col
 have K4 : Kp (fun d => d = 4 ∨ d = 5) col W2 (paint W2.heap.size 5 col) (w3.setCell ⟨x, 1, none⟩ (.slice (some ⟨g, 0, none⟩) (n + 1) cap)) := (K3.mono (fun _ e => .inr e)).set (p := ⟨x, 1, none⟩) _ (.inl hx4)
 have hS : Fr (fun k => k = x) w3 (w3.setCell ⟨x, 1, none⟩ (.slice (some ⟨g, 0, none⟩) (n + 1) cap)) := Fr.setCell (F := fun k => k = x) (p := ⟨x, 1, none⟩) (Fr.refl _ w3) (fun _ => rfl) _
 have hgx : g ≠ x := by
  rcases hg with e | e
  ·intro e2; subst e2; exact hne e
  ·have := hxn.blk.lt; omega
 have hnode : NodeC (w3.setCell ⟨x, 1, none⟩ (.slice (some ⟨g, 0, none⟩) (n + 1) cap)) (paint W2.heap.size 5 col) x ⟨(nd x).fin, (nd x).fout, (nd x).arcs ++ [t]⟩ (.slice (some ⟨g, 0, none⟩) (n + 1) cap) (nx x) := by
  refine ⟨⟨(hxn.blk.blk.fr hF hne).set 1 _, hx4⟩, ⟨?_, fun k hk => ?_⟩⟩
  ·have h1 := own_fr ho3 hS (fun k hk e => by simp [Value.ownBlock] at hk; omega)
   simpa [hn] using h1
  ·simp [Value.ownBlock] at hk
   subst hk
   rcases hg with e | e
   ·have := (own_lt' hxn.row.own e).2
    exact (paint_lt this).trans (hxn.row.col _ e)
   ·exact paint_ge e
 have hone := N2.one hx (w' := w3.setCell ⟨x, 1, none⟩ (.slice (some ⟨g, 0, none⟩) (n + 1) cap)) (col' := paint W2.heap.size 5 col) ((hF.mono (G := fun k => k = x ∨ (tv x).ownBlock = some k) (fun k _ e => .inr (by rw [htv]; exact e))).setCell (fun _ => .inl rfl) _) (fun k hk => paint_lt hk) hnode (by
  rw [htv]
  rcases hg with e | e
  ·left; rw [e]; rfl
  ·right; intro k hk; simp [Value.ownBlock] at hk; omega)
 have hnx : upd nx x (nx x) = nx := by
  funext y; unfold upd; split
  ·rename_i e; rw [e]
  ·rfl
 rw [hnx] at hone
 exact ⟨_, _, K4, U2.kp K4 (by omega), hone⟩
set_option maxHeartbeats 1000000 in
set_option maxRecDepth 100000 in
theorem lastc_calls (hU : Unf w col ub cb pb sv full bs m vs) (hN : Nds w col L nd tv nx) (hv : vs[i]? = some v) (hvx : v.x = some x) (hx : x ∈ L) (hl : (nd x).arcs.length ≤ 256) (hh : v.hl = true) :
  Calls Tryz.prog 88 #[.pointer (some ⟨(plc cb bs i).1, (plc cb bs i).2, none⟩), .int .i64 (ad : Int)] w fun e w' => e = .returned (.tuple #[]) ∧ LastPost w col ub cb pb sv full bs vs v m i x ad L nd nx w' := by
 have hil := (List.getElem?_eq_some_iff.1 hv).1
 have U1 := hU.set hv (u' := ⟨some x, v.lo, v.li, false⟩) (j := 3) (v := .bool false) (by omega) (by simp [Ue.cells, hvx])
 have g1 : (vs.set i ⟨some x, v.lo, v.li, false⟩)[i]? = some ⟨some x, v.lo, v.li, false⟩ := by rw [List.getElem?_set_self hil]
 have U2 := U1.set g1 (u' := ⟨some x, 0, v.li, false⟩) (j := 1) (v := .int .u64 0) (by omega) rfl
 rw [List.set_set] at U2
 have p0 := (hU.cell hv (j := 0) (v := ptrN v.x) rfl).1
 have p1 := (hU.cell hv (j := 1) (v := .int .u64 (v.lo : Int)) rfl).1
 have p2 := (hU.cell hv (j := 2) (v := .int .u8 (v.li : Int)) rfl).1
 have p3 := (hU.cell hv (j := 3) (v := .bool v.hl) rfl).1
 have z1 := (hU.cell hv (j := 1) (v := .int .u64 (v.lo : Int)) rfl).2
 have z3 := (hU.cell hv (j := 3) (v := .bool v.hl) rfl).2
 have g2 : (vs.set i ⟨some x, 0, v.li, false⟩)[i]? = some ⟨some x, 0, v.li, false⟩ := by rw [List.getElem?_set_self hil]
 have s0 := (U2.cell g2 (j := 0) (v := .pointer (some ⟨x, 0, none⟩)) rfl).1
 rw [hh] at p3
 rw [hvx] at p0
 have hp6 : col (plc cb bs i).1 = 6 := by
  unfold plc; split
  ·exact hU.cache.col
  ·exact (hU.far i v (by omega) hv).col
 have K2 : Kp (fun d => d = 6) col w col ((w.setCell ⟨(plc cb bs i).1, (plc cb bs i).2 + 3, none⟩ (.bool false)).setCell ⟨(plc cb bs i).1, (plc cb bs i).2 + 1, none⟩ (.int .u64 0)) := ((Kp.refl _ col w).set _ hp6).set _ hp6
 have N2 := hN.kp K2 (by omega) (by omega)
 have hxn := N2.node x hx
 obtain ⟨A, c, htv, hc1, hc2⟩ := hxn.slc
 rw [htv] at hxn
 have s1 := hxn.blk.blk.cell 1 rfl
 have sz := hxn.blk.blk.frz 1
 have hown := hxn.row.own
 have q1 : w.cell? ⟨x, 1, none⟩ = some (.slice A (nd x).arcs.length c) := by
  have := (hN.node x hx).blk.blk.cell 1 rfl
  rwa [htv] at this
 have HH := Lib.hid (And.intro U2 (And.intro N2 (And.intro K2 (And.intro hxn htv))))
 have P0 : w.cell? ⟨(plc cb bs i).1, (plc cb bs i).2, none⟩ = some (.pointer (some ⟨x, 0, none⟩)) := p0
 have S0 : ((w.setCell ⟨(plc cb bs i).1, (plc cb bs i).2 + 3, none⟩ (.bool false)).setCell ⟨(plc cb bs i).1, (plc cb bs i).2 + 1, none⟩ (.int .u64 0)).cell? ⟨(plc cb bs i).1, (plc cb bs i).2, none⟩ = some (.pointer (some ⟨x, 0, none⟩)) := s0
 clear U1 U2 N2 hxn hU hN g1 g2 hv hh p0 s0
 generalize hn : (nd x).arcs.length = n at *
 have HN := Lib.hid hn
 clear hn htv K2
 generalize (plc cb bs i).1 = pB at *
 generalize (plc cb bs i).2 = pO at *
 obtain ⟨W2, hW2⟩ : ∃ W2, Hid (W2 = (w.setCell ⟨pB, pO + 3, none⟩ (.bool false)).setCell ⟨pB, pO + 1, none⟩ (.int .u64 0)) := ⟨_, Lib.hid rfl⟩
 rw [← hW2.out] at S0 s1 sz hown HH
 go_enter Tryz.func88, Tryz.ntmps88
 go_wp2_with fail
 rw [← hW2.out]
 clear p1 p2 p3 z1 z3 q1 P0
 refine wp_region_seqV (fun W => W.cell? ⟨pB, pO, none⟩ = some (.pointer (some ⟨x, 0, none⟩)) ∧ W.cell? ⟨x, 1, none⟩ = some (.slice A n c)) (fun i => decide (i ≠ 15 ∧ i ≠ 16 ∧ i ≠ 19)) (fun i => ![3, 7, 10].contains i && decide (i ≠ 15 ∧ i ≠ 16 ∧ i ≠ 19)) (fun i => decide (i = 19)) [0, 1, 2, 3, 4, 5, 6, 7, 8, 9, 10, 11, 12, 13, 14, 15, 16, 17, 18, 19] (by kernel_rfl) (by kernel_rfl) (fun c a d v w h => by cases d <;> exact h) ⟨S0, s1⟩ ?_
 iterate 3 (apply seqV_pure (ho := rfl) (hr := rfl) (hg := rfl); (intro w'; go_simp; rfl))
 (apply seqV_read (ho := rfl) (hr := rfl) (hp := rfl) (hg := rfl); (rintro w' ⟨q0, q1⟩; go_simp; rfl))
 iterate 3 (apply seqV_pure (ho := rfl) (hr := rfl) (hg := rfl); (intro w'; go_simp; rfl))
 (apply seqV_read (ho := rfl) (hr := rfl) (hp := rfl) (hg := rfl); (rintro w' ⟨q0, q1⟩; go_simp; rfl))
 iterate 2 (apply seqV_pure (ho := rfl) (hr := rfl) (hg := rfl); (intro w'; go_simp; rfl))
 (apply seqV_read (ho := rfl) (hr := rfl) (hp := rfl) (hg := rfl); (rintro w' ⟨q0, q1⟩; go_simp; rfl))
 iterate 4 (apply seqV_pure (ho := rfl) (hr := rfl) (hg := rfl); (intro w'; go_simp; rfl))
 refine seqV_do rfl rfl fun K hK => ?_
 go_simp
 have hbl := Blk.newAt W2.drew [.int .u64 (v.lo : Int), .int .i64 (ad : Int), .int .u8 (v.li : Int)] 196 _ rfl
 have hFa : Fr (fun _ => False) W2 (W2.drew.alloc (.cells [.int .u64 (v.lo : Int), .int .i64 (ad : Int), .int .u8 (v.li : Int)].toArray 196)) := ((Fr.refl _ W2).drew).alloc _
 refine hK _ _ (fun _ => ⟨hFa.cell S0 (fun e => e), hFa.cell s1 (fun e => e)⟩) ?_
 clear hK K
 refine seqV_do rfl rfl fun K hK => ?_
 refine stepA (by rfl) _ _ _ (by rfl) 196 (.agg #[.int .u64 0, .int .i64 0, .int .u8 0]) 3 24 (by kernel_rfl) (by kernel_rfl) rfl (by decide) _ n _ (by rfl) (own_fr hown hFa (fun _ _ e => e)) _ _ (by rfl) hbl rfl (by simp [Value.oneCell']) (by omega) (by decide) ?_
 intro g cap w3 ho3 hF3 hg3 hcap
 have hF0 : Fr (fun k => (Value.slice A n c).ownBlock = some k) W2 w3 := (hFa.mono (fun _ _ e => e.elim)).trans hF3 (fun _ _ e => e)
 obtain ⟨U2, N2, K2, hxn, htv⟩ := HH.out
 have hxne : (Value.slice A n c).ownBlock ≠ some x := own_ne_blk hown hxn.blk.blk (by decide)
 have hp := lastc_post U2 N2 hx htv hxn (t := (v.li, v.lo, ad)) (g := g) (n := n) (cap := cap) (HN.out ▸ rfl) (by simpa [arcCells] using ho3) hF0 (hg3.imp id (fun e => by rw [e]; exact hFa.size))
 have s13 := hF0.cell s1 hxne
 have sz3 : w3.frozen? ⟨x, 1, none⟩ = false := ((hxn.blk.blk.fr hF0 hxne).frz 1)
 have hres : LastPost w col ub cb pb sv full bs vs v m i x ad L nd nx (w3.setCell ⟨x, 1, none⟩ (.slice (some ⟨g, 0, none⟩) (n + 1) cap)) := by
  obtain ⟨col', tv', hk, hu, hnn⟩ := hp
  exact ⟨col', tv', (K2.mono (fun _ e => .inr (.inr e))).trans (hk.mono (fun d e => by omega)), hu, hnn⟩
 have HE := Lib.hid hres
 refine hK _ _ (fun _ => ⟨hF0.cell S0 (fun e => by have h5 : col pB = 5 := hxn.row.col pB e; rw [hp6] at h5; cases h5), s13⟩) ?_
 clear hK K hp hres hF0 hFa hF3 hg3 hbl U2 N2 K2 hxn htv HH hown ho3
 iterate 2 (apply seqV_pure (ho := rfl) (hr := rfl) (hg := rfl); (intro w'; go_simp; rfl))
 refine seqV_do rfl rfl fun K hK => ?_
 go_simp
 refine hK _ _ (fun h => by cases h) ?_
 clear hK K
 unfold seqV
 go_simp
 go_wp2_with fail
 go_end0
 exact ⟨rfl, HE.out⟩
end
end
section
open Go.RowKit Fmt
theorem upd_same {α : Type} (f : Nat → α) (x : Nat) : upd f x (f x) = f := by
 funext y; unfold upd; split
 ·rename_i e; rw [e]
 ·rfl
theorem upd_upd {α : Type} (f : Nat → α) (x : Nat) (a b : α) : upd (upd f x a) x b = upd f x b := by
 funext y; unfold upd; split <;> rfl
section
variable {w w' : World} {col col' : Col} {C : Nat → Prop} {ub cb pb x : Nat} {K : List (Nat × Nd)} {st : List Un} {ws : List Ue} {n : Nd} {v : Ue} {u : Un}
section
variable {sv : Value} {full : List Value} {bs : Nat → Nat} {vs : List Ue} {xs PL L : List Nat} {nd : Nat → Nd} {tv : Nat → Value} {nx : Nat → Option Nat}
theorem Nds.setOne (h : Nds w col L nd tv nx) (hx : x ∈ L) {j : Nat} {val : Value} {n' : Nd} (hc : [Value.int .u64 (n'.fout : Int), tv x, .bool n'.fin, ptrN (nx x)] = [Value.int .u64 ((nd x).fout : Int), tv x, .bool (nd x).fin, ptrN (nx x)].set j val) (ha : n'.arcs = (nd x).arcs) :
  Nds (w.setCell ⟨x, j, none⟩ val) col L (upd nd x n') tv nx ∧ Kp (fun d => d = 4) col w col (w.setCell ⟨x, j, none⟩ val) := by
 have hn := h.node x hx
 have hS : Fr (fun k => k = x) w (w.setCell ⟨x, j, none⟩ val) := Fr.setCell (F := fun k => k = x) (p := ⟨x, j, none⟩) (Fr.refl _ w) (fun _ => rfl) _
 have hnode : NodeC (w.setCell ⟨x, j, none⟩ val) col x n' (tv x) (nx x) := by
  refine ⟨⟨by rw [hc]; exact hn.blk.blk.set j val, hn.blk.col⟩, ?_⟩
  rw [ha]
  exact ⟨own_fr hn.row.own hS (fun k hk e => own_ne_blk hn.row.own hn.blk.blk (by decide) (e ▸ hk)), hn.row.col⟩
 have := h.one hx (hS.mono (fun k _ e => .inl e)) (fun _ _ => rfl) hnode (.inl rfl)
 rw [upd_same, upd_same] at this
 exact ⟨this, (Kp.refl _ col w).set _ hn.blk.col⟩
theorem CrI.memL (h : CrI w col ub cb pb ((x, n) :: K) st ws sv full bs vs xs PL L nd tv nx) : x ∈ L := h.sub x (List.mem_append_right _ (List.mem_append_right _ (by simp)))
theorem CrI.ndx (h : CrI w col ub cb pb ((x, n) :: K) st ws sv full bs vs xs PL L nd tv nx) : nd x = n := h.held (x, n) (by simp)
theorem CrI.plen (h : CrI w col ub cb pb K st ws sv full bs vs xs PL L nd tv nx) : vs.length = st.length := h.rep.len
/-- The held node x with cells v goes on the stack. -/
theorem CrI.push (h : CrI w col ub cb pb ((x, n) :: K) st [v] sv full bs vs xs PL L nd tv nx) (hr : RepI nd v u x) {v' : Value} {full' : List Value} {z : Array Value} (hrow : RowF w' 159 1 v' (vs.length + 1) full') (hF : Fr (fun k => sv.ownBlock = some k) w w')
  (hc : (v'.ownBlock = sv.ownBlock ∧ full' = full.take (vs.length * 1) ++ [.pointer (some ⟨(plc cb bs vs.length).1, (plc cb bs vs.length).2, none⟩)] ++ full.drop ((vs.length + 1) * 1)) ∨ ((∃ b', v'.ownBlock = some b' ∧ w.heap.size ≤ b') ∧ ∃ k, full' = full.take (vs.length * 1) ++ [.pointer (some ⟨(plc cb bs vs.length).1, (plc cb bs vs.length).2, none⟩)] ++ zeros z k)) :
  Cr (w'.setCell ⟨ub, 0, none⟩ v') (paint w.heap.size 6 col) ub cb pb K (st ++ [u]) ∧ Kp (fun d => d = 6) col w (paint w.heap.size 6 col) (w'.setCell ⟨ub, 0, none⟩ v') := by
 obtain ⟨hu, hk⟩ := h.unf.push hrow hF hc
 have hp : ((xs ++ [x]) ++ (PL ++ K.map Prod.fst)).Perm (xs ++ (PL ++ ((x, n) :: K).map Prod.fst)) := by
  rw [List.append_assoc]
  refine (List.Perm.refl _).append ?_
  rw [List.map_cons, List.singleton_append]; exact List.perm_middle.symm
 exact ⟨⟨_, _, _, _, _, _, _, _, _, _, h.unf' hk (by rw [List.append_nil]; exact hu) (h.rep.snoc hr) (fun y hy => h.sub y (hp.mem_iff.1 hy)) (hp.nodup_iff.2 h.nodup) (fun q hq => h.held q (List.mem_cons_of_mem _ hq))⟩, hk⟩
/-- The stack's top is popped: its cells lie beyond the stack, its node is held. -/
theorem CrI.pop {A : Option Addr} {k cap : Nat} (h : CrI w col ub cb pb K (st ++ [u]) [] (.slice A k cap) full bs vs xs PL L nd tv nx) :
  ∃ vs' v xs' x, vs = vs' ++ [v] ∧ xs = xs' ++ [x] ∧ vs'.length = st.length ∧ k = st.length + 1 ∧ RepI nd v u x ∧ CrI (w.setCell ⟨ub, 0, none⟩ (.slice A st.length cap)) col ub cb pb ((x, u.nd) :: K) st [v] (.slice A st.length cap) full bs vs' xs' PL L nd tv nx ∧ Kp (fun d => d = 6) col w col (w.setCell ⟨ub, 0, none⟩ (.slice A st.length cap)) := by
 obtain ⟨vs', v, xs', x, rfl, rfl, hv, hx, hrep, hr⟩ := h.rep.last
 have hk : k = st.length + 1 := by
  have := h.unf.row.row
  rcases this with ⟨e, e2, _⟩ | ⟨g, cap', e, _⟩
  ·simp at e2
  ·injection e with _ e _; rw [e]; simp [hv]
 subst hk
 have hu := h.unf
 rw [List.append_nil] at hu
 rw [← hv] at hu ⊢
 obtain ⟨hu2, hk2⟩ := hu.cut rfl
 refine ⟨vs', v, xs', x, rfl, rfl, rfl, rfl, hr, ?_, hk2⟩
 have hp : ((xs' ++ [x]) ++ (PL ++ K.map Prod.fst)).Perm (xs' ++ (PL ++ ((x, u.nd) :: K).map Prod.fst)) := by
  rw [List.append_assoc]
  refine (List.Perm.refl _).append ?_
  rw [List.map_cons, List.singleton_append]; exact List.perm_middle.symm
 exact h.unf' hk2 hu2 hrep (fun y hy => h.sub y (hp.mem_iff.2 hy)) (hp.nodup_iff.1 h.nodup) (fun q hq => by
  rcases List.mem_cons.1 hq with e | hq
  ·rw [e]; exact hr.hn
  ·exact h.held q hq)
end
end
end
section
open Go.RowKit Fmt
section
variable {w : World} {col : Col} {ub cb pb : Nat} {K : List (Nat × Nd)} {st : List Un}
theorem kp6 {w w' : World} {col col' : Col} (h : Kp (fun d => d = 6) col w col' w') : Kp crc col w col' w' := h.mono fun _ e => .inr (.inr (.inl e))
theorem kp4 {w w' : World} {col col' : Col} (h : Kp (fun d => d = 4) col w col' w') : Kp crc col w col' w' := h.mono fun _ e => .inl e
theorem kpn {w w' : World} {col col' : Col} (h : Kp npc col w col' w') : Kp crc col w col' w' := h.mono fun _ e => e.elim .inl (fun e => e.elim (fun e => .inr (.inl e)) (fun e => .inr (.inr (.inr e))))
theorem CrI.poolsub {w : World} {col : Col} {ws : List Ue} {sv : Value} {full : List Value} {bs : Nat → Nat} {vs : List Ue} {xs PL L : List Nat} {nd : Nat → Nd} {tv : Nat → Value} {nx : Nat → Option Nat} (h : CrI w col ub cb pb K st ws sv full bs vs xs PL L nd tv nx) : (∀ y, y ∈ PL → y ∈ L) ∧ PL.Nodup :=
 ⟨fun y hy => h.sub y (List.mem_append_right _ (List.mem_append_left _ hy)), (List.nodup_append.1 (List.nodup_append.1 h.nodup).2.1).1⟩
theorem rowv {w : World} {e : TypeId} {size : Nat} {v : Value} {n : Nat} {full : List Value} (h : RowF w e size v n full) : ∃ A c, v = .slice A n c := by
 rcases h with ⟨rfl, rfl, _⟩ | ⟨g, c, rfl, _⟩
 ·exact ⟨_, _, rfl⟩
 ·exact ⟨_, _, rfl⟩
theorem rowf_ne {w : World} {e : TypeId} {size : Nat} {v : Value} {n : Nat} {full : List Value} (h : RowF w e size v n full) {b : Nat} {cs : List Value} {t : TypeId} (hb : Blk w b cs t) (ht : e ≠ t) : ¬ v.ownBlock = some b := fun e2 => by
 rcases h with ⟨rfl, _⟩ | ⟨g, c, rfl, hb2, _⟩
 ·simp [Value.ownBlock] at e2
 ·simp [Value.ownBlock] at e2
  subst e2
  exact ht (hb2.inj hb).2
set_option maxHeartbeats 1000000 in
set_option maxRecDepth 100000 in
theorem pushe_calls (h : Cr w col ub cb pb K st) (hl : st.length ≤ 1000000) (fin : Bool) :
  Calls Tryz.prog 76 #[.pointer (some ⟨ub, 0, none⟩), .bool fin] w fun e w' => e = .returned (.tuple #[]) ∧ ∃ col', Cr w' col' ub cb pb K (st ++ [⟨⟨fin, 0, []⟩, none⟩]) ∧ Kp crc col w col' w' := by
 obtain ⟨sv, full, bs, vs, xs, PL, L, nd, tv, nx, h⟩ := h
 have hu0 := h.unf
 rw [List.append_nil] at hu0
 have hg := uget_calls hu0
 have hvl := h.plen
 have HH := Lib.hid h
 have hl' : vs.length ≤ 1000000 := by omega
 clear h hu0 hvl
 go_enter Tryz.func76, Tryz.ntmps76
 go_wp2_with fail
 refine hg.mono ?_
 rintro e w1 ⟨bs1, col1, rfl, hU1, hK1⟩
 have h1 : CrI w1 col1 ub cb pb K st [ue0] sv full bs1 vs xs PL L nd tv nx := HH.out.unf' hK1 hU1 HH.out.rep HH.out.sub HH.out.nodup HH.out.held
 have hgt := get_calls h1.nds h1.pool h1.poolsub.1 h1.poolsub.2
 have p2 := h1.unf.blk.blk.cell 2 rfl
 obtain ⟨pB, hpB⟩ : ∃ pB, Hid ((plc cb bs1 vs.length).1 = pB) := ⟨_, Lib.hid rfl⟩
 obtain ⟨pO, hpO⟩ : ∃ pO, Hid ((plc cb bs1 vs.length).2 = pO) := ⟨_, Lib.hid rfl⟩
 rw [hpB.out, hpO.out]
 have H1 := Lib.hid (And.intro h1 (kp6 hK1))
 clear h1 hU1 hK1 hg HH
 go_wp2_with fail
 refine hgt.mono ?_
 rintro e w2 ⟨x, rfl, hG⟩
 obtain ⟨PL2, L2, nd2, tv2, nx2, col2, h2, hK2⟩ := H1.out.1.get hG
 have hk2 := H1.out.2.trans (kpn hK2)
 have hu : (vs ++ [ue0])[vs.length]? = some ue0 := by simp
 have hset : ∀ q q' : Ue, (vs ++ [q]).set vs.length q' = vs ++ [q'] := fun q q' => by simp
 obtain ⟨c0, z0⟩ := h2.unf.cell hu (j := 0) (v := .pointer none) rfl
 have U3 := h2.unf.set hu (u' := ⟨some x, 0, 0, false⟩) (j := 0) (v := .pointer (some ⟨x, 0, none⟩)) (by omega) rfl
 rw [hset] at U3
 have hcp : col2 (plc cb bs1 vs.length).1 = 6 := by
  unfold plc; split
  ·exact h2.unf.cache.col
  ·exact (h2.unf.far _ ue0 (by omega) hu).col
 have K3 : Kp (fun d => d = 6) col2 w2 col2 (w2.setCell ⟨(plc cb bs1 vs.length).1, (plc cb bs1 vs.length).2 + 0, none⟩ (.pointer (some ⟨x, 0, none⟩))) := (Kp.refl _ col2 w2).set _ hcp
 have h3 := h2.unf' K3 U3 h2.rep h2.sub h2.nodup h2.held
 have hd0 := (h3.unf.cell (i := vs.length) (u := ⟨some x, 0, 0, false⟩) (by simp) (j := 0) (v := .pointer (some ⟨x, 0, none⟩)) rfl).1
 have hx2 := h3.memL
 have hnx := h3.ndx
 have b3 := (h3.nds.node x hx2).blk.blk
 have d2 := b3.cell 2 rfl
 have f2 := b3.frz 2
 obtain ⟨N4, K4⟩ := h3.nds.setOne hx2 (j := 2) (val := .bool fin) (n' := ⟨fin, 0, []⟩) (by rw [hnx]; rfl) (by rw [hnx])
 have h4 := h3.upd N4 (K4.mono fun _ e => .inl e)
 have b4 := h4.unf.blk.blk.cell 0 rfl
 have hrow := h4.unf.row.row
 have hk4 := (hk2.trans (kp6 K3)).trans (kp4 K4)
 have u4 := h4.unf.blk.blk
 have z4 := u4.frz 0
 rw [hpB.out, hpO.out] at c0 z0 hd0 d2 f2 b4 h4 hk4 hrow u4 z4
 rw [Nat.add_zero] at c0 z0 hd0 d2 f2 b4 h4 hk4 hrow u4 z4
 rw [hnx] at d2
 obtain ⟨W4, hW4⟩ : ∃ W4, Hid (W4 = (w2.setCell ⟨pB, pO, none⟩ (.pointer (some ⟨x, 0, none⟩))).setCell ⟨x, 2, none⟩ (.bool fin)) := ⟨_, Lib.hid rfl⟩
 have hsz : Hid (W4.heap.size = w2.heap.size) := Lib.hid (by rw [hW4.out]; simp [World.setCell])
 rw [← hW4.out] at h4 hk4 hrow u4 z4
 have H4 := Lib.hid (And.intro h4 hk4)
 clear h2 h3 h4 K3 K4 U3 N4 hk2 hk4 H1 hgt hG hK2 hx2 hnx b3 hcp hu hset p2
 obtain ⟨A, cap, hsv, hcap, hmax⟩ := H4.out.1.unf.row.cap
 subst hsv
 generalize hn : vs.length = n at *
 have HN := Lib.hid hn
 clear hn
 go_wp2_with (at_builtin; (rw [← hW4.out]; refine app1f W4 w2.heap.size hsz.out rfl _ _ 160 rfl 159 (.pointer none) 1 8 (by kernel_rfl) (by kernel_rfl) rfl (.slice A n cap) n full [.pointer (some ⟨pB, pO, none⟩)] rfl rfl hrow rfl (by simp [Value.oneCell']) (by omega) (by decide) ?_); intro v' w5 full' hr5 hF5 hc5; have hsv := rowv hr5; obtain ⟨A', cap', rfl⟩ := hsv; have u5 := u4.fr hF5 (rowf_ne hrow u4 (by decide)); have d5 := u5.cell 0 rfl; have e5 := u5.frz 0)
 obtain ⟨h4, hk4⟩ := H4.out
 go_end0
 have hn := HN.out
 subst hn
 rw [← hpB.out, ← hpO.out] at hc5
 obtain ⟨hcr, hk5⟩ := h4.push (u := ⟨⟨fin, 0, []⟩, none⟩) ⟨rfl, h4.ndx, fun i o e => (by cases e), fun _ => rfl⟩ hr5 hF5 hc5
 exact ⟨rfl, _, hcr, hk4.trans (kp6 hk5)⟩
end
end
section
open Go.RowKit Fmt
section
variable {w : World} {col : Col} {ub cb pb : Nat} {K : List (Nat × Nd)} {st : List Un} {u : Un}
/-- What a pop needs to be told: the row's head, where the last one lies, what is left. -/
theorem CrI.popm {w : World} {sv : Value} {full : List Value} {bs : Nat → Nat} {vs : List Ue} {xs PL L : List Nat} {nd : Nat → Nd} {tv : Nat → Value} {nx : Nat → Option Nat} (h : CrI w col ub cb pb K (st ++ [u]) [] sv full bs vs xs PL L nd tv nx) :
  ∃ g cap vs' v xs' x, sv = .slice (some ⟨g, 0, none⟩) (st.length + 1) cap ∧ st.length + 1 ≤ cap ∧ cap ≤ maxLen ∧ vs'.length = st.length ∧ w.cell? ⟨g, st.length, none⟩ = some (.pointer (some ⟨(plc cb bs st.length).1, (plc cb bs st.length).2, none⟩)) ∧ RepI nd v u x ∧
   ∀ q, CrI ((w.drewN q).setCell ⟨ub, 0, none⟩ (.slice (some ⟨g, 0, none⟩) st.length cap)) col ub cb pb ((x, u.nd) :: K) st [v] (.slice (some ⟨g, 0, none⟩) st.length cap) full bs vs' xs' PL L nd tv nx ∧ Kp crc col w col ((w.drewN q).setCell ⟨ub, 0, none⟩ (.slice (some ⟨g, 0, none⟩) st.length cap)) := by
 have hvl := h.plen
 simp only [List.length_append, List.length_cons, List.length_nil] at hvl
 have hpt := h.unf.ptr st.length (by omega)
 obtain ⟨g, cap, rfl, hc1, hc2, hc3, hb, hcell, hfz⟩ := h.unf.row.row.at_ hpt
 obtain ⟨vs', v, xs', x, rfl, rfl, hv', hk, hr, hp, hkp⟩ := h.pop
 refine ⟨g, cap, vs', v, xs', x, by rw [hk], by omega, hc2, hv', hcell, hr, fun q => ⟨?_, kp6 ?_⟩⟩
 ·exact hp.kp (C := fun _ => False) ((Kp.refl _ col _).drewN q) (fun _ e => e.elim)
 ·exact hkp.drewN q
set_option maxHeartbeats 1000000 in
set_option maxRecDepth 100000 in
theorem pope_calls (h : Cr w col ub cb pb K (st ++ [u])) (hl : st.length ≤ 1000000) :
  Calls Tryz.prog 71 #[.pointer (some ⟨ub, 0, none⟩)] w fun e w' => ∃ x col', e = .returned (.pointer (some ⟨x, 0, none⟩)) ∧ Cr w' col' ub cb pb ((x, u.nd) :: K) st ∧ Kp crc col w col' w' := by
 obtain ⟨sv, full, bs, vs, xs, PL, L, nd, tv, nx, h⟩ := h
 obtain ⟨g, cap, vs', v, xs', x, rfl, hc1, hc2, hvl, pn, hr, hq⟩ := h.popm
 have p0 := h.unf.blk.blk.cell 0 rfl
 have pz := h.unf.blk.blk.frz 0
 obtain ⟨pB, hpB⟩ : ∃ pB, Hid ((plc cb bs st.length).1 = pB) := ⟨_, Lib.hid rfl⟩
 obtain ⟨pO, hpO⟩ : ∃ pO, Hid ((plc cb bs st.length).2 = pO) := ⟨_, Lib.hid rfl⟩
 rw [hpB.out, hpO.out] at pn
 have hnn : (vs' ++ [v])[st.length]? = some v := by rw [List.getElem?_append_right (by omega), hvl, Nat.sub_self]; rfl
 have cx := ((hq 0).1.unf.cell hnn (j := 0) (v := ptrN v.x) rfl).1
 rw [hr.hx, hpB.out, hpO.out] at cx
 have CX : (w.setCell ⟨ub, 0, none⟩ (.slice (some ⟨g, 0, none⟩) st.length cap)).cell? ⟨pB, pO, none⟩ = some (.pointer (some ⟨x, 0, none⟩)) := cx
 have HQ := Lib.hid (And.intro hq (And.intro hr hvl))
 have e1 : IntKind.i64.wrap ((((st.length + 1 : Nat) : Int)) - 1) = ((st.length : Nat) : Int) := by rw [IntWalk.i64_in _ (by omega)]; omega
 clear h hq hr hvl hnn cx
 generalize hn : st.length = n at *
 have HN := Lib.hid hn
 clear hn
 have e3 : (n : Int) ≤ (cap : Int) := by omega
 have e5 : (n : Int) < (n : Int) + 1 := by omega
 have e4 : IntKind.i64.wrap (n : Int) = (n : Int) := IntWalk.i64_in _ (by omega)
 go_enter Tryz.func71, Tryz.ntmps71
 go_wp2_with fail
 refine wp_region_seqV (fun W => W.cell? ⟨ub, 0, none⟩ = some (.slice (some ⟨g, 0, none⟩) (n + 1) cap) ∧ W.cell? ⟨g, n, none⟩ = some (.pointer (some ⟨pB, pO, none⟩))) (fun i => decide (i ≠ 18)) (fun i => ![4, 11, 15].contains i && decide (i ≠ 18)) (fun i => decide (i = 18)) [0, 1, 2, 3, 4, 5, 6, 7, 8, 9, 10, 11, 12, 13, 14, 15, 16, 17, 18, 19] (by kernel_rfl) (by kernel_rfl) (fun c a d v w h => by cases d <;> exact h) ⟨p0, pn⟩ ?_
 iterate 4 (apply seqV_pure (ho := rfl) (hr := rfl) (hg := rfl); (intro w'; go_simp; rfl))
 (apply seqV_read (ho := rfl) (hr := rfl) (hp := rfl) (hg := rfl); (rintro w' ⟨q0, q1⟩; go_simp; rfl))
 iterate 6 (apply seqV_pure (ho := rfl) (hr := rfl) (hg := rfl); (intro w'; go_simp; rfl))
 (apply seqV_read (ho := rfl) (hr := rfl) (hp := rfl) (hg := rfl); (rintro w' ⟨q0, q1⟩; go_simp; rfl))
 iterate 3 (apply seqV_pure (ho := rfl) (hr := rfl) (hg := rfl); (intro w'; go_simp; rfl))
 (apply seqV_read (ho := rfl) (hr := rfl) (hp := rfl) (hg := rfl); (rintro w' ⟨q0, q1⟩; go_simp; rfl))
 iterate 2 (apply seqV_pure (ho := rfl) (hr := rfl) (hg := rfl); (intro w'; go_simp; rfl))
 refine seqV_do rfl rfl fun K hK => ?_
 go_simp
 refine hK _ _ (fun h => by cases h) ?_
 clear hK K
 go_simp
 iterate 1 (apply seqV_pure (ho := rfl) (hr := rfl) (hg := rfl); (intro w'; go_simp; rfl))
 unfold seqV
 go_simp
 go_wp2_with fail
 obtain ⟨hq, hr, hvl⟩ := HQ.out
 obtain ⟨h1, hk1⟩ : CrI ((w.setCell ⟨ub, 0, none⟩ (.slice (some ⟨g, 0, none⟩) n cap)).drew) col ub cb pb ((x, u.nd) :: K) st [v] (.slice (some ⟨g, 0, none⟩) n cap) full bs vs' xs' PL L nd tv nx ∧ Kp crc col w col ((w.setCell ⟨ub, 0, none⟩ (.slice (some ⟨g, 0, none⟩) n cap)).drew) := hq 1
 refine (uput_calls h1.unf).mono ?_
 rintro e w2 ⟨rfl, hU, hK⟩
 have h2 : Cr w2 col ub cb pb ((x, u.nd) :: K) st := ⟨_, _, _, _, _, _, _, _, _, _, h1.unf' hK (by rw [List.append_nil]; exact hU) h1.rep h1.sub h1.nodup h1.held⟩
 have HE := Lib.hid (And.intro h2 (hk1.trans (kp6 hK)))
 clear h1 hk1 h2 hU hK hq hr
 go_wp2_with fail
 go_ret
 exact ⟨x, col, rfl, HE.out⟩
set_option maxHeartbeats 1000000 in
set_option maxRecDepth 100000 in
theorem popr_calls (h : Cr w col ub cb pb K (st ++ [u])) (hl : st.length ≤ 1000000) :
  Calls Tryz.prog 54 #[.pointer (some ⟨ub, 0, none⟩)] w fun e w' => ∃ x col', e = .returned (.pointer (some ⟨x, 0, none⟩)) ∧ Cr w' col' ub cb pb ((x, u.nd) :: K) st ∧ Kp crc col w col' w' := by
 obtain ⟨sv, full, bs, vs, xs, PL, L, nd, tv, nx, h⟩ := h
 obtain ⟨g, cap, vs', v, xs', x, rfl, hc1, hc2, hvl, pn, hr, hq⟩ := h.popm
 have p0 := h.unf.blk.blk.cell 0 rfl
 have pz := h.unf.blk.blk.frz 0
 obtain ⟨pB, hpB⟩ : ∃ pB, Hid ((plc cb bs st.length).1 = pB) := ⟨_, Lib.hid rfl⟩
 obtain ⟨pO, hpO⟩ : ∃ pO, Hid ((plc cb bs st.length).2 = pO) := ⟨_, Lib.hid rfl⟩
 rw [hpB.out, hpO.out] at pn
 have hnn : (vs' ++ [v])[st.length]? = some v := by rw [List.getElem?_append_right (by omega), hvl, Nat.sub_self]; rfl
 have cx := ((hq 0).1.unf.cell hnn (j := 0) (v := ptrN v.x) rfl).1
 rw [hr.hx, hpB.out, hpO.out] at cx
 have CX : (w.setCell ⟨ub, 0, none⟩ (.slice (some ⟨g, 0, none⟩) st.length cap)).cell? ⟨pB, pO, none⟩ = some (.pointer (some ⟨x, 0, none⟩)) := cx
 have HQ := Lib.hid (And.intro hq (And.intro hr hvl))
 have e1 : IntKind.i64.wrap ((((st.length + 1 : Nat) : Int)) - 1) = ((st.length : Nat) : Int) := by rw [IntWalk.i64_in _ (by omega)]; omega
 clear h hq hr hvl hnn cx
 generalize hn : st.length = n at *
 have HN := Lib.hid hn
 clear hn
 have e3 : (n : Int) ≤ (cap : Int) := by omega
 have e5 : (n : Int) < (n : Int) + 1 := by omega
 have e4 : IntKind.i64.wrap (n : Int) = (n : Int) := IntWalk.i64_in _ (by omega)
 go_enter Tryz.func54, Tryz.ntmps54
 go_wp2_with fail
 refine wp_region_seqV (fun W => W.cell? ⟨ub, 0, none⟩ = some (.slice (some ⟨g, 0, none⟩) (n + 1) cap) ∧ W.cell? ⟨g, n, none⟩ = some (.pointer (some ⟨pB, pO, none⟩))) (fun i => decide (i ≠ 18)) (fun i => ![4, 11, 15].contains i && decide (i ≠ 18)) (fun i => decide (i = 18)) [0, 1, 2, 3, 4, 5, 6, 7, 8, 9, 10, 11, 12, 13, 14, 15, 16, 17, 18, 19] (by kernel_rfl) (by kernel_rfl) (fun c a d v w h => by cases d <;> exact h) ⟨p0, pn⟩ ?_
 iterate 4 (apply seqV_pure (ho := rfl) (hr := rfl) (hg := rfl); (intro w'; go_simp; rfl))
 (apply seqV_read (ho := rfl) (hr := rfl) (hp := rfl) (hg := rfl); (rintro w' ⟨q0, q1⟩; go_simp; rfl))
 iterate 6 (apply seqV_pure (ho := rfl) (hr := rfl) (hg := rfl); (intro w'; go_simp; rfl))
 (apply seqV_read (ho := rfl) (hr := rfl) (hp := rfl) (hg := rfl); (rintro w' ⟨q0, q1⟩; go_simp; rfl))
 iterate 3 (apply seqV_pure (ho := rfl) (hr := rfl) (hg := rfl); (intro w'; go_simp; rfl))
 (apply seqV_read (ho := rfl) (hr := rfl) (hp := rfl) (hg := rfl); (rintro w' ⟨q0, q1⟩; go_simp; rfl))
 iterate 2 (apply seqV_pure (ho := rfl) (hr := rfl) (hg := rfl); (intro w'; go_simp; rfl))
 refine seqV_do rfl rfl fun K hK => ?_
 go_simp
 refine hK _ _ (fun h => by cases h) ?_
 clear hK K
 go_simp
 iterate 1 (apply seqV_pure (ho := rfl) (hr := rfl) (hg := rfl); (intro w'; go_simp; rfl))
 unfold seqV
 go_simp
 go_wp2_with fail
 obtain ⟨hq, hr, hvl⟩ := HQ.out
 obtain ⟨h1, hk1⟩ : CrI ((w.setCell ⟨ub, 0, none⟩ (.slice (some ⟨g, 0, none⟩) n cap)).drew) col ub cb pb ((x, u.nd) :: K) st [v] (.slice (some ⟨g, 0, none⟩) n cap) full bs vs' xs' PL L nd tv nx ∧ Kp crc col w col ((w.setCell ⟨ub, 0, none⟩ (.slice (some ⟨g, 0, none⟩) n cap)).drew) := hq 1
 refine (uput_calls h1.unf).mono ?_
 rintro e w2 ⟨rfl, hU, hK⟩
 have h2 : Cr w2 col ub cb pb ((x, u.nd) :: K) st := ⟨_, _, _, _, _, _, _, _, _, _, h1.unf' hK (by rw [List.append_nil]; exact hU) h1.rep h1.sub h1.nodup h1.held⟩
 have HE := Lib.hid (And.intro h2 (hk1.trans (kp6 hK)))
 clear h1 hk1 h2 hU hK hq hr
 go_wp2_with fail
 go_ret
 exact ⟨x, col, rfl, HE.out⟩
end
end
section
open Go.RowKit Fmt
section
variable {w : World} {col : Col} {ub cb pb a : Nat} {K : List (Nat × Nd)} {st : List Un} {u : Un}
theorem kp456 {w w' : World} {col col' : Col} (h : Kp (fun d => d = 4 ∨ d = 5 ∨ d = 6) col w col' w') : Kp crc col w col' w' := h.mono fun _ e => e.elim .inl (fun e => e.elim (fun e => .inr (.inl e)) (fun e => .inr (.inr (.inl e))))
/-- A held node and the cells beyond the stack changed. -/
theorem CrI.last {w w' : World} {col col' : Col} {ws ws' : List Ue} {x : Nat} {n n' : Nd} {sv : Value} {full : List Value} {bs : Nat → Nat} {vs : List Ue} {xs PL L : List Nat} {nd : Nat → Nd} {tv tv' : Nat → Value} {nx : Nat → Option Nat}
  (h : CrI w col ub cb pb ((x, n) :: K) st ws sv full bs vs xs PL L nd tv nx) (hU : Unf w' col' ub cb pb sv full bs vs.length (vs ++ ws')) (hN : Nds w' col' L (YtmhlnijpimjjaaaGreatDoor.upd nd x n') tv' nx) (k : Kp (fun d => d = 4 ∨ d = 5 ∨ d = 6) col w col' w') :
  CrI w' col' ub cb pb ((x, n') :: K) st ws' sv full bs vs xs PL L (YtmhlnijpimjjaaaGreatDoor.upd nd x n') tv' nx := by
 have hx : x ∉ xs ++ (PL ++ K.map Prod.fst) := by
  have : (xs ++ (PL ++ ((x, n) :: K).map Prod.fst)).Perm (x :: (xs ++ (PL ++ K.map Prod.fst))) := by
   rw [List.map_cons, ← List.append_assoc, ← List.append_assoc]; exact List.perm_middle
  exact (List.nodup_cons.1 (this.nodup_iff.1 h.nodup)).1
 refine ⟨hU, h.rep.nds fun y hy => upd_ne _ _ (fun e => hx (by rw [← e]; exact List.mem_append_left _ hy)), hN, ⟨(h.pool.kp k (by omega)).blk, h.pool.chain, fun y hy => ?_⟩, h.sub, h.nodup, fun q hq => ?_⟩
 ·rw [upd_ne _ _ (fun e => hx (by rw [← e]; exact List.mem_append_right _ (List.mem_append_left _ hy)))]; exact h.pool.clean y hy
 ·rcases List.mem_cons.1 hq with e | hq
  ·rw [e]; exact upd_at _ _ _
  ·rw [upd_ne _ _ (fun e => hx (by rw [← e]; exact List.mem_append_right _ (List.mem_append_right _ (List.mem_map.2 ⟨q, hq, rfl⟩))))]
   exact h.held q (List.mem_cons_of_mem _ hq)
set_option maxHeartbeats 1000000 in
set_option maxRecDepth 100000 in
theorem popf_calls (h : Cr w col ub cb pb K (st ++ [u])) (hl : st.length ≤ 1000000) (hu : u.last ≠ none) (ha : u.nd.arcs.length ≤ 256) :
  Calls Tryz.prog 72 #[.pointer (some ⟨ub, 0, none⟩), .int .i64 (a : Int)] w fun e w' => ∃ x col', e = .returned (.pointer (some ⟨x, 0, none⟩)) ∧ Cr w' col' ub cb pb ((x, (close u a).nd) :: K) st ∧ Kp crc col w col' w' := by
 obtain ⟨⟨ti, to⟩, hu⟩ := Option.ne_none_iff_exists'.1 hu
 obtain ⟨sv, full, bs, vs, xs, PL, L, nd, tv, nx, h⟩ := h
 obtain ⟨g, cap, vs', v, xs', x, rfl, hc1, hc2, hvl, pn, hr, hq⟩ := h.popm
 have p0 := h.unf.blk.blk.cell 0 rfl
 have pz := h.unf.blk.blk.frz 0
 have hnn : ∀ v, (vs' ++ [v])[st.length]? = some v := fun v => by rw [List.getElem?_append_right (by omega), hvl, Nat.sub_self]; rfl
 have HQ := Lib.hid (And.intro hq (And.intro hr (And.intro hvl hnn)))
 obtain ⟨pB, hpB⟩ : ∃ pB, Hid ((plc cb bs st.length).1 = pB) := ⟨_, Lib.hid rfl⟩
 obtain ⟨pO, hpO⟩ : ∃ pO, Hid ((plc cb bs st.length).2 = pO) := ⟨_, Lib.hid rfl⟩
 rw [hpB.out, hpO.out] at pn
 have e1 : IntKind.i64.wrap ((((st.length + 1 : Nat) : Int)) - 1) = ((st.length : Nat) : Int) := by rw [IntWalk.i64_in _ (by omega)]; omega
 have HU := Lib.hid hu
 clear h hq hr hvl hnn hu
 generalize hn : st.length = n at *
 have HN := Lib.hid hn
 clear hn
 have e3 : (n : Int) ≤ (cap : Int) := by omega
 have e5 : (n : Int) < (n : Int) + 1 := by omega
 have e4 : IntKind.i64.wrap (n : Int) = (n : Int) := IntWalk.i64_in _ (by omega)
 go_enter Tryz.func72, Tryz.ntmps72
 go_wp2_with fail
 refine wp_region_seqV (fun W => W.cell? ⟨ub, 0, none⟩ = some (.slice (some ⟨g, 0, none⟩) (n + 1) cap) ∧ W.cell? ⟨g, n, none⟩ = some (.pointer (some ⟨pB, pO, none⟩))) (fun i => decide (i ≠ 18)) (fun i => ![4, 11, 15].contains i && decide (i ≠ 18)) (fun i => decide (i = 18)) [0, 1, 2, 3, 4, 5, 6, 7, 8, 9, 10, 11, 12, 13, 14, 15, 16, 17, 18, 19] (by kernel_rfl) (by kernel_rfl) (fun c a d v w h => by cases d <;> exact h) ⟨p0, pn⟩ ?_
 iterate 4 (apply seqV_pure (ho := rfl) (hr := rfl) (hg := rfl); (intro w'; go_simp; rfl))
 (apply seqV_read (ho := rfl) (hr := rfl) (hp := rfl) (hg := rfl); (rintro w' ⟨q0, q1⟩; go_simp; rfl))
 iterate 6 (apply seqV_pure (ho := rfl) (hr := rfl) (hg := rfl); (intro w'; go_simp; rfl))
 (apply seqV_read (ho := rfl) (hr := rfl) (hp := rfl) (hg := rfl); (rintro w' ⟨q0, q1⟩; go_simp; rfl))
 iterate 3 (apply seqV_pure (ho := rfl) (hr := rfl) (hg := rfl); (intro w'; go_simp; rfl))
 (apply seqV_read (ho := rfl) (hr := rfl) (hp := rfl) (hg := rfl); (rintro w' ⟨q0, q1⟩; go_simp; rfl))
 iterate 2 (apply seqV_pure (ho := rfl) (hr := rfl) (hg := rfl); (intro w'; go_simp; rfl))
 refine seqV_do rfl rfl fun K hK => ?_
 go_simp
 refine hK _ _ (fun h => by cases h) ?_
 clear hK K
 go_simp
 iterate 1 (apply seqV_pure (ho := rfl) (hr := rfl) (hg := rfl); (intro w'; go_simp; rfl))
 unfold seqV
 go_simp
 go_wp2_with fail
 obtain ⟨hq, hr, hvl, hnn⟩ := HQ.out
 have hu := HU.out
 obtain ⟨h1, hk1⟩ : CrI ((w.setCell ⟨ub, 0, none⟩ (.slice (some ⟨g, 0, none⟩) n cap)).drew) col ub cb pb ((x, u.nd) :: K) st [v] (.slice (some ⟨g, 0, none⟩) n cap) full bs vs' xs' PL L nd tv nx ∧ Kp crc col w col ((w.setCell ⟨ub, 0, none⟩ (.slice (some ⟨g, 0, none⟩) n cap)).drew) := hq 1
 have hrl := hr.yes ti to hu
 have hvx := h1.ndx
 have hlc := lastc_calls (ad := a) (i := n) h1.unf h1.nds (hnn v) hr.hx h1.memL (by rw [hvx]; exact ha) hrl.1
 rw [hpB.out, hpO.out] at hlc
 refine hlc.mono ?_
 rintro e w2 ⟨rfl, col2, tv2, hK2, hU2, hN2⟩
 have hset : (vs' ++ [v]).set n ⟨some x, 0, v.li, false⟩ = vs' ++ [⟨some x, 0, v.li, false⟩] := by rw [← hvl]; simp
 rw [hset] at hU2
 have hcl : (close u a).nd = ⟨(nd x).fin, (nd x).fout, (nd x).arcs ++ [(v.li, v.lo, a)]⟩ := by unfold close; rw [hu, hvx, hrl.2.1, hrl.2.2]
 rw [← hcl] at hN2
 have h2 := h1.last hU2 hN2 hK2
 have CX := (h2.unf.cell (hnn ⟨some x, 0, v.li, false⟩) (j := 0) (v := .pointer (some ⟨x, 0, none⟩)) rfl).1
 rw [hpB.out, hpO.out, Nat.add_zero] at CX
 have hup := uput_calls h2.unf
 have H2 := Lib.hid (And.intro h2 (hk1.trans (kp456 hK2)))
 clear h1 hk1 hq hr hrl hvx hlc hK2 hU2 hN2 h2 hset hcl hu hvl HQ hnn
 go_wp2_with fail
 refine hup.mono ?_
 rintro e w3 ⟨rfl, hU, hK⟩
 obtain ⟨h2, hk2⟩ := H2.out
 have h3 : Cr w3 col2 ub cb pb ((x, (close u a).nd) :: K) st := ⟨_, _, _, _, _, _, _, _, _, _, h2.unf' hK (by rw [List.append_nil]; exact hU) h2.rep h2.sub h2.nodup h2.held⟩
 have HE := Lib.hid (And.intro h3 (hk2.trans (kp6 hK)))
 clear h2 hk2 h3 hU hK H2 hup
 go_wp2_with fail
 go_ret
 exact ⟨x, col2, rfl, HE.out⟩

set_option maxHeartbeats 1000000 in
set_option maxRecDepth 100000 in
theorem topl_calls (h : Cr w col ub cb pb K (st ++ [u])) (hl : st.length ≤ 1000000) (ha : u.nd.arcs.length ≤ 256) :
  Calls Tryz.prog 73 #[.pointer (some ⟨ub, 0, none⟩), .int .i64 (a : Int)] w fun e w' => e = .returned (.tuple #[]) ∧ ∃ col', Cr w' col' ub cb pb K (st ++ [close u a]) ∧ Kp crc col w col' w' := by
 obtain ⟨sv, full, bs, vs, xs, PL, L, nd, tv, nx, h⟩ := h
 obtain ⟨vs', v, xs', x, rfl, rfl, hvl, hxl, hrep, hr⟩ := h.rep.last
 have hpt := h.unf.ptr st.length (by simp [hvl])
 obtain ⟨g, cap, rfl, hc1, hc2, hc3, hb, pn, hfz⟩ := h.unf.row.row.at_ hpt
 have p0 := h.unf.blk.blk.cell 0 rfl
 have hvn : (vs' ++ [v]).length = st.length + 1 := by simp [hvl]
 have hnn : (vs' ++ [v] ++ [])[st.length]? = some v := by rw [List.append_nil, List.getElem?_append_right (by omega), hvl, Nat.sub_self]; rfl
 rw [hvn] at p0
 have e1 : IntKind.i64.wrap ((((st.length + 1 : Nat) : Int)) - 1) = ((st.length : Nat) : Int) := by rw [IntWalk.i64_in _ (by omega)]; omega
 have e5 : ((st.length : Nat) : Int) < ((st.length : Nat) : Int) + 1 := by omega
 have e4 : IntKind.i64.wrap (st.length : Int) = (st.length : Int) := IntWalk.i64_in _ (by omega)
 cases hu : u.last with
 | none =>
  have hlc := lastc_no (ad := a) h.unf hnn (hr.no hu)
  have hcl : close u a = u := by unfold close; rw [hu]
  rw [hcl]
  have HE := Lib.hid (show Cr w col ub cb pb K (st ++ [u]) from ⟨_, _, _, _, _, _, _, _, _, _, h⟩)
  clear h hr hrep hpt hb hfz hcl
  generalize st.length = n at *
  go_enter Tryz.func73, Tryz.ntmps73
  go_wp2_with fail
  refine hlc.mono ?_
  rintro e w2 ⟨rfl, rfl⟩
  go_wp2_with fail
  go_end0
  exact ⟨rfl, _, HE.out, Kp.refl _ _ _⟩
 | some q =>
  obtain ⟨ti, to⟩ := q
  have hrl := hr.yes ti to hu
  have hxL : x ∈ L := h.sub x (by simp)
  have hlc := lastc_calls (ad := a) (i := st.length) h.unf h.nds hnn hr.hx hxL (by rw [hr.hn]; exact ha) hrl.1
  have HH := Lib.hid (And.intro h (And.intro hr (And.intro hrl (And.intro hvl hxl))))
  clear h hr hrep hpt hb hfz hrl hxL
  generalize hn : st.length = n at *
  have HN := Lib.hid hn
  clear hn
  go_enter Tryz.func73, Tryz.ntmps73
  go_wp2_with fail
  refine hlc.mono ?_
  rintro e w2 ⟨rfl, col2, tv2, hK2, hU2, hN2⟩
  go_wp2_with fail
  go_end0
  obtain ⟨h, hr, hrl, hvl, hxl⟩ := HH.out
  have hn := HN.out
  subst hn
  have hset : (vs' ++ [v] ++ []).set st.length ⟨some x, 0, v.li, false⟩ = vs' ++ [⟨some x, 0, v.li, false⟩] := by rw [List.append_nil, ← hvl]; simp
  rw [hset] at hU2
  have hcl : (close u a).nd = ⟨(nd x).fin, (nd x).fout, (nd x).arcs ++ [(v.li, v.lo, a)]⟩ := by unfold close; rw [hu, hr.hn, hrl.2.1, hrl.2.2]
  have hcn : (close u a).last = none := by unfold close; rw [hu]
  rw [← hcl] at hN2
  have hnd := h.nodup
  have hxs : (xs' ++ [x]).Nodup := (List.nodup_append.1 hnd).1
  have hrep := h.rep.put (i := st.length) (x := x) (n' := (close u a).nd) (v' := ⟨some x, 0, v.li, false⟩) (u' := close u a) hxs (by rw [← hxl]; simp) ⟨rfl, upd_at _ _ _, fun i o e => (by rw [hcn] at e; cases e), fun _ => rfl⟩
  have e1 : (vs' ++ [v]).set st.length ⟨some x, 0, v.li, false⟩ = vs' ++ [⟨some x, 0, v.li, false⟩] := by rw [← hvl]; simp
  have e2 : (st ++ [u]).set st.length (close u a) = st ++ [close u a] := by simp
  rw [e1, e2] at hrep
  have hxo : x ∉ PL ++ K.map Prod.fst := fun e => (List.nodup_append.1 hnd).2.2 x (by simp) x e rfl
  have hUf : Unf w2 col2 ub cb pb (.slice (some ⟨g, 0, none⟩) (vs' ++ [v]).length cap) full bs (vs' ++ [(⟨some x, 0, v.li, false⟩ : Ue)]).length (vs' ++ [(⟨some x, 0, v.li, false⟩ : Ue)] ++ []) := by
   have : (vs' ++ [v]).length = (vs' ++ [(⟨some x, 0, v.li, false⟩ : Ue)]).length := by simp
   rw [List.append_nil, ← this]; exact hU2
  refine ⟨rfl, col2, ⟨_, _, _, _, _, _, _, _, _, _, ⟨hUf, hrep, hN2, ⟨(h.pool.kp hK2 (by omega)).blk, h.pool.chain, fun y hy => ?_⟩, h.sub, h.nodup, fun q hq => ?_⟩⟩, kp456 hK2⟩
  ·rw [upd_ne _ _ (fun e => hxo (by rw [← e]; exact List.mem_append_left _ hy))]; exact h.pool.clean y hy
  ·rw [upd_ne _ _ (fun e => hxo (by rw [← e]; exact List.mem_append_right _ (List.mem_map.2 ⟨q, hq, rfl⟩)))]
   exact h.held q hq
end
end
end Go.Proofs.YtmhlnijpimjjaaaGreatDoor
