/- The walk of 'Expression' of the law's own side: from any value of the type a right expression of few levels. Condition: the value reads so many levels deep. -/
import Derived.Test.YtjeklnbfpehbeaaDoorM17
set_option linter.unusedVariables false
/- The walk of 'Expression' of the law's own side: from any value of the type a right expression of few levels. Condition: the value reads so many levels deep. -/
namespace Go.Proofs.YtjeklnbfpehbeaaDoor
open Go.RowKit

/-- The numbers of the kinds, as 'Expression' takes them. -/
def opsL : List Nat := [2, 3, 3, 4, 4, 6, 5, 18, 19, 14, 15, 16, 17, 13]
theorem opsL_ok : ∀ o, o ∈ opsL → (o = 2 ∨ o = 5 ∨ o = 6) ∨ o = 3 ∨ o = 4 ∨ (13 ≤ o ∧ o ≤ 19) := by
  intro o ho
  simp only [opsL, List.mem_cons, List.not_mem_nil, or_false] at ho
  omega
/-- What 'Expression' answers. -/
def ExprPost (w : World) (d : Nat) (e : Ending) (w' : World) : Prop :=
  ∃ r v', e = .returned v' ∧ ReAt (mask w' (fun k => w.heap.size ≤ k)) r v' ∧ Shp r d ∧ WfR r ∧ Fr (fun _ => False) w w'

theorem addr_add0 (b j : Nat) : (⟨b, 0, none⟩ : Addr).add j = ⟨b, j, none⟩ := by unfold Addr.add; split <;> simp_all
theorem f6_results : Tryd.f6.results = #[.cell 4 25] := by kernel_rfl
theorem info25s : (Tryd.prog.info? 25).map (·.size) = some 7 := by kernel_rfl
/-- Expression's return: the answer is laid into its cell. -/
theorem ret7 {a : Act} {W : World} {b4 : Nat} {v0 v1 v2 v3 v4 v5 v6 : Value} {cs : List Value} {Q : Ending → World → Prop} (hp : a.tmps.getD 4 undef = .pointer (some ⟨b4, 0, none⟩)) (hd : a.defers = []) (hb : Blk W b4 cs 25) (h7 : cs.length = 7)
    (hQ : ∀ w', Fr (fun k => k = b4) W w' → Q (.returned (.agg #[v0, v1, v2, v3, v4, v5, v6])) w') :
    bodyPost Tryd.prog Tryd.f6 Q Exit.ret a (((((((W.setCell ⟨b4, 0, none⟩ v0).setCell ⟨b4, 1, none⟩ v1).setCell ⟨b4, 2, none⟩ v2).setCell ⟨b4, 3, none⟩ v3).setCell ⟨b4, 4, none⟩ v4).setCell ⟨b4, 5, none⟩ v5).setCell ⟨b4, 6, none⟩ v6) := by
  have hB := ((((((hb.set 0 v0).set 1 v1).set 2 v2).set 3 v3).set 4 v4).set 5 v5).set 6 v6
  have hF : Fr (fun k => k = b4) W (((((((W.setCell ⟨b4, 0, none⟩ v0).setCell ⟨b4, 1, none⟩ v1).setCell ⟨b4, 2, none⟩ v2).setCell ⟨b4, 3, none⟩ v3).setCell ⟨b4, 4, none⟩ v4).setCell ⟨b4, 5, none⟩ v5).setCell ⟨b4, 6, none⟩ v6) :=
    (Fr.setCell (p := ⟨b4, 6, none⟩) (Fr.setCell (p := ⟨b4, 5, none⟩) (Fr.setCell (p := ⟨b4, 4, none⟩) (Fr.setCell (p := ⟨b4, 3, none⟩) (Fr.setCell (p := ⟨b4, 2, none⟩) (Fr.setCell (p := ⟨b4, 1, none⟩) (Fr.setCell (p := ⟨b4, 0, none⟩) (Fr.refl (fun k => k = b4) W) (fun _ => rfl) v0) (fun _ => rfl) v1) (fun _ => rfl) v2) (fun _ => rfl) v3) (fun _ => rfl) v4) (fun _ => rfl) v5) (fun _ => rfl) v6)
  match cs, h7 with
  | [x0, x1, x2, x3, x4, x5, x6], _ =>
    exact bodyPost_ret (results_cell_row f6_results _ _ b4 25 #[v0, v1, v2, v3, v4, v5, v6] (0, 0) _ hp hB Tryd.underlying25 rfl info25s) hd (hQ _ hF)
/-- A leaf without runes. -/
theorem reat_leaf (w : World) {r : RE} (hr : runesOf r = []) (hs : subsOf r = []) (hb : ∀ a b, boundsOf r a b) : ReAt w r (.agg #[.int .i64 (opOf r : Int), .slice none 0 0, .int .i64 0, .int .i64 0, .bool false, .bool false, .slice none 0 0]) := by
  have h := ReAt.mk (w := w) (r := r) (A := none) (c := 0) (rv := .slice none 0 0) (mn := 0) (mx := 0) (fun _ => []) (by rw [hr]; exact ⟨none, 0, rfl, fun i x hi => by simp at hi⟩) (fun _ => rfl) (hb 0 0) (fun i hi => by rw [hs] at hi; simp at hi) (fun i r' hi => by rw [hs] at hi; simp at hi)
  rw [hs] at h
  exact h
/-- A leaf with runes. -/
theorem reat_runes {w : World} {r : RE} {rs : List Nat} {g m c : Nat} {P : Nat → Prop} (h : RunesAt w (.slice (some ⟨g, 0, none⟩) m c) rs) (hP : P g) (hr : runesOf r = rs) (hs : subsOf r = []) (hb : ∀ a b, boundsOf r a b) (h1 : 1 ≤ rs.length) : ReAt (mask w P) r (.agg #[.int .i64 (opOf r : Int), .slice (some ⟨g, 0, none⟩) m c, .int .i64 0, .int .i64 0, .bool false, .bool false, .slice none 0 0]) := by
  have h := ReAt.mk (w := mask w P) (r := r) (A := none) (c := 0) (rv := .slice (some ⟨g, 0, none⟩) m c) (mn := 0) (mx := 0) (fun _ => []) (by rw [hr]; exact runes_mask h hP) (fun e => by rw [hr] at e; rw [e] at h1; simp at h1) (hb 0 0) (fun i hi => by rw [hs] at hi; simp at hi) (fun i r' hi => by rw [hs] at hi; simp at hi)
  rw [hs] at h
  exact h
/-- A node over parts that lie in a row. -/
theorem reat_node {w : World} {base B : Nat} {r : RE} {o N : Nat} {L : List RE} {cs : List (List Value)} {A : Option Addr} {c : Nat} {mn mx : Int} (ho : opOf r = o) (hL : subsOf r = L) (hru : runesOf r = []) (hb : boundsOf r mn mx) (hN : N = L.length)
    (hrow : w.ownsRow base 25 7 (.slice A N c) N cs.flatten) (hcl : cs.length = L.length) (h7 : ∀ x, x ∈ cs → x.length = 7) (hbase : B ≤ base)
    (hk : ∀ (i : Nat) (q : RE) (x : List Value), L[i]? = some q → cs[i]? = some x → ∃ P : Nat → Prop, ReAt (mask w P) q (.agg x.toArray) ∧ ∀ k, P k → B ≤ k) :
    ReAt (mask w (fun k => B ≤ k)) r (.agg #[.int .i64 (o : Int), .slice none 0 0, .int .i64 mn, .int .i64 mx, .bool false, .bool false, .slice A N c]) := by
  subst ho hL hN
  refine ReAt.mk (w := mask w (fun k => B ≤ k)) (r := r) (A := A) (c := c) (rv := .slice none 0 0) (mn := mn) (mx := mx) (fun i => (cs[i]?).getD []) (by rw [hru]; exact ⟨none, 0, rfl, fun i x hi => by simp at hi⟩) (fun _ => rfl) hb (fun i hi => ?_) (fun i q hi => ?_)
  · obtain ⟨x, hx⟩ : ∃ x, cs[i]? = some x := ⟨_, List.getElem?_eq_getElem (by omega)⟩
    have hx7 := h7 x (List.mem_of_getElem? hx)
    simp only [hx, Option.getD_some]
    rcases hrow.2 with ⟨e, e0⟩ | ⟨g, cap, cur, e, hbg, hg, e1, e2, e3, e4⟩
    · omega
    · simp at e
      obtain ⟨rfl, rfl⟩ := e
      have hgB : B ≤ g := by omega
      refine ⟨g, 0, cur.toList, rfl, blk_mask (P := fun k => B ≤ k) (by unfold Blk; simpa using hg) hgB, hx7, fun j u hj => ?_⟩
      obtain ⟨g', c', e', -, -, hc, -⟩ := own_cell hrow (flat7 cs h7 i j x u hx hj)
      simp at e'
      obtain ⟨rfl, rfl⟩ := e'
      rw [World.cell?_of_block (w := w) (mask_at (P := fun k => B ≤ k) hgB), Nat.zero_add]
      exact hc
  · have hil := (List.getElem?_eq_some_iff.1 hi).1
    obtain ⟨x, hx⟩ : ∃ x, cs[i]? = some x := ⟨_, List.getElem?_eq_getElem (by omega)⟩
    obtain ⟨P, h1, h2⟩ := hk i q x hi hx
    simp only [hx, Option.getD_some]
    exact re_mask h1 (Fr.refl (fun _ => False) w) (fun _ _ _ h => h) h2

set_option maxRecDepth 100000 in
set_option maxHeartbeats 4000000 in
theorem expr_step {w : World} {d : Nat} {v : Value} (hd9 : d ≤ 100) (h : RawE w d v) (ih : ∀ d', d = d' + 1 → ∀ W v', RawE W d' v' → Calls Tryd.prog 6 #[v', .int .i64 ((d' + 1 : Nat) : Int)] W (ExprPost W d')) :
    Calls Tryd.prog 6 #[v, .int .i64 ((d + 1 : Nat) : Int)] w (ExprPost w d) := by
  obtain @⟨_, rn, n, c, rc, x, mn, mx, la, fo, rA, A, xs, hr, hx, hs⟩ := h
  obtain ⟨D, hD⟩ : ∃ D : Int, Hid (D = ((d + 1 : Nat) : Int)) := ⟨_, Lib.hid rfl⟩
  rw [← hD.out]
  have HH := Lib.hid (And.intro hr (And.intro hx (And.intro hs ih)))
  clear hr hx hs ih
  have hat := fun W => at_calls W x (n := 14) (by decide) (by decide)
  go_enter Tryd.func6, Tryd.ntmps6
  go_wp2_with fail
  refine (hat _).mono ?_
  rintro e w1 ⟨k, hk, rfl, rfl⟩
  clear hat
  obtain ⟨o, ho⟩ : ∃ o, opsL[k]? = some o := ⟨_, List.getElem?_eq_getElem (by simpa [opsL] using hk)⟩
  have hom := opsL_ok o (List.mem_of_getElem? ho)
  have ek : (k : Int) < 14 := by omega
  have hB2 : Blk w w.heap.size [] 0 → True := fun _ => trivial
  clear hB2
  have z2 := ((Blk.new w [.int .i64 x, .slice rA rn rc, .int .i64 mn, .int .i64 mx, .bool la, .bool fo, .slice A n c] 25).alloc (.cells #[.int .i64 0, .slice none 0 0, .int .i64 0, .int .i64 0, .bool false, .bool false, .slice none 0 0] 25)).alloc (.cells (opsL.map fun (i : Nat) => Value.int .i64 (i : Int)).toArray 34)
  have z4 := (Blk.newAt (w.alloc (.cells #[.int .i64 x, .slice rA rn rc, .int .i64 mn, .int .i64 mx, .bool la, .bool fo, .slice A n c] 25)) [.int .i64 0, .slice none 0 0, .int .i64 0, .int .i64 0, .bool false, .bool false, .slice none 0 0] 25 (w.heap.size + 1) (by simp)).alloc (.cells (opsL.map fun (i : Nat) => Value.int .i64 (i : Int)).toArray 34)
  have z5 := Blk.newAt ((w.alloc (.cells #[.int .i64 x, .slice rA rn rc, .int .i64 mn, .int .i64 mx, .bool la, .bool fo, .slice A n c] 25)).alloc (.cells #[.int .i64 0, .slice none 0 0, .int .i64 0, .int .i64 0, .bool false, .bool false, .slice none 0 0] 25)) (opsL.map fun (i : Nat) => Value.int .i64 (i : Int)) 34 (w.heap.size + 1 + 1) (by simp)
  have zo := z5.cell k (v := .int .i64 (o : Int)) (by rw [List.getElem?_map, ho]; rfl)
  have zf : Fr (fun _ => False) w (((w.alloc (.cells #[.int .i64 x, .slice rA rn rc, .int .i64 mn, .int .i64 mx, .bool la, .bool fo, .slice A n c] 25)).alloc (.cells #[.int .i64 0, .slice none 0 0, .int .i64 0, .int .i64 0, .bool false, .bool false, .slice none 0 0] 25)).alloc (.cells (opsL.map fun (i : Nat) => Value.int .i64 (i : Int)).toArray 34)) := (((Fr.refl _ w).alloc _).alloc _).alloc _
  have zs : (((w.alloc (.cells #[.int .i64 x, .slice rA rn rc, .int .i64 mn, .int .i64 mx, .bool la, .bool fo, .slice A n c] 25)).alloc (.cells #[.int .i64 0, .slice none 0 0, .int .i64 0, .int .i64 0, .bool false, .bool false, .slice none 0 0] 25)).alloc (.cells (opsL.map fun (i : Nat) => Value.int .i64 (i : Int)).toArray 34)).heap.size = w.heap.size + 1 + 1 + 1 := by simp
  clear z5 ho
  have eo : (opsL.map fun (i : Nat) => Value.int .i64 (i : Int)).toArray = #[.int .i64 2, .int .i64 3, .int .i64 3, .int .i64 4, .int .i64 4, .int .i64 6, .int .i64 5, .int .i64 18, .int .i64 19, .int .i64 14, .int .i64 15, .int .i64 16, .int .i64 17, .int .i64 13] := rfl
  rw [eo] at z2 z4 zo zf zs
  clear eo
  generalize hW3 : (((w.alloc (.cells #[.int .i64 x, .slice rA rn rc, .int .i64 mn, .int .i64 mx, .bool la, .bool fo, .slice A n c] 25)).alloc (.cells #[.int .i64 0, .slice none 0 0, .int .i64 0, .int .i64 0, .bool false, .bool false, .slice none 0 0] 25)).alloc (.cells #[.int .i64 2, .int .i64 3, .int .i64 3, .int .i64 4, .int .i64 4, .int .i64 6, .int .i64 5, .int .i64 18, .int .i64 19, .int .i64 14, .int .i64 15, .int .i64 16, .int .i64 17, .int .i64 13] 34)) = W3 at *
  clear hW3
  have HB := Lib.hid (And.intro z2 (And.intro z4 zf))
  clear z2 z4 zf
  rename_i K1 hK1 K0 hK0
  have HK1 := Lib.hid hK1
  clear hK1
  --CUT
  go_wp2_with fail
  obtain ⟨zm, zd, z9⟩ := HB.out
  have y2 := (zm.alloc (.cells #[.int .i64 (o : Int), .slice none 0 0, .int .i64 0, .int .i64 0, .bool false, .bool false, .slice none 0 0] 25))
  have y4 := (zd.alloc (.cells #[.int .i64 (o : Int), .slice none 0 0, .int .i64 0, .int .i64 0, .bool false, .bool false, .slice none 0 0] 25))
  have y6 := Blk.newAt W3 [.int .i64 (o : Int), .slice none 0 0, .int .i64 0, .int .i64 0, .bool false, .bool false, .slice none 0 0] 25 _ zs
  have y9 := z9.alloc (.cells #[.int .i64 (o : Int), .slice none 0 0, .int .i64 0, .int .i64 0, .bool false, .bool false, .slice none 0 0] 25)
  have yw : (W3.alloc (.cells #[.int .i64 (o : Int), .slice none 0 0, .int .i64 0, .int .i64 0, .bool false, .bool false, .slice none 0 0] 25)).heap.size = w.heap.size + 1 + 1 + 1 + 1 := by simp [zs]
  obtain ⟨b2, hb2⟩ : ∃ b, b = w.heap.size := ⟨_, rfl⟩
  obtain ⟨b4, hb4⟩ : ∃ b, b = w.heap.size + 1 := ⟨_, rfl⟩
  obtain ⟨b5, hb5⟩ : ∃ b, b = w.heap.size + 1 + 1 := ⟨_, rfl⟩
  obtain ⟨b6, hb6⟩ : ∃ b, b = w.heap.size + 1 + 1 + 1 := ⟨_, rfl⟩
  rw [← hb6, ← hb5, ← hb4, ← hb2]
  rw [← hb2] at y2
  rw [← hb4] at y4
  rw [← hb6] at y6 yw
  generalize (W3.alloc (.cells #[.int .i64 (o : Int), .slice none 0 0, .int .i64 0, .int .i64 0, .bool false, .bool false, .slice none 0 0] 25)) = W at *
  have HN := Lib.hid (And.intro hb2 (And.intro hb4 (And.intro hb5 hb6)))
  clear zm zd z9 zo zs HB hb2 hb4 hb5 hb6 ek hk
  refine HK1.out _ _ ?_
  refine wp_seq_k fun K2 hK2 => ?_
  have HK2 := Lib.hid hK2
  clear hK2 HK1
  suffices cut : ∀ (u10 u11 u12 u13 u14 u15 u16 u17 u18 u19 u20 u21 u22 u23 u24 u25 u26 u27 u28 u29 u30 u31 u32 u33 : Value) (W : World) (o : Nat), Hid (Blk W b2 [.int .i64 x, .slice rA rn rc, .int .i64 mn, .int .i64 mx, .bool la, .bool fo, .slice A n c] 25 ∧ Blk W b4 [.int .i64 0, .slice none 0 0, .int .i64 0, .int .i64 0, .bool false, .bool false, .slice none 0 0] 25 ∧ Blk W b6 [.int .i64 (o : Int), .slice none 0 0, .int .i64 0, .int .i64 0, .bool false, .bool false, .slice none 0 0] 25 ∧ Fr (fun _ => False) w W) →
      Hid ((o = 2 ∨ o = 5 ∨ o = 6) ∨ o = 3 ∨ o = 4 ∨ (13 ≤ o ∧ o ≤ 19 ∧ 1 ≤ n ∧ ∃ d', d = d' + 1)) → K2 { tmps := #[.agg #[.int .i64 x, .slice rA rn rc, .int .i64 mn, .int .i64 mx, .bool la, .bool fo, .slice A n c], .int .i64 D, .pointer (some ⟨b2, 0, none⟩), undef, .pointer (some ⟨b4, 0, none⟩), .pointer (some ⟨b5, 0, none⟩), .pointer (some ⟨b6, 0, none⟩), undef, undef, undef, u10, u11, u12, u13, u14, u15, u16, u17, u18, u19, u20, u21, u22, u23, u24, u25, u26, u27, u28, u29, u30, u31, u32, u33, undef, undef, undef, undef, undef, undef, undef, undef, undef, undef, undef, undef, undef, undef, undef, undef, undef, undef, undef, undef, undef, undef, undef, undef, undef, undef, undef, undef, undef, undef, undef, undef, undef, undef, undef, undef, undef, undef, undef, undef, undef, undef, undef, undef, undef, undef, undef, undef, undef, undef, undef, undef, undef, undef, undef, undef, undef, undef, undef, undef, undef, undef, undef, undef, undef, undef, undef, undef, undef, undef, undef, undef, undef, undef, undef, undef, undef, undef, undef, undef, undef, undef, undef, undef, undef, undef, undef, undef, undef, undef, undef, undef, undef, undef, undef, undef, undef, undef], defers := [] } W by
    have HC := Lib.hid cut
    clear cut
    have HW := Lib.hid (And.intro y2 (And.intro y4 (And.intro y6 y9)))
    have r0 := y6.cell 0 rfl
    have r6 := y2.cell 6 rfl
    have f6 := y6.frz 0
    have HO := Lib.hid hom
    have hput : Hid (Blk (W.setCell ⟨b6, 0, none⟩ (.int .i64 3)) b2 [.int .i64 x, .slice rA rn rc, .int .i64 mn, .int .i64 mx, .bool la, .bool fo, .slice A n c] 25 ∧ Blk (W.setCell ⟨b6, 0, none⟩ (.int .i64 3)) b4 [.int .i64 0, .slice none 0 0, .int .i64 0, .int .i64 0, .bool false, .bool false, .slice none 0 0] 25 ∧ Blk (W.setCell ⟨b6, 0, none⟩ (.int .i64 3)) b6 [.int .i64 ((3 : Nat) : Int), .slice none 0 0, .int .i64 0, .int .i64 0, .bool false, .bool false, .slice none 0 0] 25 ∧ Fr (fun _ => False) w (W.setCell ⟨b6, 0, none⟩ (.int .i64 3))) := Lib.hid (by
      have h := HN.out
      exact ⟨y2.set_ne (by show b2 ≠ b6; omega) _, y4.set_ne (by show b4 ≠ b6; omega) _, y6.set 0 _, y9.setCell (p := ⟨b6, 0, none⟩) (fun hlt => by have : b6 < w.heap.size := hlt; omega) _⟩)
    clear y2 y4 y6 y9 yw hom
    by_cases c1 : D ≤ 1
    · have c1' := c1
      rcases HO.out with (rfl | rfl | rfl) | rfl | rfl | ⟨g1, g2⟩
      · as_aux_lemma =>
          go_wp2_with fail
          exact HC.out _ _ _ _ _ _ _ _ _ _ _ _ _ _ _ _ _ _ _ _ _ _ _ _ _ _ HW (Lib.hid (by omega))
      · as_aux_lemma =>
          go_wp2_with fail
          exact HC.out _ _ _ _ _ _ _ _ _ _ _ _ _ _ _ _ _ _ _ _ _ _ _ _ _ _ HW (Lib.hid (by omega))
      · as_aux_lemma =>
          go_wp2_with fail
          exact HC.out _ _ _ _ _ _ _ _ _ _ _ _ _ _ _ _ _ _ _ _ _ _ _ _ _ _ HW (Lib.hid (by omega))
      · as_aux_lemma =>
          go_wp2_with fail
          exact HC.out _ _ _ _ _ _ _ _ _ _ _ _ _ _ _ _ _ _ _ _ _ _ _ _ _ _ HW (Lib.hid (by omega))
      · as_aux_lemma =>
          go_wp2_with fail
          exact HC.out _ _ _ _ _ _ _ _ _ _ _ _ _ _ _ _ _ _ _ _ _ _ _ _ _ _ HW (Lib.hid (by omega))
      · as_aux_lemma =>
          have m2 : ¬ ((o : Int) = 2) := by omega
          have m3 : ¬ ((o : Int) = 3) := by omega
          have m4 : ¬ ((o : Int) = 4) := by omega
          have m6 : ¬ ((o : Int) = 6) := by omega
          have m5 : ¬ ((o : Int) = 5) := by omega
          go_wp2_with fail
          exact HC.out _ _ _ _ _ _ _ _ _ _ _ _ _ _ _ _ _ _ _ _ _ _ _ _ _ 3 hput (Lib.hid (by omega))
    by_cases c2 : n = 0
    · subst c2
      rcases HO.out with (rfl | rfl | rfl) | rfl | rfl | ⟨g1, g2⟩
      · as_aux_lemma =>
          go_wp2_with fail
          exact HC.out _ _ _ _ _ _ _ _ _ _ _ _ _ _ _ _ _ _ _ _ _ _ _ _ _ _ HW (Lib.hid (by omega))
      · as_aux_lemma =>
          go_wp2_with fail
          exact HC.out _ _ _ _ _ _ _ _ _ _ _ _ _ _ _ _ _ _ _ _ _ _ _ _ _ _ HW (Lib.hid (by omega))
      · as_aux_lemma =>
          go_wp2_with fail
          exact HC.out _ _ _ _ _ _ _ _ _ _ _ _ _ _ _ _ _ _ _ _ _ _ _ _ _ _ HW (Lib.hid (by omega))
      · as_aux_lemma =>
          go_wp2_with fail
          exact HC.out _ _ _ _ _ _ _ _ _ _ _ _ _ _ _ _ _ _ _ _ _ _ _ _ _ _ HW (Lib.hid (by omega))
      · as_aux_lemma =>
          go_wp2_with fail
          exact HC.out _ _ _ _ _ _ _ _ _ _ _ _ _ _ _ _ _ _ _ _ _ _ _ _ _ _ HW (Lib.hid (by omega))
      · as_aux_lemma =>
          have m2 : ¬ ((o : Int) = 2) := by omega
          have m3 : ¬ ((o : Int) = 3) := by omega
          have m4 : ¬ ((o : Int) = 4) := by omega
          have m6 : ¬ ((o : Int) = 6) := by omega
          have m5 : ¬ ((o : Int) = 5) := by omega
          go_wp2_with fail
          exact HC.out _ _ _ _ _ _ _ _ _ _ _ _ _ _ _ _ _ _ _ _ _ _ _ _ _ 3 hput (Lib.hid (by omega))
    have c2' : ¬ ((n : Int) = 0) := by omega
    have kd : Hid ((o = 2 ∨ o = 5 ∨ o = 6) ∨ o = 3 ∨ o = 4 ∨ (13 ≤ o ∧ o ≤ 19 ∧ 1 ≤ n ∧ ∃ d', d = d' + 1)) := Lib.hid (by
      have h := HO.out
      have hd := hD.out
      have : ∃ d', d = d' + 1 := ⟨d - 1, by omega⟩
      have h1 : 1 ≤ n := by omega
      rcases h with h | h | h | ⟨g1, g2⟩
      · exact .inl h
      · exact .inr (.inl h)
      · exact .inr (.inr (.inl h))
      · exact .inr (.inr (.inr ⟨g1, g2, h1, this⟩)))
    go_wp2_with fail
    exact HC.out _ _ _ _ _ _ _ _ _ _ _ _ _ _ _ _ _ _ _ _ _ _ _ _ _ _ HW kd

  intro u10 u11 u12 u13 u14 u15 u16 u17 u18 u19 u20 u21 u22 u23 u24 u25 u26 u27 u28 u29 u30 u31 u32 u33 W o HW HO
  refine HK2.out _ _ ?_
  refine wp_seq_k fun K3 hK3 => ?_
  have HK3 := Lib.hid hK3
  clear hK3 HK2 yw y2 y4 y6 y9 hom
  obtain ⟨y2, y4, y6, y9⟩ := HW.out
  have r0 := y6.cell 0 rfl
  have r1 := y6.cell 1 rfl
  have r2 := y6.cell 2 rfl
  have r3 := y6.cell 3 rfl
  have r4 := y6.cell 4 rfl
  have r5 := y6.cell 5 rfl
  have r6 := y6.cell 6 rfl
  have c0 := y4.cell 0 rfl
  have c1 := y4.cell 1 rfl
  have c2 := y4.cell 2 rfl
  have c3 := y4.cell 3 rfl
  have c4 := y4.cell 4 rfl
  have c5 := y4.cell 5 rfl
  have c6 := y4.cell 6 rfl
  have f0 := y4.frz 0
  have f1 := y4.frz 1
  have f2 := y4.frz 2
  have f3 := y4.frz 3
  have f4 := y4.frz 4
  have f5 := y4.frz 5
  have f6 := y4.frz 6
  rcases HO.out with h256 | rfl | rfl | ⟨g1, g2, g3, d', rfl⟩
  · rcases h256 with rfl | rfl | rfl
    · go_wp2_with fail
      refine ret7 rfl rfl y4 rfl (fun w' hf => ?_)
      exact ⟨.emp, _, rfl, reat_leaf _ rfl rfl (fun _ _ => trivial), by simp only [Shp], by simp only [WfR], y9.trans hf (fun k hk e => by have := HN.out; omega)⟩
    · go_wp2_with fail
      refine ret7 rfl rfl y4 rfl (fun w' hf => ?_)
      exact ⟨.anyNl, _, rfl, reat_leaf _ rfl rfl (fun _ _ => trivial), by simp only [Shp], by simp only [WfR], y9.trans hf (fun k hk e => by have := HN.out; omega)⟩
    · go_wp2_with fail
      refine ret7 rfl rfl y4 rfl (fun w' hf => ?_)
      exact ⟨.any, _, rfl, reat_leaf _ rfl rfl (fun _ _ => trivial), by simp only [Shp], by simp only [WfR], y9.trans hf (fun k hk e => by have := HN.out; omega)⟩
  · have z1 := y2.cell 1 rfl
    have hn46 : b4 ≠ b6 := by have := HN.out; omega
    have hn26 : b2 ≠ b6 := by have := HN.out; omega
    have HY := Lib.hid (And.intro y2 (And.intro y4 (And.intro y6 y9)))
    have hb6l : b6 < W.heap.size := y6.lt
    have hW : Hid (W = W) := Lib.hid rfl
    clear y2 y4 y9 r1 r2 r3 r4 r5 r6 c0 c1 c2 c3 c4 c5 c6 f0 f1 f2 f3 f4 f5 f6
    go_wp2_with fail
    go_loopg [7] 5 (fun g i wr => ∃ (k : Nat) (rs : List Nat) (rv : Value), k ≤ 4 ∧ k ≤ rn ∧ g = 4 - k + 1 ∧ i = .int .i64 (k : Int) ∧ Hid (rs.length = k ∧ ∀ r, r ∈ rs → okRune r) ∧ (∃ A c, rv = .slice A k c) ∧ Blk wr b6 [.int .i64 3, rv, .int .i64 0, .int .i64 0, .bool false, .bool false, .slice none 0 0] 25 ∧ wr.ownsRow W.heap.size 21 1 rv k (rs.map fun (r : Nat) => Value.int .i32 (r : Int)) ∧ Fr (fun k => k = b6) W wr)
    case atStart => exact ⟨0, [], .slice none 0 0, by omega, by omega, rfl, rfl, Lib.hid ⟨rfl, fun r hr => by simp at hr⟩, ⟨none, 0, rfl⟩, y6, World.ownsRow_nil _ _ _ _, Fr.refl _ W⟩
    case round =>
      clear y6 r0 z1
      obtain ⟨k, rs, rv, hk4, hkr, rfl, rfl, hrs, ⟨oA, oc, rfl⟩, hB, hrow, hF⟩ := hrel
      have z1 := (HY.out.1.fr hF hn26).cell 1 rfl
      by_cases hlr : k < rn
      · have e1 : (k : Int) < (rn : Int) := by omega
        by_cases hl4 : k < 4
        · have e2 : (k : Int) < 4 := by omega
          obtain ⟨A1, c1, ec, hraw⟩ := HH.out.1
          simp at ec
          obtain ⟨rfl, rfl⟩ := ec
          obtain ⟨b, ob, z, rfl, hz⟩ := hraw k hlr
          have hzW := HY.out.2.2.2.cell hz (fun h => h)
          have hbw : b < w.heap.size := World.block_lt_of_cell? w _ hz
          have hbb : b ≠ b6 := by have := HN.out; omega
          have hzr : wr.cell? ⟨b, ob + k, none⟩ = some (.int .i32 z) := hF.cell hzW hbb
          have HK := Lib.hid (And.intro hB (And.intro hrow hF))
          clear hB hrow hF hraw hz hzW hbw
          go_wp2_with fail
          obtain ⟨hB, hrow, hF⟩ := HK.out
          have hBd := hB.drew
          have hrowd := own_fr hrow ((Fr.refl (fun _ => False) wr).drew) (fun _ _ h => h)
          have hL := letter_calls wr.drew z
          have z1d : wr.drew.cell? ⟨b2, 1, none⟩ = some (.slice (some ⟨b, ob, none⟩) rn rc) := z1
          have hzd : wr.drew.cell? ⟨b, ob + k, none⟩ = some (.int .i32 z) := hzr
          clear z1 hzr
          refine wp_region_seqV (fun w' => Blk w' b6 [.int .i64 3, .slice oA k oc, .int .i64 0, .int .i64 0, .bool false, .bool false, .slice none 0 0] 25 ∧ w'.cell? ⟨b2, 1, none⟩ = some (.slice (some ⟨b, ob, none⟩) rn rc) ∧ w'.cell? ⟨b, ob + k, none⟩ = some (.int .i32 z)) (fun i => ![7, 8, 9, 11].contains i) (fun i => ![1, 3, 6, 7, 8, 9, 11].contains i) (fun i => decide (i = 11)) [0, 1, 2, 3, 4, 5, 6, 7, 8, 9, 10, 11] (by kernel_rfl) (by kernel_rfl) (fun c a d v w h => by cases d <;> exact h) ⟨hBd, z1d, hzd⟩ ?_
          iterate 1 (apply seqV_pure (ho := rfl) (hr := rfl) (hg := rfl); (intro w'; go_simp; rfl))
          (apply seqV_read (ho := rfl) (hr := rfl) (hp := rfl) (hg := rfl); (rintro w' ⟨q1, q2, q3⟩; have r2 := q1.cell 1 rfl; clear q1; go_simp; rfl))
          iterate 1 (apply seqV_pure (ho := rfl) (hr := rfl) (hg := rfl); (intro w'; go_simp; rfl))
          (apply seqV_read (ho := rfl) (hr := rfl) (hp := rfl) (hg := rfl); (rintro w' ⟨q1, q2, q3⟩; clear q1; go_simp; rfl))
          iterate 2 (apply seqV_pure (ho := rfl) (hr := rfl) (hg := rfl); (intro w'; go_simp; rfl))
          (apply seqV_read (ho := rfl) (hr := rfl) (hp := rfl) (hg := rfl); (rintro w' ⟨q1, q2, q3⟩; clear q1; go_simp; rfl))
          refine seqV_do rfl rfl fun K hK => ?_
          go_simp
          refine hL.mono ?_
          rintro e w4 ⟨r, hr, rfl, hf4⟩
          clear hL
          have hB4 := hBd.fr hf4 (fun h => h)
          have z14 := hf4.cell z1d (fun h => h)
          have hz4 := hf4.cell hzd (fun h => h)
          refine hK _ _ (fun h => ⟨hB4, z14, hz4⟩) ?_
          clear hK K
          refine seqV_do rfl rfl fun K hK => ?_
          go_simp
          have hFp : Fr (fun _ => False) w4 (w4.alloc (.cells #[.int .i32 (r : Int)] 21)) := (Fr.refl _ w4).alloc _
          have hB5 := hB4.fr hFp (fun h => h)
          refine hK _ _ (fun h => ⟨hB5, hFp.cell z14 (fun h => h), hFp.cell hz4 (fun h => h)⟩) ?_
          clear hK K
          have hrow5 := own_fr (own_fr hrowd hf4 (fun _ _ h => h)) hFp (fun _ _ h => h)
          have hb5 : Blk (w4.alloc (.cells #[.int .i32 (r : Int)] 21)) w4.heap.size [.int .i32 (r : Int)] 21 := Blk.new w4 [_] 21
          obtain ⟨i0, hi, hz0, hz1, hz2⟩ := info_parts info21
          refine seqV_do rfl rfl fun K hK => ?_
          refine step_append_lies _ (by rfl) _ _ 22 (by rfl) W.heap.size 21 i0 (.int .i32 0) 1 4 Tryd.underlying22 hi hz0 hz1 hz2 rfl (by decide) _ k _ (by rfl) hrow5 ⟨w4.heap.size, 0, none⟩ 1 1 [.int .i32 (r : Int)] (by rfl) (by simp) (fun j u hj => by
            match j, hj with
            | 0, hj => simp at hj; subst hj; exact hb5.cell 0 rfl) (by simp [Value.oneCell']) (by decide) (by simp only [maxLen]; omega) (by omega) ?_ _ rfl ?_
          · exact Nat.le_trans hF.size (Nat.le_trans hf4.size hFp.size)
          · intro gg cap w6 hown6 hgrow hat hlt6
            have hFg : Fr (fun k' => (Value.slice oA k oc).ownBlock = some k') (w4.alloc (.cells #[.int .i32 (r : Int)] 21)) w6 := (Fr.refl _ _).grown hgrow (fun k hk _ => hk)
            have hB6 := hB5.fr hFg (own_ne_blk hrow5 hB5 (by decide))
            have hgn : gg ≠ b6 := by
              intro e; subst e
              exact own_ne_blk hown6 hB6 (by decide) rfl
            have hz2W : w6.cell? ⟨b2, 1, none⟩ = some (.slice (some ⟨b, ob, none⟩) rn rc) := hFg.cell (hFp.cell z14 (fun h => h)) (fun e => by
              have h1 := (own_lt' hrow5 e).1
              have h2 := HY.out.1.lt
              have h3 : ((⟨b2, 1, none⟩ : Addr)).block = b2 := rfl
              omega)
            have hzW : w6.cell? ⟨b, ob + k, none⟩ = some (.int .i32 z) := hFg.cell (hFp.cell hz4 (fun h => h)) (fun e => by
              have h1 := (own_lt' hrow5 e).1
              have h2 := HY.out.2.2.2.size
              have h3 := HN.out
              have h4 : ((⟨b, ob + k, none⟩ : Addr)).block = b := rfl
              have h5 := World.block_lt_of_cell? w4 _ hz4
              have h6 : b < w.heap.size := by
                obtain ⟨A1, c1, ec, hraw⟩ := HH.out.1
                simp at ec
                obtain ⟨b', ob', z', hA', hz'⟩ := hraw k hlr
                have := World.block_lt_of_cell? w _ hz'
                rw [← ec.1] at hA'
                simp at hA'
                rw [hA'.1]
                exact this
              omega)
            refine hK _ _ (fun h => ⟨hB6, hz2W, hzW⟩) ?_
            clear hK K
            iterate 1 (apply seqV_pure (ho := rfl) (hr := rfl) (hg := rfl); (intro w'; go_simp; rfl))
            refine seqV_do rfl rfl fun K hK => ?_
            have r2 := hB6.cell 1 rfl
            have f2 := hB6.frz 1
            go_simp
            refine hK _ _ (fun h => absurd h (by decide)) ?_
            clear hK K r2 f2
            unfold seqV
            have hFs : Fr (fun k' => k' = b6) w6 (w6.setCell ⟨b6, 1, none⟩ (.slice (some ⟨gg, 0, none⟩) (k + 1) cap)) := Fr.setCell (F := fun k' => k' = b6) (p := ⟨b6, 1, none⟩) (Fr.refl _ w6) (fun _ => rfl) _
            have hB7 := hB6.set 1 (.slice (some ⟨gg, 0, none⟩) (k + 1) cap)
            have hrow7 := own_fr hown6 hFs (fun b hb e => by simp [Value.ownBlock] at hb; omega)
            have hF7 : Fr (fun k => k = b6) W (w6.setCell ⟨b6, 1, none⟩ (.slice (some ⟨gg, 0, none⟩) (k + 1) cap)) := ((hF.drew.trans (hf4.trans hFp (fun _ _ h => h)) (fun _ _ h => h.elim)).trans hFg (fun k' hk' e => by have := (own_lt' hrow5 e).1; omega)).trans hFs (fun _ _ h => h)
            have HR := Lib.hid (And.intro hB7 (And.intro hrow7 hF7))
            clear hB7 hrow7 hF7 hFs hgn hB6 hFg hown6 hgrow hat hlt6 hz2W hzW hb5 hrow5 hB5 hFp hB4 z14 hz4 hf4 hBd hrowd z1d hzd hB hrow hF
            go_wp2_with fail
            go_roundg (4 - (k + 1) + 1)
            case measure => omega
            case rel => exact ⟨k + 1, rs ++ [r], _, by omega, by omega, rfl, by simp, Lib.hid ⟨by simp [hrs.out.1], fun q hq => by rcases List.mem_append.1 hq with h | h; exact hrs.out.2 q h; simp at h; rw [h]; exact hr⟩, ⟨_, _, rfl⟩, HR.out.1, by have h := HR.out.2.1; simpa using h, HR.out.2.2⟩
        · have e2 : ¬ ((k : Int) < 4) := by omega
          have k0 : k ≠ 0 := by omega
          obtain ⟨k, rfl⟩ : ∃ k', k = k' + 1 := ⟨k - 1, by omega⟩
          obtain ⟨gg, cc, hsl⟩ := own_slc hrow
          simp at hsl
          obtain ⟨rfl, rfl⟩ := hsl
          have hB4 := HY.out.2.1.fr hF hn46
          have r0 := hB.cell 0 rfl
          have r1 := hB.cell 1 rfl
          have r2 := hB.cell 2 rfl
          have r3 := hB.cell 3 rfl
          have r4 := hB.cell 4 rfl
          have r5 := hB.cell 5 rfl
          have r6 := hB.cell 6 rfl
          have c0 := hB4.cell 0 rfl
          have c1 := hB4.cell 1 rfl
          have c2 := hB4.cell 2 rfl
          have c3 := hB4.cell 3 rfl
          have c4 := hB4.cell 4 rfl
          have c5 := hB4.cell 5 rfl
          have c6 := hB4.cell 6 rfl
          have f0 := hB4.frz 0
          have f1 := hB4.frz 1
          have f2 := hB4.frz 2
          have f3 := hB4.frz 3
          have f4 := hB4.frz 4
          have f5 := hB4.frz 5
          have f6 := hB4.frz 6
          have g1 := hB.frz 1
          have e3 : ¬ (((k + 1 : Nat) : Int) = 0) := by omega
          have HK := Lib.hid (And.intro hB4 (And.intro hB (And.intro hrow hF)))
          clear hB4 hB hrow hF
          go_wp2_with fail
          obtain ⟨hB4, hB, hrow, hF⟩ := HK.out
          have hgg := (own_lt' hrow (k := gg) rfl).1
          refine ret7 rfl rfl hB4 rfl (fun w' hf => ?_)
          have hru := runes_of_row (rs := rs) (by rw [hrs.out.1]; exact hrow)
          rw [hrs.out.1] at hru
          have hru' := hru.fr hf (fun k cs t hk ht => by
            rintro rfl
            exact absurd (hk.inj hB4).2 (by rcases ht with rfl | rfl <;> decide))
          exact ⟨.lit rs, _, rfl, reat_runes (r := .lit rs) hru' (by have := HN.out; omega) rfl rfl (fun _ _ => trivial) (by rw [hrs.out.1]; omega), by simp only [Shp]; rw [hrs.out.1]; omega, by simp only [WfR]; exact ⟨by rw [hrs.out.1]; omega, hrs.out.2⟩, (HY.out.2.2.2.trans hF (fun k hk e => by have := HN.out; omega)).trans hf (fun k hk e => by have := HN.out; omega)⟩
      · have e1 : ¬ ((k : Int) < (rn : Int)) := by omega
        obtain rfl : k = rn := by omega
        by_cases k0 : k = 0
        · subst k0
          have hB4 := HY.out.2.1.fr hF hn46
          have r0 := hB.cell 0 rfl
          have r1 := hB.cell 1 rfl
          have r2 := hB.cell 2 rfl
          have r3 := hB.cell 3 rfl
          have r4 := hB.cell 4 rfl
          have r5 := hB.cell 5 rfl
          have r6 := hB.cell 6 rfl
          have c0 := hB4.cell 0 rfl
          have c1 := hB4.cell 1 rfl
          have c2 := hB4.cell 2 rfl
          have c3 := hB4.cell 3 rfl
          have c4 := hB4.cell 4 rfl
          have c5 := hB4.cell 5 rfl
          have c6 := hB4.cell 6 rfl
          have f0 := hB4.frz 0
          have f1 := hB4.frz 1
          have f2 := hB4.frz 2
          have f3 := hB4.frz 3
          have f4 := hB4.frz 4
          have f5 := hB4.frz 5
          have f6 := hB4.frz 6
          have g1 := hB.frz 1
          have ra0 := (hB.alloc (.cells #[.int .i32 97] 21)).cell 0 rfl
          have ra1 := (hB.alloc (.cells #[.int .i32 97] 21)).cell 1 rfl
          have ra2 := (hB.alloc (.cells #[.int .i32 97] 21)).cell 2 rfl
          have ra3 := (hB.alloc (.cells #[.int .i32 97] 21)).cell 3 rfl
          have ra4 := (hB.alloc (.cells #[.int .i32 97] 21)).cell 4 rfl
          have ra5 := (hB.alloc (.cells #[.int .i32 97] 21)).cell 5 rfl
          have ra6 := (hB.alloc (.cells #[.int .i32 97] 21)).cell 6 rfl
          have ca0 := (hB4.alloc (.cells #[.int .i32 97] 21)).cell 0 rfl
          have ca1 := (hB4.alloc (.cells #[.int .i32 97] 21)).cell 1 rfl
          have ca2 := (hB4.alloc (.cells #[.int .i32 97] 21)).cell 2 rfl
          have ca3 := (hB4.alloc (.cells #[.int .i32 97] 21)).cell 3 rfl
          have ca4 := (hB4.alloc (.cells #[.int .i32 97] 21)).cell 4 rfl
          have ca5 := (hB4.alloc (.cells #[.int .i32 97] 21)).cell 5 rfl
          have ca6 := (hB4.alloc (.cells #[.int .i32 97] 21)).cell 6 rfl
          have fa0 := (hB4.alloc (.cells #[.int .i32 97] 21)).frz 0
          have fa1 := (hB4.alloc (.cells #[.int .i32 97] 21)).frz 1
          have fa2 := (hB4.alloc (.cells #[.int .i32 97] 21)).frz 2
          have fa3 := (hB4.alloc (.cells #[.int .i32 97] 21)).frz 3
          have fa4 := (hB4.alloc (.cells #[.int .i32 97] 21)).frz 4
          have fa5 := (hB4.alloc (.cells #[.int .i32 97] 21)).frz 5
          have fa6 := (hB4.alloc (.cells #[.int .i32 97] 21)).frz 6
          have ga1 := (hB.alloc (.cells #[.int .i32 97] 21)).frz 1
          have HK := Lib.hid (And.intro hB4 (And.intro hB (And.intro hrow hF)))
          clear hB4 hB hrow hF
          go_wp2_with fail
          obtain ⟨hB4, hB, hrow, hF⟩ := HK.out
          have hBa := Blk.new wr [.int .i32 97] 21
          have hFa : Fr (fun _ => False) wr (wr.alloc (.cells #[.int .i32 97] 21)) := (Fr.refl _ wr).alloc _
          have hFs : Fr (fun k => k = b6) (wr.alloc (.cells #[.int .i32 97] 21)) ((wr.alloc (.cells #[.int .i32 97] 21)).setCell ⟨b6, 1, none⟩ (.slice (some ⟨wr.heap.size, 0, none⟩) 1 1)) := Fr.setCell (F := fun k => k = b6) (p := ⟨b6, 1, none⟩) (Fr.refl _ _) (fun _ => rfl) _
          have hgg : b6 < wr.heap.size := hB.lt
          have hBs := hBa.fr hFs (by omega)
          refine ret7 rfl rfl ((hB4.fr hFa (fun h => h)).fr hFs hn46) rfl (fun w' hf => ?_)
          have hru := runes_new (rs := [97]) (n := 1) hBs rfl
          have hru' := hru.fr hf (fun k cs t hk ht => by
            rintro rfl
            exact absurd (hk.inj ((hB4.fr hFa (fun h => h)).fr hFs hn46)).2 (by rcases ht with rfl | rfl <;> decide))
          exact ⟨.lit [97], _, rfl, reat_runes (r := .lit [97]) hru' (by have := HN.out; omega) rfl rfl (fun _ _ => trivial) (by simp), by simp only [Shp]; simp, by simp only [WfR]; exact ⟨by simp, by intro q hq; simp at hq; subst hq; exact ⟨by omega, by omega⟩⟩, (((HY.out.2.2.2.trans hF (fun k hk e => by have := HN.out; omega)).trans hFa (fun _ _ h => h.elim)).trans hFs (fun k hk e => by have := HN.out; omega)).trans hf (fun k hk e => by have := HN.out; omega)⟩
        · skip
          obtain ⟨k, rfl⟩ : ∃ k', k = k' + 1 := ⟨k - 1, by omega⟩
          obtain ⟨gg, cc, hsl⟩ := own_slc hrow
          simp at hsl
          obtain ⟨rfl, rfl⟩ := hsl
          have hB4 := HY.out.2.1.fr hF hn46
          have r0 := hB.cell 0 rfl
          have r1 := hB.cell 1 rfl
          have r2 := hB.cell 2 rfl
          have r3 := hB.cell 3 rfl
          have r4 := hB.cell 4 rfl
          have r5 := hB.cell 5 rfl
          have r6 := hB.cell 6 rfl
          have c0 := hB4.cell 0 rfl
          have c1 := hB4.cell 1 rfl
          have c2 := hB4.cell 2 rfl
          have c3 := hB4.cell 3 rfl
          have c4 := hB4.cell 4 rfl
          have c5 := hB4.cell 5 rfl
          have c6 := hB4.cell 6 rfl
          have f0 := hB4.frz 0
          have f1 := hB4.frz 1
          have f2 := hB4.frz 2
          have f3 := hB4.frz 3
          have f4 := hB4.frz 4
          have f5 := hB4.frz 5
          have f6 := hB4.frz 6
          have g1 := hB.frz 1
          have e3 : ¬ (((k + 1 : Nat) : Int) = 0) := by omega
          have HK := Lib.hid (And.intro hB4 (And.intro hB (And.intro hrow hF)))
          clear hB4 hB hrow hF
          go_wp2_with fail
          obtain ⟨hB4, hB, hrow, hF⟩ := HK.out
          have hgg := (own_lt' hrow (k := gg) rfl).1
          refine ret7 rfl rfl hB4 rfl (fun w' hf => ?_)
          have hru := runes_of_row (rs := rs) (by rw [hrs.out.1]; exact hrow)
          rw [hrs.out.1] at hru
          have hru' := hru.fr hf (fun k cs t hk ht => by
            rintro rfl
            exact absurd (hk.inj hB4).2 (by rcases ht with rfl | rfl <;> decide))
          exact ⟨.lit rs, _, rfl, reat_runes (r := .lit rs) hru' (by have := HN.out; omega) rfl rfl (fun _ _ => trivial) (by rw [hrs.out.1]; omega), by simp only [Shp]; rw [hrs.out.1]; omega, by simp only [WfR]; exact ⟨by rw [hrs.out.1]; omega, hrs.out.2⟩, (HY.out.2.2.2.trans hF (fun k hk e => by have := HN.out; omega)).trans hf (fun k hk e => by have := HN.out; omega)⟩
  · have q := pairs_calls (HH.out.1.fr y9)
    have z1 := y2.cell 1 rfl
    have HY := Lib.hid (And.intro y2 (And.intro y4 (And.intro y6 y9)))
    clear y2 y4 y6 y9 r1 r2 r3 r4 r5 r6 c0 c1 c2 c3 c4 c5 c6 f0 f1 f2 f3 f4 f5 f6
    go_wp2_with fail
    refine q.mono ?_
    rintro e w2 ⟨g, m, cc, l, rfl, hg, hm, hru, h1, h4, hok, hf⟩
    clear q z1 r0
    obtain ⟨y2, y4, y6, y9⟩ := HY.out
    have hb6 := y6.lt
    have y4 := y4.fr hf (fun h => h)
    have y6 := y6.fr hf (fun h => h)
    have y9 := y9.trans hf (fun _ _ h => h)
    have r0 := y6.cell 0 rfl
    have r1 := y6.cell 1 rfl
    have r2 := y6.cell 2 rfl
    have r3 := y6.cell 3 rfl
    have r4 := y6.cell 4 rfl
    have r5 := y6.cell 5 rfl
    have r6 := y6.cell 6 rfl
    have c0 := y4.cell 0 rfl
    have c1 := y4.cell 1 rfl
    have c2 := y4.cell 2 rfl
    have c3 := y4.cell 3 rfl
    have c4 := y4.cell 4 rfl
    have c5 := y4.cell 5 rfl
    have c6 := y4.cell 6 rfl
    have f0 := y4.frz 0
    have f1 := y4.frz 1
    have f2 := y4.frz 2
    have f3 := y4.frz 3
    have f4 := y4.frz 4
    have f5 := y4.frz 5
    have f6 := y4.frz 6
    have g1 := y6.frz 1
    have hn46 : b4 ≠ b6 := by have := HN.out; omega
    have HZ := Lib.hid (And.intro y4 (And.intro y6 (And.intro y9 (And.intro hm (And.intro hru (And.intro h1 (And.intro h4 (And.intro hok (And.intro hg hb6)))))))))
    clear y2 y4 y6 y9 hm hru h1 h4 hok hf hg hb6
    go_wp2_with fail
    obtain ⟨y4, y6, y9, hm, hru, h1, h4, hok, hg, hb6⟩ := HZ.out
    refine ret7 rfl rfl (y4.set_ne (a := ⟨b6, 1, none⟩) hn46 _) rfl (fun w' hf => ?_)
    have hF : Fr (fun k => k = b4 ∨ k = b6) w2 w' := (Fr.setCell (F := fun k => k = b4 ∨ k = b6) (p := ⟨b6, 1, none⟩) (Fr.refl _ w2) (fun _ => .inr rfl) _).trans hf (fun k _ h => .inl h)
    have hru' := hru.fr hF (fun k cs t hk ht => by
      rintro (rfl | rfl)
      · exact absurd (hk.inj y4).2 (by rcases ht with rfl | rfl <;> decide)
      · exact absurd (hk.inj y6).2 (by rcases ht with rfl | rfl <;> decide))
    exact ⟨.cls l, _, rfl, reat_runes (r := .cls l) hru' (by have := HN.out; omega) rfl rfl (fun _ _ => trivial) (by rw [flat_len]; omega), by simp only [Shp]; omega, by simp only [WfR]; exact ⟨h1, by omega, hok⟩, y9.trans hF (fun k hk e => by have := HN.out; omega)⟩

  · clear y4 r1 r2 r3 r4 r5 r6 c0 c1 c2 c3 c4 c5 c6 f0 f1 f2 f3 f4 f5 f6
    have HY := Lib.hid HW.out
    clear y2 y6 y9 HW
    have m2 : ¬ ((o : Int) = 2) := by omega
    have m3 : ¬ ((o : Int) = 3) := by omega
    have m4 : ¬ ((o : Int) = 4) := by omega
    have m5 : ¬ ((o : Int) = 5) := by omega
    have m6 : ¬ ((o : Int) = 6) := by omega
    go_wp2_with fail
    clear m2 m3 m4 m5 m6
    refine HK3.out _ _ ?_
    refine wp_seq_k fun K4 hK4 => ?_
    have HK4 := Lib.hid hK4
    clear hK4 HK3
    go_wp2_with fail
    refine HK4.out _ _ ?_
    refine wp_seq_k fun K5 hK5 => ?_
    have HK5 := Lib.hid hK5
    clear hK5 HK4
    suffices cut : ∀ (v34 v35 v36 v37 v38 v39 v40 v41 v42 v43 v44 v45 v46 v47 v48 v49 v50 v51 v52 v53 v54 v55 v56 v57 v58 v59 v60 v61 v62 v63 v64 v65 v66 v67 v68 v69 v70 v71 v72 v73 v74 v75 v76 v77 v78 v79 v80 v81 v82 v83 v84 v85 v86 : Value) (most : Nat), Hid ((most = 3 ∧ (o = 18 ∨ o = 19)) ∨ (most = 1 ∧ ¬ (o = 18 ∨ o = 19))) → K5 { tmps := #[.agg #[.int .i64 x, .slice rA rn rc, .int .i64 mn, .int .i64 mx, .bool la, .bool fo, .slice A n c], .int .i64 D, .pointer (some ⟨b2, 0, none⟩), undef, .pointer (some ⟨b4, 0, none⟩), .pointer (some ⟨b5, 0, none⟩), .pointer (some ⟨b6, 0, none⟩), undef, .int .i64 (most : Int), undef, u10, u11, u12, u13, u14, u15, u16, u17, u18, u19, u20, u21, u22, u23, u24, u25, u26, u27, u28, u29, u30, u31, u32, u33, v34, v35, v36, v37, v38, v39, v40, v41, v42, v43, v44, v45, v46, v47, v48, v49, v50, v51, v52, v53, v54, v55, v56, v57, v58, v59, v60, v61, v62, v63, v64, v65, v66, v67, v68, v69, v70, v71, v72, v73, v74, v75, v76, v77, v78, v79, v80, v81, v82, v83, v84, v85, v86, undef, undef, undef, undef, undef, undef, undef, undef, undef, undef, undef, undef, undef, undef, undef, undef, undef, undef, undef, undef, undef, undef, undef, undef, undef, undef, undef, undef, undef, undef, undef, undef, undef, undef, undef, undef, undef, undef, undef, undef, undef, undef, undef, undef, undef], defers := [] } W by
      have HC := Lib.hid cut
      clear cut
      by_cases c1 : o = 18
      · subst c1
        go_wp2_with fail
        exact HC.out _ _ _ _ _ _ _ _ _ _ _ _ _ _ _ _ _ _ _ _ _ _ _ _ _ _ _ _ _ _ _ _ _ _ _ _ _ _ _ _ _ _ _ _ _ _ _ _ _ _ _ _ _ 3 (Lib.hid (by simp))
      by_cases c2 : o = 19
      · subst c2
        go_wp2_with fail
        exact HC.out _ _ _ _ _ _ _ _ _ _ _ _ _ _ _ _ _ _ _ _ _ _ _ _ _ _ _ _ _ _ _ _ _ _ _ _ _ _ _ _ _ _ _ _ _ _ _ _ _ _ _ _ _ 3 (Lib.hid (by simp))
      have m1 : ¬ ((o : Int) = 18) := by omega
      have m2 : ¬ ((o : Int) = 19) := by omega
      have e1 : ((o : Int) == 18) = false := by rw [beq_eq_false_iff_ne]; omega
      have e2 : ((o : Int) == 19) = false := by rw [beq_eq_false_iff_ne]; omega
      go_wp2_with fail
      exact HC.out _ _ _ _ _ _ _ _ _ _ _ _ _ _ _ _ _ _ _ _ _ _ _ _ _ _ _ _ _ _ _ _ _ _ _ _ _ _ _ _ _ _ _ _ _ _ _ _ _ _ _ _ _ 1 (Lib.hid (.inr ⟨rfl, fun h => h.elim c1 c2⟩))
    intro v34 v35 v36 v37 v38 v39 v40 v41 v42 v43 v44 v45 v46 v47 v48 v49 v50 v51 v52 v53 v54 v55 v56 v57 v58 v59 v60 v61 v62 v63 v64 v65 v66 v67 v68 v69 v70 v71 v72 v73 v74 v75 v76 v77 v78 v79 v80 v81 v82 v83 v84 v85 v86 most hmost
    obtain ⟨y2, y4, y6, y9⟩ := HY.out
    have hb6l : b6 < W.heap.size := y6.lt
    have hn46 : b4 ≠ b6 := by have := HN.out; omega
    have hn26 : b2 ≠ b6 := by have := HN.out; omega
    have hb2l : b2 < W.heap.size := y2.lt
    have z6 := y2.cell 6 rfl
    have hm3 : most ≤ 3 := by have := hmost.out; omega
    clear y2 y4 y9 r0
    refine HK5.out _ _ ?_
    clear HK5
    go_wp2_with fail
    go_loopg [9] (most + 1) (fun g i wr => ∃ (k : Nat) (L : List RE) (cs : List (List Value)) (sv : Value), k ≤ most ∧ k ≤ n ∧ g = most - k + 1 ∧ i = .int .i64 (k : Int) ∧ Hid (L.length = k ∧ cs.length = k ∧ (∀ r, r ∈ L → Shp r d' ∧ WfR r) ∧ ∀ x, x ∈ cs → x.length = 7) ∧ (∃ A c, sv = .slice A k c) ∧ Blk wr b6 [.int .i64 (o : Int), .slice none 0 0, .int .i64 0, .int .i64 0, .bool false, .bool false, sv] 25 ∧ wr.ownsRow W.heap.size 25 7 sv k cs.flatten ∧ Hid (∀ (i : Nat) (r : RE) (x : List Value), L[i]? = some r → cs[i]? = some x → ∃ P : Nat → Prop, ReAt (mask wr P) r (.agg x.toArray) ∧ (∀ k, sv.ownBlock = some k → ¬ P k) ∧ ∀ k, P k → W.heap.size ≤ k ∧ k < wr.heap.size) ∧ Fr (fun k => k = b6) W wr)
    case atStart => exact ⟨0, [], [], .slice none 0 0, by omega, by omega, by omega, rfl, Lib.hid ⟨rfl, rfl, (fun r hr => by simp at hr), fun r hr => by simp at hr⟩, ⟨none, 0, rfl⟩, y6, World.ownsRow_nil _ _ _ _, Lib.hid (fun i r x h => by simp at h), Fr.refl _ W⟩
    case round =>
      clear y6
      obtain ⟨k, L, cs, sv, hkm, hkn, rfl, rfl, hL, ⟨sA, sc, rfl⟩, hB, hrow, hkids, hF⟩ := hrel
      have z6r : wr.cell? ⟨b2, 6, none⟩ = some (.slice A n c) := hF.cell z6 hn26
      clear z6
      by_cases hlt : k < n
      · have e1 : (k : Int) < (n : Int) := by omega
        by_cases hlm : k < most
        · have e2 : (k : Int) < (most : Int) := by omega
          obtain ⟨b, ob, rfl, h7, hcells⟩ := HH.out.2.1 k hlt
          have hre := HH.out.2.2.1 k d' hlt rfl
          obtain ⟨x0, x1, x2, x3, x4, x5, x6, hxs⟩ : ∃ x0 x1 x2 x3 x4 x5 x6, xs k = [x0, x1, x2, x3, x4, x5, x6] := by
            match hq : xs k, h7 with
            | [x0, x1, x2, x3, x4, x5, x6], _ => exact ⟨x0, x1, x2, x3, x4, x5, x6, rfl⟩
          rw [hxs] at hcells hre
          obtain ⟨ux, um, uM, ul, uf, uA, vA, un, uc, vn, vc, hxe⟩ := hre.form
          simp at hxe
          obtain ⟨rfl, rfl, rfl, rfl, rfl, rfl, rfl⟩ := hxe
          have hFw : Fr (fun _ => False) w wr := HY.out.2.2.2.trans hF (fun k hk e => by have := HN.out; omega)
          have hbw : b < w.heap.size := World.block_lt_of_cell? w _ (hcells 0 _ rfl)
          have hbb : b ≠ b6 := by have := HN.out; omega
          have hbW : b < W.heap.size := Nat.lt_of_lt_of_le hbw HY.out.2.2.2.size
          have z0 := hFw.drew.cell (hcells 0 _ rfl) (fun h => h)
          have z1 := hFw.drew.cell (hcells 1 _ rfl) (fun h => h)
          have z2 := hFw.drew.cell (hcells 2 _ rfl) (fun h => h)
          have z3 := hFw.drew.cell (hcells 3 _ rfl) (fun h => h)
          have z4 := hFw.drew.cell (hcells 4 _ rfl) (fun h => h)
          have z5 := hFw.drew.cell (hcells 5 _ rfl) (fun h => h)
          have z6 := hFw.drew.cell (hcells 6 _ rfl) (fun h => h)
          simp only [Nat.add_zero] at z0
          have hc := HH.out.2.2.2 d' rfl wr.drew _ (hre.fr hFw.drew)
          have ed : wrap64 (D - 1) = ((d' + 1 : Nat) : Int) := by
            have := hD.out
            rw [this, IntWalk.wrap64_in _ (by omega)]
            omega
          have ed2 : IntKind.i64.wrap (D - 1) = ((d' + 1 : Nat) : Int) := by
            have := hD.out
            rw [this, IntWalk.i64_in _ (by omega)]
            omega
          obtain ⟨E, hE⟩ : ∃ E : Int, E = ((d' + 1 : Nat) : Int) := ⟨_, rfl⟩
          rw [← hE] at hc ed ed2
          have HK := Lib.hid (And.intro hB (And.intro hrow (And.intro hkids (And.intro hF hFw))))
          have HZ := Lib.hid (And.intro z0 (And.intro z1 (And.intro z2 (And.intro z3 (And.intro z4 (And.intro z5 z6))))))
          clear hB hrow hkids hF hFw hre hcells h7 hxs hE z0 z1 z2 z3 z4 z5 z6
          go_wp2_with fail
          obtain ⟨hB, hrow, hkids, hF, hFw⟩ := HK.out
          obtain ⟨z0, z1, z2, z3, z4, z5, z6⟩ := HZ.out
          have hBd := hB.drew
          have hrowd := own_fr hrow ((Fr.refl (fun _ => False) wr).drew) (fun _ _ h => h)
          have z6d : wr.drew.cell? ⟨b2, 6, none⟩ = some (.slice (some ⟨b, ob, none⟩) n c) := z6r
          have hoB : ∀ k', (Value.slice sA k sc).ownBlock = some k' → W.heap.size ≤ k' ∧ k' < wr.heap.size := fun k' h => own_lt' hrow h
          clear z6r HK HZ
          have HRe := Lib.hid (And.intro hrow (And.intro hkids (And.intro hF hFw)))
          clear hrow hkids hF hFw hB
          refine wp_region_seqV (fun w' => Blk w' b6 [.int .i64 (o : Int), .slice none 0 0, .int .i64 0, .int .i64 0, .bool false, .bool false, .slice sA k sc] 25 ∧ w'.cell? ⟨b2, 6, none⟩ = some (.slice (some ⟨b, ob, none⟩) n c) ∧ w'.cell? ⟨b, ob + k * 7, none⟩ = some (.int .i64 ux) ∧ w'.cell? ⟨b, ob + k * 7 + 1, none⟩ = some (.slice uA un uc) ∧ w'.cell? ⟨b, ob + k * 7 + 2, none⟩ = some (.int .i64 um) ∧ w'.cell? ⟨b, ob + k * 7 + 3, none⟩ = some (.int .i64 uM) ∧ w'.cell? ⟨b, ob + k * 7 + 4, none⟩ = some (.bool ul) ∧ w'.cell? ⟨b, ob + k * 7 + 5, none⟩ = some (.bool uf) ∧ w'.cell? ⟨b, ob + k * 7 + 6, none⟩ = some (.slice vA vn vc)) (fun i => ![9, 10, 11, 13].contains i) (fun i => ![1, 3, 6, 9, 10, 11, 13].contains i) (fun i => decide (i = 13)) [0, 1, 2, 3, 4, 5, 6, 7, 8, 9, 10, 11, 12, 13] (by kernel_rfl) (by kernel_rfl) (fun c a d v w h => by cases d <;> exact h) ⟨hBd, z6d, z0, z1, z2, z3, z4, z5, z6⟩ ?_
          iterate 1 (apply seqV_pure (ho := rfl) (hr := rfl) (hg := rfl); (intro w'; go_simp; rfl))
          (apply seqV_read (ho := rfl) (hr := rfl) (hp := rfl) (hg := rfl); (rintro w' ⟨q1, q2, q3⟩; have r2 := q1.cell 6 rfl; clear q1 q3; go_simp; rfl))
          iterate 1 (apply seqV_pure (ho := rfl) (hr := rfl) (hg := rfl); (intro w'; go_simp; rfl))
          (apply seqV_read (ho := rfl) (hr := rfl) (hp := rfl) (hg := rfl); (rintro w' ⟨q1, q2, q3⟩; clear q1 q3; go_simp; rfl))
          iterate 2 (apply seqV_pure (ho := rfl) (hr := rfl) (hg := rfl); (intro w'; go_simp; rfl))
          (apply seqV_read (ho := rfl) (hr := rfl) (hp := rfl) (hg := rfl); (rintro w' ⟨q1, q2, q3, q4, q5, q6, q7, q8, q9⟩; clear q1 q2; go_simp; rfl))
          iterate 2 (apply seqV_pure (ho := rfl) (hr := rfl) (hg := rfl); (intro w'; go_simp; rfl))
          refine seqV_do rfl rfl fun K hK => ?_
          go_simp
          refine hc.mono ?_
          rintro e w4 ⟨r, v', rfl, hre4, hsh, hwf, hf4⟩
          clear hc
          obtain ⟨oA, on, oc, om, oM, pA, pn, pc, rfl⟩ := (re_unmask hre4).form
          have hB4 := hBd.fr hf4 (fun h => h)
          have S4 : w4.cell? ⟨b2, 6, none⟩ = some (.slice (some ⟨b, ob, none⟩) n c) ∧ w4.cell? ⟨b, ob + k * 7, none⟩ = some (.int .i64 ux) ∧ w4.cell? ⟨b, ob + k * 7 + 1, none⟩ = some (.slice uA un uc) ∧ w4.cell? ⟨b, ob + k * 7 + 2, none⟩ = some (.int .i64 um) ∧ w4.cell? ⟨b, ob + k * 7 + 3, none⟩ = some (.int .i64 uM) ∧ w4.cell? ⟨b, ob + k * 7 + 4, none⟩ = some (.bool ul) ∧ w4.cell? ⟨b, ob + k * 7 + 5, none⟩ = some (.bool uf) ∧ w4.cell? ⟨b, ob + k * 7 + 6, none⟩ = some (.slice vA vn vc) :=
            ⟨hf4.cell z6d (fun h => h), hf4.cell z0 (fun h => h), hf4.cell z1 (fun h => h), hf4.cell z2 (fun h => h), hf4.cell z3 (fun h => h), hf4.cell z4 (fun h => h), hf4.cell z5 (fun h => h), hf4.cell z6 (fun h => h)⟩
          clear z0 z1 z2 z3 z4 z5 z6 z6d
          refine hK _ _ (fun h => ⟨hB4, S4⟩) ?_
          clear hK K
          refine seqV_do rfl rfl fun K hK => ?_
          go_simp
          have hFp : Fr (fun _ => False) w4 (w4.alloc (.cells #[.int .i64 (opOf r : Int), .slice oA on oc, .int .i64 om, .int .i64 oM, .bool false, .bool false, .slice pA pn pc] 25)) := (Fr.refl _ w4).alloc _
          have hB5 := hB4.fr hFp (fun h => h)
          have SF : ∀ {F : Nat → Prop} {V V' : World}, Fr F V V' → ¬ F b → ¬ F b2 → (V.cell? ⟨b2, 6, none⟩ = some (.slice (some ⟨b, ob, none⟩) n c) ∧ V.cell? ⟨b, ob + k * 7, none⟩ = some (.int .i64 ux) ∧ V.cell? ⟨b, ob + k * 7 + 1, none⟩ = some (.slice uA un uc) ∧ V.cell? ⟨b, ob + k * 7 + 2, none⟩ = some (.int .i64 um) ∧ V.cell? ⟨b, ob + k * 7 + 3, none⟩ = some (.int .i64 uM) ∧ V.cell? ⟨b, ob + k * 7 + 4, none⟩ = some (.bool ul) ∧ V.cell? ⟨b, ob + k * 7 + 5, none⟩ = some (.bool uf) ∧ V.cell? ⟨b, ob + k * 7 + 6, none⟩ = some (.slice vA vn vc)) → (V'.cell? ⟨b2, 6, none⟩ = some (.slice (some ⟨b, ob, none⟩) n c) ∧ V'.cell? ⟨b, ob + k * 7, none⟩ = some (.int .i64 ux) ∧ V'.cell? ⟨b, ob + k * 7 + 1, none⟩ = some (.slice uA un uc) ∧ V'.cell? ⟨b, ob + k * 7 + 2, none⟩ = some (.int .i64 um) ∧ V'.cell? ⟨b, ob + k * 7 + 3, none⟩ = some (.int .i64 uM) ∧ V'.cell? ⟨b, ob + k * 7 + 4, none⟩ = some (.bool ul) ∧ V'.cell? ⟨b, ob + k * 7 + 5, none⟩ = some (.bool uf) ∧ V'.cell? ⟨b, ob + k * 7 + 6, none⟩ = some (.slice vA vn vc)) :=
            fun hf h1 h2 ⟨a1, a2, a3, a4, a5, a6, a7, a8⟩ => ⟨hf.cell a1 h2, hf.cell a2 h1, hf.cell a3 h1, hf.cell a4 h1, hf.cell a5 h1, hf.cell a6 h1, hf.cell a7 h1, hf.cell a8 h1⟩
          have S5 := SF hFp (fun h => h) (fun h => h) S4
          refine hK _ _ (fun h => ⟨hB5, S5⟩) ?_
          clear hK K
          have hrow5 := own_fr (own_fr hrowd hf4 (fun _ _ h => h)) hFp (fun _ _ h => h)
          have hb5 : Blk (w4.alloc (.cells #[.int .i64 (opOf r : Int), .slice oA on oc, .int .i64 om, .int .i64 oM, .bool false, .bool false, .slice pA pn pc] 25)) w4.heap.size [.int .i64 (opOf r : Int), .slice oA on oc, .int .i64 om, .int .i64 oM, .bool false, .bool false, .slice pA pn pc] 25 := Blk.new w4 [_, _, _, _, _, _, _] 25
          obtain ⟨i0, hi, hz0, hz1, hz2⟩ := info_parts info25
          have hsW : W.heap.size ≤ w4.heap.size := Nat.le_trans HRe.out.2.2.1.size hf4.size
          refine seqV_do rfl rfl fun K hK => ?_
          refine step_append_lies _ (by rfl) _ _ 23 (by rfl) W.heap.size 25 i0 (.agg #[.int .i64 0, .slice none 0 0, .int .i64 0, .int .i64 0, .bool false, .bool false, .slice none 0 0]) 7 80 Tryd.underlying23 hi hz0 hz1 hz2 rfl (by decide) _ k _ (by rfl) hrow5 ⟨w4.heap.size, 0, none⟩ 1 1 [.int .i64 (opOf r : Int), .slice oA on oc, .int .i64 om, .int .i64 oM, .bool false, .bool false, .slice pA pn pc] (by rfl) (by simp) (fun j u hj => by
            rw [addr_add0]
            exact hb5.cell j hj) (by simp [Value.oneCell']) (by decide) (by simp only [maxLen]; omega) (by omega) ?_ _ rfl ?_
          · simp; omega
          · intro gg cap w6 hown6 hgrow hat hlt6
            have hFg : Fr (fun k' => (Value.slice sA k sc).ownBlock = some k') (w4.alloc (.cells #[.int .i64 (opOf r : Int), .slice oA on oc, .int .i64 om, .int .i64 oM, .bool false, .bool false, .slice pA pn pc] 25)) w6 := (Fr.refl _ _).grown hgrow (fun k hk _ => hk)
            have hB6 := hB5.fr hFg (fun e => by have := (hoB _ e).1; omega)
            have hgg := (own_lt' hown6 (k := gg) rfl).1
            have S6 := SF hFg (fun e => by have := (hoB _ e).1; omega) (fun e => by have := (hoB _ e).1; omega) S5
            refine hK _ _ (fun h => ⟨hB6, S6⟩) ?_
            clear hK K
            iterate 1 (apply seqV_pure (ho := rfl) (hr := rfl) (hg := rfl); (intro w'; go_simp; rfl))
            refine seqV_do rfl rfl fun K hK => ?_
            have r2 := hB6.cell 6 rfl
            have f2 := hB6.frz 6
            go_simp
            refine hK _ _ (fun h => absurd h (by decide)) ?_
            clear hK K r2 f2
            unfold seqV
            have hFs : Fr (fun k' => k' = b6) w6 (w6.setCell ⟨b6, 6, none⟩ (.slice (some ⟨gg, 0, none⟩) (k + 1) cap)) := Fr.setCell (F := fun k' => k' = b6) (p := ⟨b6, 6, none⟩) (Fr.refl _ w6) (fun _ => rfl) _
            have hB7 := hB6.set 6 (.slice (some ⟨gg, 0, none⟩) (k + 1) cap)
            have hps : (w4.alloc (.cells #[.int .i64 (opOf r : Int), .slice oA on oc, .int .i64 om, .int .i64 oM, .bool false, .bool false, .slice pA pn pc] 25)).heap.size = w4.heap.size + 1 := by simp
            have hsz7 : (w6.setCell ⟨b6, 6, none⟩ (.slice (some ⟨gg, 0, none⟩) (k + 1) cap)).heap.size = w6.heap.size := size_setCell _ _ _
            have hrow7 := own_fr hown6 hFs (fun b hb e => by simp [Value.ownBlock] at hb; omega)
            have h4s : wr.heap.size ≤ w4.heap.size := hf4.size
            have h6s := hFg.size
            have F15 : Fr (fun _ => False) wr (w4.alloc (.cells #[.int .i64 (opOf r : Int), .slice oA on oc, .int .i64 om, .int .i64 oM, .bool false, .bool false, .slice pA pn pc] 25)) := (((Fr.refl (fun _ => False) wr).drew).trans hf4 (fun _ _ h => h)).trans hFp (fun _ _ h => h)
            have F57 : Fr (fun k' => (Value.slice sA k sc).ownBlock = some k' ∨ k' = b6) (w4.alloc (.cells #[.int .i64 (opOf r : Int), .slice oA on oc, .int .i64 om, .int .i64 oM, .bool false, .bool false, .slice pA pn pc] 25)) (w6.setCell ⟨b6, 6, none⟩ (.slice (some ⟨gg, 0, none⟩) (k + 1) cap)) := (hFg.mono (fun _ _ h => .inl h)).trans hFs (fun _ _ h => .inr h)
            have F17 : Fr (fun k' => (Value.slice sA k sc).ownBlock = some k' ∨ k' = b6) wr (w6.setCell ⟨b6, 6, none⟩ (.slice (some ⟨gg, 0, none⟩) (k + 1) cap)) := (F15.mono (fun _ _ h => h.elim)).trans F57 (fun _ _ h => h)
            obtain ⟨hrow, hkids, hF, hFw⟩ := HRe.out
            have hF7 : Fr (fun k => k = b6) W (w6.setCell ⟨b6, 6, none⟩ (.slice (some ⟨gg, 0, none⟩) (k + 1) cap)) := hF.trans F17 (fun k' hk' h => by
              rcases h with h | h
              · have := (hoB k' h).1; omega
              · exact h)
            have hnew : Hid (∀ (i : Nat) (r1 : RE) (x : List Value), (L ++ [r])[i]? = some r1 → (cs ++ [[.int .i64 (opOf r : Int), .slice oA on oc, .int .i64 om, .int .i64 oM, .bool false, .bool false, .slice pA pn pc]])[i]? = some x → ∃ P : Nat → Prop, ReAt (mask (w6.setCell ⟨b6, 6, none⟩ (.slice (some ⟨gg, 0, none⟩) (k + 1) cap)) P) r1 (.agg x.toArray) ∧ (∀ k', (Value.slice (some ⟨gg, 0, none⟩) (k + 1) cap).ownBlock = some k' → ¬ P k') ∧ ∀ k', P k' → W.heap.size ≤ k' ∧ k' < (w6.setCell ⟨b6, 6, none⟩ (.slice (some ⟨gg, 0, none⟩) (k + 1) cap)).heap.size) := Lib.hid (by
              intro i r1 x hi1 hi2
              have hll := hL.out.1
              have hlc := hL.out.2.1
              rcases snoc_inv hi1 with hi1 | ⟨rfl, rfl⟩
              · have hil := (List.getElem?_eq_some_iff.1 hi1).1
                rw [List.getElem?_append_left (by omega)] at hi2
                obtain ⟨P, p1, p2, p3⟩ := hkids.out i r1 x hi1 hi2
                refine ⟨P, re_mask p1 F17 (fun k' hk' hP => ?_) (fun _ h => h), fun k' hk' hP => ?_, fun k' hP => ⟨(p3 k' hP).1, by have := (p3 k' hP).2; omega⟩⟩
                · rintro (h | rfl)
                  · exact p2 k' h hP
                  · have := (p3 _ hP).1; omega
                · simp [Value.ownBlock] at hk'
                  subst hk'
                  rcases hat with h | h
                  · exact p2 _ h hP
                  · have := (p3 _ hP).2; omega
              · rw [List.getElem?_append_right (by omega), hll, hlc, Nat.sub_self] at hi2
                simp at hi2
                subst hi2
                refine ⟨fun k' => wr.drew.heap.size ≤ k' ∧ k' < w4.heap.size, ?_, ?_, ?_⟩
                · refine re_mask (re_below hre4) ((hFp.mono (fun _ _ h => h.elim)).trans F57 (fun _ _ h => h)) (fun k' hk' hP => ?_) (fun _ h => h)
                  have hVd : wr.drew.heap.size = wr.heap.size := rfl
                  rintro (h | rfl)
                  · have := (hoB k' h).2; omega
                  · have := hF.size; omega
                · intro k' hk' hP
                  have hVd : wr.drew.heap.size = wr.heap.size := rfl
                  simp [Value.ownBlock] at hk'
                  subst hk'
                  rcases hat with h | h
                  · have := (hoB _ h).2; omega
                  · omega
                · intro k' hP
                  have hVd : wr.drew.heap.size = wr.heap.size := rfl
                  have := hF.size
                  omega)
            have HR := Lib.hid (And.intro hB7 (And.intro hrow7 (And.intro hF7 (And.intro hsh hwf))))
            clear hB7 hrow7 hF7 hFs hB6 hFg hown6 hgrow hat hlt6 hb5 hrow5 hB5 hFp hB4 hf4 hBd hrowd hrow hkids hF hFw S4 S5 S6 SF hre4 hsh hwf hgg hps hsz7 h4s h6s F15 F57 F17 hoB HRe
            go_wp2_with fail
            go_roundg (most - (k + 1) + 1)
            case measure => omega
            case rel => exact ⟨k + 1, L ++ [r], _, _, by omega, by omega, rfl, by simp, Lib.hid ⟨by simp [hL.out.1], by simp [hL.out.2.1], fun q hq => by rcases List.mem_append.1 hq with h | h; exact hL.out.2.2.1 q h; simp at h; rw [h]; exact HR.out.2.2.2, fun q hq => by rcases List.mem_append.1 hq with h | h; exact hL.out.2.2.2 q h; simp at h; rw [h]; rfl⟩, ⟨_, _, rfl⟩, HR.out.1, by have h := HR.out.2.1; rw [List.flatten_append]; simpa using h, hnew, HR.out.2.2.1⟩
        · have e2 : ¬ ((k : Int) < (most : Int)) := by omega
          have hB4 := HY.out.2.1.fr hF hn46
          have hB2 := HY.out.1.fr hF hn26
          have hk1 : 1 ≤ k := by have := hmost.out; omega
          have hk3 : k ≤ 3 := by omega
          have hone : Hid (¬ (o = 18 ∨ o = 19) → k = 1) := Lib.hid (fun h => by have := hmost.out; omega)
          have fin : Hid (∀ (Wx w' : World) (mnN : Nat) (mxO : Option Nat) (a b : Int), Fr (fun k => k = b6) wr Wx → Fr (fun k => k = b4) Wx w' → mnN ≤ 3 → (∀ m, mxO = some m → mnN ≤ m ∧ m ≤ 5) → (o = 17 → a = (mnN : Int) ∧ b = maxOf mxO) →
              ExprPost w (d' + 1) (.returned (.agg #[.int .i64 (o : Int), .slice none 0 0, .int .i64 a, .int .i64 b, .bool false, .bool false, .slice sA k sc])) w') := Lib.hid (by
            intro Wx w' mnN mxO a b hf1 hf2 h1 h2 h17
            have hfx : Fr (fun k => k = b6 ∨ k = b4) wr w' := (hf1.mono (fun _ _ h => .inl h)).trans hf2 (fun _ _ h => .inr h)
            obtain ⟨q1, q2, q3, q4, q5, q6, q7⟩ := mkRE_ok (o := o) (L := L) (mn := mnN) (d := d') (mx := mxO) (by omega) (by rw [hL.out.1]; exact hk1) (by rw [hL.out.1]; exact hk3) (fun h => by rw [hL.out.1]; exact hone.out h) h1 h2 (fun r hr => (hL.out.2.2.1 r hr).1) (fun r hr => (hL.out.2.2.1 r hr).2)
            have hlow : ∀ k', (Value.slice sA k sc).ownBlock = some k' → ¬ (k' = b6 ∨ k' = b4) := fun k' h => by
              have h1 := (own_lt' hrow h).1
              have h2 := HN.out
              omega
            refine ⟨mkRE o L mnN mxO, _, rfl, reat_node (base := W.heap.size) (L := L) (cs := cs) q1 q2 q3 ?_ hL.out.1.symm (own_fr hrow hfx hlow) (by rw [hL.out.1, hL.out.2.1]) hL.out.2.2.2 HY.out.2.2.2.size (fun i q x hi hx => ?_), q6, q7, ?_⟩
            · by_cases c17 : o = 17
              · obtain ⟨r, hr⟩ := q4 c17
                rw [hr]
                exact h17 c17
              · exact q5 c17 a b
            · obtain ⟨P, p1, p2, p3⟩ := hkids.out i q x hi hx
              exact ⟨P, re_mask p1 hfx (fun k' hk' hP h => by have h1 := (p3 k' hP).1; have h2 := HN.out; omega) (fun _ h => h), fun k' hP => Nat.le_trans HY.out.2.2.2.size (p3 k' hP).1⟩
            · exact (HY.out.2.2.2.trans hF (fun k hk e => by have := HN.out; omega)).trans hfx (fun k hk e => by have := HN.out; omega))
          have r0 := hB.cell 0 rfl
          have r1 := hB.cell 1 rfl
          have r2 := hB.cell 2 rfl
          have r3 := hB.cell 3 rfl
          have r4 := hB.cell 4 rfl
          have r5 := hB.cell 5 rfl
          have r6 := hB.cell 6 rfl
          have c0 := hB4.cell 0 rfl
          have c1 := hB4.cell 1 rfl
          have c2 := hB4.cell 2 rfl
          have c3 := hB4.cell 3 rfl
          have c4 := hB4.cell 4 rfl
          have c5 := hB4.cell 5 rfl
          have c6 := hB4.cell 6 rfl
          have f0 := hB4.frz 0
          have f1 := hB4.frz 1
          have f2 := hB4.frz 2
          have f3 := hB4.frz 3
          have f4 := hB4.frz 4
          have f5 := hB4.frz 5
          have f6 := hB4.frz 6
          have g2 := hB.frz 2
          have g3 := hB.frz 3
          have x2 := hB2.cell 2 rfl
          have x3 := hB2.cell 3 rfl
          have x6 := hB2.cell 6 rfl
          have HK := Lib.hid (And.intro hB4 (And.intro hB (And.intro hB2 (And.intro hrow hF))))
          clear hB4 hB hB2 hrow hF hkids z6r
          by_cases c17 : o = 17
          · subst c17
            have hat := at_calls wr mn (n := 4) (by decide) (by decide)
            go_wp2_with fail
            refine hat.mono ?_
            rintro e w1 ⟨k1, hk1l, rfl, rfl⟩
            clear hat
            have hcS : Hid (k1 ≤ 3) := Lib.hid (by omega)
            by_cases cx : 0 ≤ mx
            · go_wp2_with fail
              obtain ⟨hB4, hB, hB2, hrow, hF⟩ := HK.out
              have hs2 : Fr (fun k => k = b6) wr ((wr.setCell ⟨b6, 2, none⟩ (.int .i64 (k1 : Int))).setCell ⟨b6, 3, none⟩ (.int .i64 (-1))) := Fr.setCell (p := ⟨b6, 3, none⟩) (Fr.setCell (F := fun k => k = b6) (p := ⟨b6, 2, none⟩) (Fr.refl _ wr) (fun _ => rfl) _) (fun _ => rfl) _
              have hBx : Blk ((wr.setCell ⟨b6, 2, none⟩ (.int .i64 (k1 : Int))).setCell ⟨b6, 3, none⟩ (.int .i64 (-1))).drew b6 [.int .i64 17, .slice none 0 0, .int .i64 (k1 : Int), .int .i64 (-1), .bool false, .bool false, .slice sA k sc] 25 := ((hB.set 2 _).set 3 _).drew
              have hB2x := (hB2.fr hs2 hn26).drew
              have hB4x := (hB4.fr hs2 hn46).drew
              have hs2d := hs2.drew
              clear hs2 r0 r1 r2 r3 r4 r5 r6 c0 c1 c2 c3 c4 c5 c6 f0 f1 f2 f3 f4 f5 f6 g2 g3 x2 x3 hB4 hB hB2 hrow hF
              have hat2 := at_calls ((wr.setCell ⟨b6, 2, none⟩ (.int .i64 (k1 : Int))).setCell ⟨b6, 3, none⟩ (.int .i64 (-1))).drew mx (n := 3) (by decide) (by decide)
              refine wp_region_seqV (fun w' => Blk w' b6 [.int .i64 17, .slice none 0 0, .int .i64 (k1 : Int), .int .i64 (-1), .bool false, .bool false, .slice sA k sc] 25 ∧ w'.cell? ⟨b2, 3, none⟩ = some (.int .i64 mx)) (fun i => ![4, 8].contains i) (fun i => ![1, 3, 4, 8].contains i) (fun i => decide (i = 8)) [0, 1, 2, 3, 4, 5, 6, 7, 8] (by kernel_rfl) (by kernel_rfl) (fun c a d v w h => by cases d <;> exact h) ⟨hBx, hB2x.cell 3 rfl⟩ ?_
              iterate 1 (apply seqV_pure (ho := rfl) (hr := rfl) (hg := rfl); (intro w'; go_simp; rfl))
              (apply seqV_read (ho := rfl) (hr := rfl) (hp := rfl) (hg := rfl); (rintro w' ⟨q1, q2⟩; have r2 := q1.cell 2 rfl; clear q1; go_simp; rfl))
              iterate 1 (apply seqV_pure (ho := rfl) (hr := rfl) (hg := rfl); (intro w'; go_simp; rfl))
              (apply seqV_read (ho := rfl) (hr := rfl) (hp := rfl) (hg := rfl); (rintro w' ⟨q1, q2⟩; clear q1; go_simp; rfl))
              refine seqV_do rfl rfl fun K hK => ?_
              go_simp
              refine hat2.mono ?_
              rintro e w4 ⟨k2, hk2l, rfl, rfl⟩
              refine hK _ _ (fun _ => ⟨hBx, hB2x.cell 3 rfl⟩) ?_
              clear hK K hat2
              obtain ⟨M, hM⟩ : ∃ M : Nat, Hid (M = max 1 (k1 + k2)) := ⟨_, Lib.hid rfl⟩
              have hM5 : Hid (k1 ≤ M ∧ M ≤ 5) := Lib.hid (by have := hM.out; have := hcS.out; omega)
              have hk1b : k1 ≤ 3 := hcS.out
              obtain ⟨Z, hZ⟩ : ∃ Z : Nat, Hid (Z = k1 + k2) := ⟨_, Lib.hid rfl⟩
              have ea : wrap64 ((k1 : Int) + (k2 : Int)) = (Z : Int) := by rw [IntWalk.wrap64_in _ (by omega)]; have := hZ.out; omega
              have ea2 : IntKind.i64.wrap ((k1 : Int) + (k2 : Int)) = (Z : Int) := by rw [IntWalk.i64_in _ (by omega)]; have := hZ.out; omega
              have em : (1 < Z ∧ M = Z) ∨ (Z ≤ 1 ∧ M = 1) := by have := hM.out; have := hZ.out; omega
              rcases em with ⟨em1, rfl⟩ | ⟨em1, rfl⟩
              · have em2 : (1 : Int) < (M : Int) := by omega
                iterate 3 (apply seqV_pure (ho := rfl) (hr := rfl) (hg := rfl); (intro w'; go_simp; rfl))
                refine seqV_do rfl rfl fun K hK => ?_
                have r2 := hBx.cell 3 rfl
                have f2 := hBx.frz 3
                go_simp
                refine hK _ _ (fun h => absurd h (by decide)) ?_
                clear hK K r2 f2
                unfold seqV
                have hs3 : Fr (fun k => k = b6) wr ((((wr.setCell ⟨b6, 2, none⟩ (.int .i64 (k1 : Int))).setCell ⟨b6, 3, none⟩ (.int .i64 (-1))).setCell ⟨b6, 3, none⟩ (.int .i64 (M : Int))).drew) := Fr.setCell (p := ⟨b6, 3, none⟩) hs2d (fun _ => rfl) _
                have hB7 : Blk ((((wr.setCell ⟨b6, 2, none⟩ (.int .i64 (k1 : Int))).setCell ⟨b6, 3, none⟩ (.int .i64 (-1))).setCell ⟨b6, 3, none⟩ (.int .i64 (M : Int))).drew) b6 [.int .i64 17, .slice none 0 0, .int .i64 (k1 : Int), .int .i64 (M : Int), .bool false, .bool false, .slice sA k sc] 25 := hBx.set 3 _
                have hB47 : Blk ((((wr.setCell ⟨b6, 2, none⟩ (.int .i64 (k1 : Int))).setCell ⟨b6, 3, none⟩ (.int .i64 (-1))).setCell ⟨b6, 3, none⟩ (.int .i64 (M : Int))).drew) b4 [.int .i64 0, .slice none 0 0, .int .i64 0, .int .i64 0, .bool false, .bool false, .slice none 0 0] 25 := hB4x.set_ne (a := ⟨b6, 3, none⟩) hn46 (.int .i64 (M : Int))
                generalize (((wr.setCell ⟨b6, 2, none⟩ (.int .i64 (k1 : Int))).setCell ⟨b6, 3, none⟩ (.int .i64 (-1))).setCell ⟨b6, 3, none⟩ (.int .i64 (M : Int))).drew = W7 at *
                clear hBx hB2x hB4x hs2d
                have r0 := hB7.cell 0 rfl
                have r1 := hB7.cell 1 rfl
                have r2 := hB7.cell 2 rfl
                have r3 := hB7.cell 3 rfl
                have r4 := hB7.cell 4 rfl
                have r5 := hB7.cell 5 rfl
                have r6 := hB7.cell 6 rfl
                have c0 := hB47.cell 0 rfl
                have c1 := hB47.cell 1 rfl
                have c2 := hB47.cell 2 rfl
                have c3 := hB47.cell 3 rfl
                have c4 := hB47.cell 4 rfl
                have c5 := hB47.cell 5 rfl
                have c6 := hB47.cell 6 rfl
                have f0 := hB47.frz 0
                have f1 := hB47.frz 1
                have f2 := hB47.frz 2
                have f3 := hB47.frz 3
                have f4 := hB47.frz 4
                have f5 := hB47.frz 5
                have f6 := hB47.frz 6
                have HQ := Lib.hid (And.intro hs3 hB47)
                clear hs3 hB47 hB7
                go_wp2_with fail
                refine ret7 rfl rfl HQ.out.2 rfl (fun w' hf => ?_)
                exact fin.out W7 w' k1 (some M) _ _ HQ.out.1 hf hcS.out (fun m hm => by injection hm with hm; subst hm; exact hM5.out) (fun _ => ⟨rfl, rfl⟩)
              · have em2 : ¬ ((1 : Int) < (Z : Int)) := by omega
                iterate 3 (apply seqV_pure (ho := rfl) (hr := rfl) (hg := rfl); (intro w'; go_simp; rfl))
                refine seqV_do rfl rfl fun K hK => ?_
                have r2 := hBx.cell 3 rfl
                have f2 := hBx.frz 3
                go_simp
                refine hK _ _ (fun h => absurd h (by decide)) ?_
                clear hK K r2 f2
                unfold seqV
                have hs3 : Fr (fun k => k = b6) wr ((((wr.setCell ⟨b6, 2, none⟩ (.int .i64 (k1 : Int))).setCell ⟨b6, 3, none⟩ (.int .i64 (-1))).setCell ⟨b6, 3, none⟩ (.int .i64 1)).drew) := Fr.setCell (p := ⟨b6, 3, none⟩) hs2d (fun _ => rfl) _
                have hB7 : Blk ((((wr.setCell ⟨b6, 2, none⟩ (.int .i64 (k1 : Int))).setCell ⟨b6, 3, none⟩ (.int .i64 (-1))).setCell ⟨b6, 3, none⟩ (.int .i64 1)).drew) b6 [.int .i64 17, .slice none 0 0, .int .i64 (k1 : Int), .int .i64 1, .bool false, .bool false, .slice sA k sc] 25 := hBx.set 3 _
                have hB47 : Blk ((((wr.setCell ⟨b6, 2, none⟩ (.int .i64 (k1 : Int))).setCell ⟨b6, 3, none⟩ (.int .i64 (-1))).setCell ⟨b6, 3, none⟩ (.int .i64 1)).drew) b4 [.int .i64 0, .slice none 0 0, .int .i64 0, .int .i64 0, .bool false, .bool false, .slice none 0 0] 25 := hB4x.set_ne (a := ⟨b6, 3, none⟩) hn46 (.int .i64 1)
                generalize (((wr.setCell ⟨b6, 2, none⟩ (.int .i64 (k1 : Int))).setCell ⟨b6, 3, none⟩ (.int .i64 (-1))).setCell ⟨b6, 3, none⟩ (.int .i64 1)).drew = W7 at *
                clear hBx hB2x hB4x hs2d
                have r0 := hB7.cell 0 rfl
                have r1 := hB7.cell 1 rfl
                have r2 := hB7.cell 2 rfl
                have r3 := hB7.cell 3 rfl
                have r4 := hB7.cell 4 rfl
                have r5 := hB7.cell 5 rfl
                have r6 := hB7.cell 6 rfl
                have c0 := hB47.cell 0 rfl
                have c1 := hB47.cell 1 rfl
                have c2 := hB47.cell 2 rfl
                have c3 := hB47.cell 3 rfl
                have c4 := hB47.cell 4 rfl
                have c5 := hB47.cell 5 rfl
                have c6 := hB47.cell 6 rfl
                have f0 := hB47.frz 0
                have f1 := hB47.frz 1
                have f2 := hB47.frz 2
                have f3 := hB47.frz 3
                have f4 := hB47.frz 4
                have f5 := hB47.frz 5
                have f6 := hB47.frz 6
                have HQ := Lib.hid (And.intro hs3 hB47)
                clear hs3 hB47 hB7
                go_wp2_with fail
                refine ret7 rfl rfl HQ.out.2 rfl (fun w' hf => ?_)
                exact fin.out W7 w' k1 (some 1) _ _ HQ.out.1 hf hcS.out (fun m hm => by injection hm with hm; subst hm; exact hM5.out) (fun _ => ⟨rfl, rfl⟩)
            · go_wp2_with fail
              obtain ⟨hB4, hB, hB2, hrow, hF⟩ := HK.out
              have hs2 : Fr (fun k => k = b6) wr ((wr.setCell ⟨b6, 2, none⟩ (.int .i64 (k1 : Int))).setCell ⟨b6, 3, none⟩ (.int .i64 (-1))) := Fr.setCell (p := ⟨b6, 3, none⟩) (Fr.setCell (F := fun k => k = b6) (p := ⟨b6, 2, none⟩) (Fr.refl _ wr) (fun _ => rfl) _) (fun _ => rfl) _
              refine ret7 rfl rfl (hB4.fr hs2 hn46) rfl (fun w' hf => ?_)
              exact fin.out _ w' k1 none _ _ hs2 hf hcS.out (fun m hm => nomatch hm) (fun _ => ⟨rfl, rfl⟩)
          · have n17 : ¬ ((o : Int) = 17) := by omega
            have e17 : ((o : Int) == 17) = false := by rw [beq_eq_false_iff_ne]; omega
            go_wp2_with fail
            obtain ⟨hB4, hB, hB2, hrow, hF⟩ := HK.out
            refine ret7 rfl rfl hB4 rfl (fun w' hf => ?_)
            exact fin.out wr w' 0 none _ _ (Fr.refl _ wr) hf (by omega) (fun m hm => nomatch hm) (fun h => absurd h c17)
      · have e1 : ¬ ((k : Int) < (n : Int)) := by omega
        obtain rfl : k = n := by omega
        have hB4 := HY.out.2.1.fr hF hn46
        have hB2 := HY.out.1.fr hF hn26
        have hk1 : 1 ≤ k := by have := hmost.out; omega
        have hk3 : k ≤ 3 := by omega
        have hone : Hid (¬ (o = 18 ∨ o = 19) → k = 1) := Lib.hid (fun h => by have := hmost.out; omega)
        have fin : Hid (∀ (Wx w' : World) (mnN : Nat) (mxO : Option Nat) (a b : Int), Fr (fun k => k = b6) wr Wx → Fr (fun k => k = b4) Wx w' → mnN ≤ 3 → (∀ m, mxO = some m → mnN ≤ m ∧ m ≤ 5) → (o = 17 → a = (mnN : Int) ∧ b = maxOf mxO) →
            ExprPost w (d' + 1) (.returned (.agg #[.int .i64 (o : Int), .slice none 0 0, .int .i64 a, .int .i64 b, .bool false, .bool false, .slice sA k sc])) w') := Lib.hid (by
          intro Wx w' mnN mxO a b hf1 hf2 h1 h2 h17
          have hfx : Fr (fun k => k = b6 ∨ k = b4) wr w' := (hf1.mono (fun _ _ h => .inl h)).trans hf2 (fun _ _ h => .inr h)
          obtain ⟨q1, q2, q3, q4, q5, q6, q7⟩ := mkRE_ok (o := o) (L := L) (mn := mnN) (d := d') (mx := mxO) (by omega) (by rw [hL.out.1]; exact hk1) (by rw [hL.out.1]; exact hk3) (fun h => by rw [hL.out.1]; exact hone.out h) h1 h2 (fun r hr => (hL.out.2.2.1 r hr).1) (fun r hr => (hL.out.2.2.1 r hr).2)
          have hlow : ∀ k', (Value.slice sA k sc).ownBlock = some k' → ¬ (k' = b6 ∨ k' = b4) := fun k' h => by
            have h1 := (own_lt' hrow h).1
            have h2 := HN.out
            omega
          refine ⟨mkRE o L mnN mxO, _, rfl, reat_node (base := W.heap.size) (L := L) (cs := cs) q1 q2 q3 ?_ hL.out.1.symm (own_fr hrow hfx hlow) (by rw [hL.out.1, hL.out.2.1]) hL.out.2.2.2 HY.out.2.2.2.size (fun i q x hi hx => ?_), q6, q7, ?_⟩
          · by_cases c17 : o = 17
            · obtain ⟨r, hr⟩ := q4 c17
              rw [hr]
              exact h17 c17
            · exact q5 c17 a b
          · obtain ⟨P, p1, p2, p3⟩ := hkids.out i q x hi hx
            exact ⟨P, re_mask p1 hfx (fun k' hk' hP h => by have h1 := (p3 k' hP).1; have h2 := HN.out; omega) (fun _ h => h), fun k' hP => Nat.le_trans HY.out.2.2.2.size (p3 k' hP).1⟩
          · exact (HY.out.2.2.2.trans hF (fun k hk e => by have := HN.out; omega)).trans hfx (fun k hk e => by have := HN.out; omega))
        have r0 := hB.cell 0 rfl
        have r1 := hB.cell 1 rfl
        have r2 := hB.cell 2 rfl
        have r3 := hB.cell 3 rfl
        have r4 := hB.cell 4 rfl
        have r5 := hB.cell 5 rfl
        have r6 := hB.cell 6 rfl
        have c0 := hB4.cell 0 rfl
        have c1 := hB4.cell 1 rfl
        have c2 := hB4.cell 2 rfl
        have c3 := hB4.cell 3 rfl
        have c4 := hB4.cell 4 rfl
        have c5 := hB4.cell 5 rfl
        have c6 := hB4.cell 6 rfl
        have f0 := hB4.frz 0
        have f1 := hB4.frz 1
        have f2 := hB4.frz 2
        have f3 := hB4.frz 3
        have f4 := hB4.frz 4
        have f5 := hB4.frz 5
        have f6 := hB4.frz 6
        have g2 := hB.frz 2
        have g3 := hB.frz 3
        have x2 := hB2.cell 2 rfl
        have x3 := hB2.cell 3 rfl
        have x6 := hB2.cell 6 rfl
        have HK := Lib.hid (And.intro hB4 (And.intro hB (And.intro hB2 (And.intro hrow hF))))
        clear hB4 hB hB2 hrow hF hkids z6r
        by_cases c17 : o = 17
        · subst c17
          have hat := at_calls wr mn (n := 4) (by decide) (by decide)
          go_wp2_with fail
          refine hat.mono ?_
          rintro e w1 ⟨k1, hk1l, rfl, rfl⟩
          clear hat
          have hcS : Hid (k1 ≤ 3) := Lib.hid (by omega)
          by_cases cx : 0 ≤ mx
          · go_wp2_with fail
            obtain ⟨hB4, hB, hB2, hrow, hF⟩ := HK.out
            have hs2 : Fr (fun k => k = b6) wr ((wr.setCell ⟨b6, 2, none⟩ (.int .i64 (k1 : Int))).setCell ⟨b6, 3, none⟩ (.int .i64 (-1))) := Fr.setCell (p := ⟨b6, 3, none⟩) (Fr.setCell (F := fun k => k = b6) (p := ⟨b6, 2, none⟩) (Fr.refl _ wr) (fun _ => rfl) _) (fun _ => rfl) _
            have hBx : Blk ((wr.setCell ⟨b6, 2, none⟩ (.int .i64 (k1 : Int))).setCell ⟨b6, 3, none⟩ (.int .i64 (-1))).drew b6 [.int .i64 17, .slice none 0 0, .int .i64 (k1 : Int), .int .i64 (-1), .bool false, .bool false, .slice sA k sc] 25 := ((hB.set 2 _).set 3 _).drew
            have hB2x := (hB2.fr hs2 hn26).drew
            have hB4x := (hB4.fr hs2 hn46).drew
            have hs2d := hs2.drew
            clear hs2 r0 r1 r2 r3 r4 r5 r6 c0 c1 c2 c3 c4 c5 c6 f0 f1 f2 f3 f4 f5 f6 g2 g3 x2 x3 hB4 hB hB2 hrow hF
            have hat2 := at_calls ((wr.setCell ⟨b6, 2, none⟩ (.int .i64 (k1 : Int))).setCell ⟨b6, 3, none⟩ (.int .i64 (-1))).drew mx (n := 3) (by decide) (by decide)
            refine wp_region_seqV (fun w' => Blk w' b6 [.int .i64 17, .slice none 0 0, .int .i64 (k1 : Int), .int .i64 (-1), .bool false, .bool false, .slice sA k sc] 25 ∧ w'.cell? ⟨b2, 3, none⟩ = some (.int .i64 mx)) (fun i => ![4, 8].contains i) (fun i => ![1, 3, 4, 8].contains i) (fun i => decide (i = 8)) [0, 1, 2, 3, 4, 5, 6, 7, 8] (by kernel_rfl) (by kernel_rfl) (fun c a d v w h => by cases d <;> exact h) ⟨hBx, hB2x.cell 3 rfl⟩ ?_
            iterate 1 (apply seqV_pure (ho := rfl) (hr := rfl) (hg := rfl); (intro w'; go_simp; rfl))
            (apply seqV_read (ho := rfl) (hr := rfl) (hp := rfl) (hg := rfl); (rintro w' ⟨q1, q2⟩; have r2 := q1.cell 2 rfl; clear q1; go_simp; rfl))
            iterate 1 (apply seqV_pure (ho := rfl) (hr := rfl) (hg := rfl); (intro w'; go_simp; rfl))
            (apply seqV_read (ho := rfl) (hr := rfl) (hp := rfl) (hg := rfl); (rintro w' ⟨q1, q2⟩; clear q1; go_simp; rfl))
            refine seqV_do rfl rfl fun K hK => ?_
            go_simp
            refine hat2.mono ?_
            rintro e w4 ⟨k2, hk2l, rfl, rfl⟩
            refine hK _ _ (fun _ => ⟨hBx, hB2x.cell 3 rfl⟩) ?_
            clear hK K hat2
            obtain ⟨M, hM⟩ : ∃ M : Nat, Hid (M = max 1 (k1 + k2)) := ⟨_, Lib.hid rfl⟩
            have hM5 : Hid (k1 ≤ M ∧ M ≤ 5) := Lib.hid (by have := hM.out; have := hcS.out; omega)
            have hk1b : k1 ≤ 3 := hcS.out
            obtain ⟨Z, hZ⟩ : ∃ Z : Nat, Hid (Z = k1 + k2) := ⟨_, Lib.hid rfl⟩
            have ea : wrap64 ((k1 : Int) + (k2 : Int)) = (Z : Int) := by rw [IntWalk.wrap64_in _ (by omega)]; have := hZ.out; omega
            have ea2 : IntKind.i64.wrap ((k1 : Int) + (k2 : Int)) = (Z : Int) := by rw [IntWalk.i64_in _ (by omega)]; have := hZ.out; omega
            have em : (1 < Z ∧ M = Z) ∨ (Z ≤ 1 ∧ M = 1) := by have := hM.out; have := hZ.out; omega
            rcases em with ⟨em1, rfl⟩ | ⟨em1, rfl⟩
            · have em2 : (1 : Int) < (M : Int) := by omega
              iterate 3 (apply seqV_pure (ho := rfl) (hr := rfl) (hg := rfl); (intro w'; go_simp; rfl))
              refine seqV_do rfl rfl fun K hK => ?_
              have r2 := hBx.cell 3 rfl
              have f2 := hBx.frz 3
              go_simp
              refine hK _ _ (fun h => absurd h (by decide)) ?_
              clear hK K r2 f2
              unfold seqV
              have hs3 : Fr (fun k => k = b6) wr ((((wr.setCell ⟨b6, 2, none⟩ (.int .i64 (k1 : Int))).setCell ⟨b6, 3, none⟩ (.int .i64 (-1))).setCell ⟨b6, 3, none⟩ (.int .i64 (M : Int))).drew) := Fr.setCell (p := ⟨b6, 3, none⟩) hs2d (fun _ => rfl) _
              have hB7 : Blk ((((wr.setCell ⟨b6, 2, none⟩ (.int .i64 (k1 : Int))).setCell ⟨b6, 3, none⟩ (.int .i64 (-1))).setCell ⟨b6, 3, none⟩ (.int .i64 (M : Int))).drew) b6 [.int .i64 17, .slice none 0 0, .int .i64 (k1 : Int), .int .i64 (M : Int), .bool false, .bool false, .slice sA k sc] 25 := hBx.set 3 _
              have hB47 : Blk ((((wr.setCell ⟨b6, 2, none⟩ (.int .i64 (k1 : Int))).setCell ⟨b6, 3, none⟩ (.int .i64 (-1))).setCell ⟨b6, 3, none⟩ (.int .i64 (M : Int))).drew) b4 [.int .i64 0, .slice none 0 0, .int .i64 0, .int .i64 0, .bool false, .bool false, .slice none 0 0] 25 := hB4x.set_ne (a := ⟨b6, 3, none⟩) hn46 (.int .i64 (M : Int))
              generalize (((wr.setCell ⟨b6, 2, none⟩ (.int .i64 (k1 : Int))).setCell ⟨b6, 3, none⟩ (.int .i64 (-1))).setCell ⟨b6, 3, none⟩ (.int .i64 (M : Int))).drew = W7 at *
              clear hBx hB2x hB4x hs2d
              have r0 := hB7.cell 0 rfl
              have r1 := hB7.cell 1 rfl
              have r2 := hB7.cell 2 rfl
              have r3 := hB7.cell 3 rfl
              have r4 := hB7.cell 4 rfl
              have r5 := hB7.cell 5 rfl
              have r6 := hB7.cell 6 rfl
              have c0 := hB47.cell 0 rfl
              have c1 := hB47.cell 1 rfl
              have c2 := hB47.cell 2 rfl
              have c3 := hB47.cell 3 rfl
              have c4 := hB47.cell 4 rfl
              have c5 := hB47.cell 5 rfl
              have c6 := hB47.cell 6 rfl
              have f0 := hB47.frz 0
              have f1 := hB47.frz 1
              have f2 := hB47.frz 2
              have f3 := hB47.frz 3
              have f4 := hB47.frz 4
              have f5 := hB47.frz 5
              have f6 := hB47.frz 6
              have HQ := Lib.hid (And.intro hs3 hB47)
              clear hs3 hB47 hB7
              go_wp2_with fail
              refine ret7 rfl rfl HQ.out.2 rfl (fun w' hf => ?_)
              exact fin.out W7 w' k1 (some M) _ _ HQ.out.1 hf hcS.out (fun m hm => by injection hm with hm; subst hm; exact hM5.out) (fun _ => ⟨rfl, rfl⟩)
            · have em2 : ¬ ((1 : Int) < (Z : Int)) := by omega
              iterate 3 (apply seqV_pure (ho := rfl) (hr := rfl) (hg := rfl); (intro w'; go_simp; rfl))
              refine seqV_do rfl rfl fun K hK => ?_
              have r2 := hBx.cell 3 rfl
              have f2 := hBx.frz 3
              go_simp
              refine hK _ _ (fun h => absurd h (by decide)) ?_
              clear hK K r2 f2
              unfold seqV
              have hs3 : Fr (fun k => k = b6) wr ((((wr.setCell ⟨b6, 2, none⟩ (.int .i64 (k1 : Int))).setCell ⟨b6, 3, none⟩ (.int .i64 (-1))).setCell ⟨b6, 3, none⟩ (.int .i64 1)).drew) := Fr.setCell (p := ⟨b6, 3, none⟩) hs2d (fun _ => rfl) _
              have hB7 : Blk ((((wr.setCell ⟨b6, 2, none⟩ (.int .i64 (k1 : Int))).setCell ⟨b6, 3, none⟩ (.int .i64 (-1))).setCell ⟨b6, 3, none⟩ (.int .i64 1)).drew) b6 [.int .i64 17, .slice none 0 0, .int .i64 (k1 : Int), .int .i64 1, .bool false, .bool false, .slice sA k sc] 25 := hBx.set 3 _
              have hB47 : Blk ((((wr.setCell ⟨b6, 2, none⟩ (.int .i64 (k1 : Int))).setCell ⟨b6, 3, none⟩ (.int .i64 (-1))).setCell ⟨b6, 3, none⟩ (.int .i64 1)).drew) b4 [.int .i64 0, .slice none 0 0, .int .i64 0, .int .i64 0, .bool false, .bool false, .slice none 0 0] 25 := hB4x.set_ne (a := ⟨b6, 3, none⟩) hn46 (.int .i64 1)
              generalize (((wr.setCell ⟨b6, 2, none⟩ (.int .i64 (k1 : Int))).setCell ⟨b6, 3, none⟩ (.int .i64 (-1))).setCell ⟨b6, 3, none⟩ (.int .i64 1)).drew = W7 at *
              clear hBx hB2x hB4x hs2d
              have r0 := hB7.cell 0 rfl
              have r1 := hB7.cell 1 rfl
              have r2 := hB7.cell 2 rfl
              have r3 := hB7.cell 3 rfl
              have r4 := hB7.cell 4 rfl
              have r5 := hB7.cell 5 rfl
              have r6 := hB7.cell 6 rfl
              have c0 := hB47.cell 0 rfl
              have c1 := hB47.cell 1 rfl
              have c2 := hB47.cell 2 rfl
              have c3 := hB47.cell 3 rfl
              have c4 := hB47.cell 4 rfl
              have c5 := hB47.cell 5 rfl
              have c6 := hB47.cell 6 rfl
              have f0 := hB47.frz 0
              have f1 := hB47.frz 1
              have f2 := hB47.frz 2
              have f3 := hB47.frz 3
              have f4 := hB47.frz 4
              have f5 := hB47.frz 5
              have f6 := hB47.frz 6
              have HQ := Lib.hid (And.intro hs3 hB47)
              clear hs3 hB47 hB7
              go_wp2_with fail
              refine ret7 rfl rfl HQ.out.2 rfl (fun w' hf => ?_)
              exact fin.out W7 w' k1 (some 1) _ _ HQ.out.1 hf hcS.out (fun m hm => by injection hm with hm; subst hm; exact hM5.out) (fun _ => ⟨rfl, rfl⟩)
          · go_wp2_with fail
            obtain ⟨hB4, hB, hB2, hrow, hF⟩ := HK.out
            have hs2 : Fr (fun k => k = b6) wr ((wr.setCell ⟨b6, 2, none⟩ (.int .i64 (k1 : Int))).setCell ⟨b6, 3, none⟩ (.int .i64 (-1))) := Fr.setCell (p := ⟨b6, 3, none⟩) (Fr.setCell (F := fun k => k = b6) (p := ⟨b6, 2, none⟩) (Fr.refl _ wr) (fun _ => rfl) _) (fun _ => rfl) _
            refine ret7 rfl rfl (hB4.fr hs2 hn46) rfl (fun w' hf => ?_)
            exact fin.out _ w' k1 none _ _ hs2 hf hcS.out (fun m hm => nomatch hm) (fun _ => ⟨rfl, rfl⟩)
        · have n17 : ¬ ((o : Int) = 17) := by omega
          have e17 : ((o : Int) == 17) = false := by rw [beq_eq_false_iff_ne]; omega
          go_wp2_with fail
          obtain ⟨hB4, hB, hB2, hrow, hF⟩ := HK.out
          refine ret7 rfl rfl hB4 rfl (fun w' hf => ?_)
          exact fin.out wr w' 0 none _ _ (Fr.refl _ wr) hf (by omega) (fun m hm => nomatch hm) (fun h => absurd h c17)
end Go.Proofs.YtjeklnbfpehbeaaDoor
