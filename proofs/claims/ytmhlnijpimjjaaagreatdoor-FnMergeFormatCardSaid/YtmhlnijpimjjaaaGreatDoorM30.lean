/- The merge iterator's choice of the lowest key, and of its value. Condition: at least one map, at most 2^20. -/
import Derived.Test.YtmhlnijpimjjaaaGreatDoorM29
set_option linter.unusedSimpArgs false
set_option linter.unusedVariables false
namespace Go.Proofs.YtmhlnijpimjjaaaGreatDoor
open Go.RowKit Fmt
def UmS (w0 : World) (col0 : Col) (mb how : Nat) (ms : List Mi) (ps : List (Prs × Prs)) (col : Col) (d : MD) (X : World) : Prop := Mg X col mb how ms ps (fun _ => True) d ∧ Kp cmi col0 w0 col X
section
variable {w0 : World} {col0 : Col} {mb how : Nat} {ms : List Mi} {ps : List (Prs × Prs)} {col : Col} {d : MD} {X : World}
theorem UmS.low (h : UmS w0 col0 mb how ms ps col d X) (v : Value) : UmS w0 col0 mb how ms ps col { d with lk := v } (X.setCell ⟨mb, 4, none⟩ v) :=
 ⟨(h.1.low v).1, h.2.trans ((h.1.low v).2.mono fun c e => by subst e; unfold cmi; omega)⟩
theorem UmS.cutIx (h : UmS w0 col0 mb how ms ps col d X) {A : Option Addr} {c : Nat} (hv : d.li = .slice A d.ix.length c) : UmS w0 col0 mb how ms ps col { d with li := .slice A 0 c, ix := [] } (X.setCell ⟨mb, 6, none⟩ (.slice A 0 c)) :=
 ⟨(h.1.cutIx hv).1, h.2.trans ((h.1.cutIx hv).2.mono fun c e => by subst e; unfold cmi; omega)⟩
theorem UmS.appIx {w1 : World} (h : UmS w0 col0 mb how ms ps col d X) {v' : Value} {F' : List Value} (x : Nat) (hr : RowF w1 3 1 v' (d.ix.length + 1) F') (hF : Fr (fun q => d.li.ownBlock = some q) X w1)
  (hc : (v'.ownBlock = d.li.ownBlock ∧ F' = d.liF.take (d.ix.length * 1) ++ [.int .i64 (x : Int)] ++ d.liF.drop ((d.ix.length + 1) * 1)) ∨ ((∃ b', v'.ownBlock = some b' ∧ X.heap.size ≤ b') ∧ ∃ k, F' = d.liF.take (d.ix.length * 1) ++ [.int .i64 (x : Int)] ++ zeros #[.int .i64 0] k)) :
  UmS w0 col0 mb how ms ps (paint X.heap.size 53 col) { d with li := v', ix := d.ix ++ [x], liF := F' } (w1.setCell ⟨mb, 6, none⟩ v') := by
 obtain ⟨h1, h2⟩ := h.1.appIx x hr hF hc
 exact ⟨h1, h.2.trans (h2.mono fun c e => by unfold cmi; omega)⟩
theorem UmS.drew (h : UmS w0 col0 mb how ms ps col d X) : UmS w0 col0 mb how ms ps col d X.drew := ⟨h.1.kp (Kp.refl (fun _ => False) col X).drew (fun _ _ e => e) (fun e => e), h.2.drew⟩
theorem UmS.drewN (h : UmS w0 col0 mb how ms ps col d X) (n : Nat) : UmS w0 col0 mb how ms ps col d (X.drewN n) := ⟨h.1.drewN n, h.2.drewN n⟩
theorem UmS.lowv (h : UmS w0 col0 mb how ms ps col d X) (n : Nat) : UmS w0 col0 mb how ms ps col { d with lv := n } (X.setCell ⟨mb, 5, none⟩ (.int .u64 (n : Int))) :=
 ⟨(h.1.lowv n).1, h.2.trans ((h.1.lowv n).2.mono fun c e => by subst e; unfold cmi; omega)⟩
theorem UmS.cutMv (h : UmS w0 col0 mb how ms ps col d X) {A : Option Addr} {c : Nat} (hv : d.mv = .slice A d.mn c) : UmS w0 col0 mb how ms ps col { d with mv := .slice A 0 c, mn := 0 } (X.setCell ⟨mb, 7, none⟩ (.slice A 0 c)) :=
 ⟨(h.1.cutMv hv).1, h.2.trans ((h.1.cutMv hv).2.mono fun c e => by subst e; unfold cmi; omega)⟩
theorem UmS.appMv {w1 : World} (h : UmS w0 col0 mb how ms ps col d X) {v' : Value} {F' : List Value} {x : Value} (hr : RowF w1 40 1 v' (d.mn + 1) F') (hF : Fr (fun q => d.mv.ownBlock = some q) X w1)
  (hc : (v'.ownBlock = d.mv.ownBlock ∧ F' = d.mF.take (d.mn * 1) ++ [x] ++ d.mF.drop ((d.mn + 1) * 1)) ∨ ((∃ b', v'.ownBlock = some b' ∧ X.heap.size ≤ b') ∧ ∃ k, F' = d.mF.take (d.mn * 1) ++ [x] ++ zeros #[.int .u64 0] k)) :
  UmS w0 col0 mb how ms ps (paint X.heap.size 54 col) { d with mv := v', mn := d.mn + 1, mF := F' } (w1.setCell ⟨mb, 7, none⟩ v') ∧ AppF d.mF d.mn x F' (.int .u64 0) ∧ d.mn ≤ d.mF.length := by
 obtain ⟨h1, h2, h3, h4⟩ := h.1.appMv hr hF hc
 exact ⟨⟨h1, h.2.trans (h2.mono fun c e => by unfold cmi; omega)⟩, h3, h4⟩
theorem Mg.neMv (h : Mg X col mb how ms ps (fun _ => True) d) : ¬ d.mv.ownBlock = some mb := fun e => by
 have h1 := h.mv.col mb e
 rw [h.blk.col] at h1; omega
/-- The values are gathered. -/
def UmJ (w0 : World) (col0 : Col) (mb how : Nat) (ms : List Mi) (ps : List (Prs × Prs)) (d : MD) (vs : List Nat) (nx g : Nat) (t : Value) (w : World) : Prop :=
 ∃ (j : Nat) (col : Col) (mv : Value) (mF : List Value), j ≤ nx ∧ g = nx - j ∧ t = .int .i64 (j : Int) ∧ UmS w0 col0 mb how ms ps col { d with mv := mv, mn := j, mF := mF } w ∧ ∀ (m z : Nat), m < j → vs[m]? = some z → mF[m]? = some (.int .u64 (z : Int))
/-- A slot's row is that of another block than the core. -/
theorem Mg.neIx (h : Mg X col mb how ms ps (fun _ => True) d) : ¬ d.li.ownBlock = some mb := fun e => by
 have h1 := h.li.col mb e
 rw [h.blk.col] at h1; omega
end
theorem lit189 (t : Array Value) (h : t.size = 189) : ∃ f : Nat → Value, t = #[f 0, f 1, f 2, f 3, f 4, f 5, f 6, f 7, f 8, f 9, f 10, f 11, f 12, f 13, f 14, f 15, f 16, f 17, f 18, f 19, f 20, f 21, f 22, f 23, f 24, f 25, f 26, f 27, f 28, f 29, f 30, f 31, f 32, f 33, f 34, f 35, f 36, f 37, f 38, f 39, f 40, f 41, f 42, f 43, f 44, f 45, f 46, f 47, f 48, f 49, f 50, f 51, f 52, f 53, f 54, f 55, f 56, f 57, f 58, f 59, f 60, f 61, f 62, f 63, f 64, f 65, f 66, f 67, f 68, f 69, f 70, f 71, f 72, f 73, f 74, f 75, f 76, f 77, f 78, f 79, f 80, f 81, f 82, f 83, f 84, f 85, f 86, f 87, f 88, f 89, f 90, f 91, f 92, f 93, f 94, f 95, f 96, f 97, f 98, f 99, f 100, f 101, f 102, f 103, f 104, f 105, f 106, f 107, f 108, f 109, f 110, f 111, f 112, f 113, f 114, f 115, f 116, f 117, f 118, f 119, f 120, f 121, f 122, f 123, f 124, f 125, f 126, f 127, f 128, f 129, f 130, f 131, f 132, f 133, f 134, f 135, f 136, f 137, f 138, f 139, f 140, f 141, f 142, f 143, f 144, f 145, f 146, f 147, f 148, f 149, f 150, f 151, f 152, f 153, f 154, f 155, f 156, f 157, f 158, f 159, f 160, f 161, f 162, f 163, f 164, f 165, f 166, f 167, f 168, f 169, f 170, f 171, f 172, f 173, f 174, f 175, f 176, f 177, f 178, f 179, f 180, f 181, f 182, f 183, f 184, f 185, f 186, f 187, f 188] := by
 obtain ⟨f, hf⟩ := litM t h
 exact ⟨f, hf.trans rfl⟩
theorem LowV.one {w : World} {col : Col} {ps : List (Prs × Prs)} {p : Prs × Prs} {Ks : List Value} {v u : Value} (hp : ps[0]? = some p) (hk : Ks[0]? = some v) (ha : KeyAt w col 0 v u p.2) : LowV ps 1 Ks v [0] := by
 have h := LowP.one hp
 cases hr : p.2 with
 | nil => rw [hr] at h ha; exact .inl ⟨h, ha.1⟩
 | cons q r => rw [hr] at h; exact .inr ⟨q.1, 0, p, q, r, h, hk, hp, hr, rfl⟩
def LowW (ps : List (Prs × Prs)) (N : Nat) (d : MD) (vs : List Nat) : Prop := (LowP ps N none d.ix ∧ d.lk = .slice none 0 0) ∨ ∃ (k : List Nat) (x : Nat) (p : Prs × Prs) (q : List Nat × Nat) (r : Prs), LowP ps N (some k) d.ix ∧ d.Ks[x]? = some d.lk ∧ ps[x]? = some p ∧ p.2 = q :: r ∧ q.1 = k ∧ vs = heads k ps
theorem UmPost.mk {w0 : World} {col0 : Col} {mb how : Nat} {ms : List Mi} {ps : List (Prs × Prs)} {d : MD} {col : Col} {X : World} {vs : List Nat} (h : UmS w0 col0 mb how ms ps col d X) (hw : LowW ps ms.length d vs) (hv : d.lv = jn how vs) : UmPost w0 col0 mb how ms ps X := by
 refine ⟨col, d, h.1, h.2, ?_⟩
 rcases hw with h1 | ⟨k, x, p, q, r, h1, h2, h3, h4, h5, h6⟩
 ·exact .inl h1
 ·obtain ⟨v, u, e1, e2, e3⟩ := h.1.fre x p trivial h3
  rw [h2] at e1
  injection e1 with e1
  subst e1
  rw [h4] at e3
  exact .inr ⟨k, h1, ⟨x, by rw [← h5]; exact e3.1⟩, by rw [hv, h6]⟩
/-- The values at the lowest key. -/
theorem LowV.vals {w : World} {col : Col} {mb how : Nat} {ms : List Mi} {ps : List (Prs × Prs)} {d : MD} (hM : Mg w col mb how ms ps (fun _ => True) d) (hN : 1 ≤ ms.length) (hL : LowV ps ms.length d.Ks d.lk d.ix) :
  ∃ vs : List Nat, vs.length = d.ix.length ∧ (∀ (j x : Nat), d.ix[j]? = some x → ∃ z : Nat, vs[j]? = some z ∧ d.Vs[x]? = some (.int .u64 (z : Int))) ∧ (∀ z, z ∈ vs → z < 2 ^ 64) ∧ LowW ps ms.length d vs := by
 have ht : ps.take ms.length = ps := List.take_of_length_le (by rw [hM.len]; exact Nat.le_refl _)
 rcases hL.key hM with ⟨h1, h2⟩ | ⟨k, x, p, q, r, h1, h2, h3, h4, h5, h6⟩
 ·obtain ⟨p0, hp0⟩ : ∃ p, ps[0]? = some p := ⟨_, List.getElem?_eq_getElem (by rw [hM.len]; omega)⟩
  obtain ⟨v0, u0, k1, k2, k3⟩ := hM.fre 0 p0 trivial hp0
  have he := h1.2 p0 (by rw [ht]; exact List.mem_of_getElem? hp0)
  rw [he] at k3
  refine ⟨[0], by rw [h1.1], fun j x hj => ?_, by simp, .inl ⟨h1, h2⟩⟩
  rw [h1.1] at hj
  rcases j with _ | j
  ·simp at hj; subst hj; exact ⟨0, rfl, by rw [k2, k3.2]; rfl⟩
  ·simp at hj
 ·have hh := hix_heads (k := k) (ps := ps) (i := 0)
  have hix : d.ix = hix k 0 ps := by have := h1.1; rwa [ht] at this
  refine ⟨heads k ps, by rw [hix, hh.1], fun j x' hj => ?_, fun z hz => ?_, .inr ⟨k, x, p, q, r, h1, h3, h4, h5, h6, rfl⟩⟩
  ·rw [hix] at hj
   have hjl : j < (heads k ps).length := by rw [← hh.1]; exact (List.getElem?_eq_some_iff.1 hj).1
   obtain ⟨p', r', -, e1, e2⟩ := hh.2 j x' _ hj (List.getElem?_eq_getElem hjl)
   rw [Nat.sub_zero] at e1
   obtain ⟨v0, u0, k1, k2, k3⟩ := hM.fre x' p' trivial e1
   rw [e2] at k3
   exact ⟨_, List.getElem?_eq_getElem hjl, by rw [k2, k3.2]⟩
  ·unfold heads at hz
   obtain ⟨p', hp', hz⟩ := List.mem_flatMap.1 hz
   obtain ⟨j, hj⟩ := List.getElem?_of_mem hp'
   cases hr : p'.2 with
   | nil => rw [hr] at hz; cases hz
   | cons a b =>
    rw [hr] at hz
    simp only at hz
    split at hz
    ·simp at hz
     subst hz
     exact (hM.byt hj (q := a) (by rw [hr]; simp)).2.1
    ·cases hz
theorem LowV.skip {ps : List (Prs × Prs)} {i : Nat} {Ks : List Value} {lk : Value} {ix : List Nat} {p : Prs × Prs} (h : LowV ps i Ks lk ix) (hp : ps[i]? = some p) (he : p.2 = []) : LowV ps (i + 1) Ks lk ix := by
 rcases h with ⟨h, e⟩ | ⟨k, x, p', q, r, h, e⟩
 ·exact .inl ⟨h.skip hp he, e⟩
 ·exact .inr ⟨k, x, p', q, r, h.skip hp he, e⟩
theorem UmS.cmp {w : World} {col : Col} {mb how : Nat} {ms : List Mi} {ps : List (Prs × Prs)} {d : MD} {i : Nat} {p : Prs × Prs} {q : List Nat × Nat} {r : Prs} {v : Value} (hM : Mg w col mb how ms ps (fun _ => True) d) (hL : LowV ps i d.Ks d.lk d.ix) (hp : ps[i]? = some p) (hpr : p.2 = q :: r) (k1 : d.Ks[i]? = some v) (hk : KeyVal w col i v q.1) :
  ∃ (cv : Int) (z : Bool), (∀ n, Calls Tryz.prog 47 #[v, d.lk] (w.drewN n) fun e w' => e = .returned (.int .i64 cv) ∧ ∃ m, w' = w.drewN m) ∧ (∀ X : World, (binOp .eql 29 d.lk (.slice none 0 0)).run Tryz.prog X = .ok (.bool z) X) ∧
   ((z = true ∧ LowV ps (i + 1) d.Ks v [i]) ∨ (z = false ∧ cv = -1 ∧ LowV ps (i + 1) d.Ks v [i]) ∨ (z = false ∧ cv = 0 ∧ LowV ps (i + 1) d.Ks d.lk (d.ix ++ [i])) ∨ (z = false ∧ cv = 1 ∧ LowV ps (i + 1) d.Ks d.lk d.ix)) := by
 have hb := hM.byt hp (q := q) (by rw [hpr]; simp)
 have hd : ∀ (n : Nat) {u : Value} {l : List Nat}, Sby w u l → Sby (w.drewN n) u l := fun n u l h => by
  rcases h with ⟨b, o, c, e, h⟩ | h
  ·exact .inl ⟨b, o, c, e, ⟨h.1⟩⟩
  ·exact .inr h
 rcases hL.key hM with ⟨h1, h2⟩ | ⟨k, x, p', q', r', h1, h2, h3, h4, h5, h6⟩
 ·refine ⟨cmpL q.1 [], true, fun n => ?_, fun X => by rw [h2]; exact nil_eq1 X 0, .inl ⟨rfl, .inr ⟨q.1, i, p, q, r, h1.new hp hpr (fun k e => by cases e), k1, hp, hpr, rfl⟩⟩⟩
  refine (compare_calls (hd n hk.sby) (hd n (.inr ⟨rfl, 0, h2⟩)) hb.1 (fun a ha => by cases ha)).mono ?_
  rintro e w' ⟨rfl, rfl⟩
  exact ⟨rfl, n, rfl⟩
 ·have hb' := hM.byt h4 (q := q') (by rw [h5]; simp)
  rw [h6] at hb'
  have hz : ∀ X : World, (binOp .eql 29 d.lk (.slice none 0 0)).run Tryz.prog X = .ok (.bool false) X := fun X => by
   obtain ⟨g, c1, e, _⟩ := h2
   rw [e]; exact nil_eq0 X _ _ _
  refine ⟨cmpL q.1 k, false, fun n => ?_, hz, ?_⟩
  ·refine (compare_calls (hd n hk.sby) (hd n h2.sby) hb.1 hb'.1).mono ?_
   rintro e w' ⟨rfl, rfl⟩
   exact ⟨rfl, n, rfl⟩
  ·rcases klt_tri q.1 k with h | h | h
   ·exact .inr (.inl ⟨rfl, (cmpL_klt _ _).2 h, .inr ⟨q.1, i, p, q, r, h1.new hp hpr (fun k' e => by cases e; exact h), k1, hp, hpr, rfl⟩⟩)
   ·exact .inr (.inr (.inl ⟨rfl, (cmpL_eq _ _).2 h, .inr ⟨k, x, p', q', r', h1.more hp hpr h, h3, h4, h5, h6⟩⟩))
   ·exact .inr (.inr (.inr ⟨rfl, (cmpL_swap _ _).2 h, .inr ⟨k, x, p', q', r', h1.pass hp hpr h, h3, h4, h5, h6⟩⟩))
set_option maxHeartbeats 4000000 in
set_option maxRecDepth 100000 in
theorem upd_calls {w : World} {col : Col} {mb how : Nat} {ms : List Mi} {ps : List (Prs × Prs)} {d : MD} (hM : Mg w col mb how ms ps (fun _ => True) d) (hh : how ≤ 2) (hN1 : 1 ≤ ms.length) (hNm : ms.length ≤ 1048576) :
  Calls Tryz.prog 53 #[.pointer (some ⟨mb, 0, none⟩)] w fun e w' => e = .returned (.tuple #[]) ∧ UmPost w col mb how ms ps w' := by
 obtain ⟨A0, c0, e0, b0, b1, _⟩ := hM.itr.row.slc
 obtain ⟨A6, c6, e6, b2, b3, _⟩ := hM.li.row.slc
 obtain ⟨p0, hp0⟩ : ∃ p, ps[0]? = some p := ⟨_, List.getElem?_eq_getElem (by rw [hM.len]; omega)⟩
 obtain ⟨v0, u0, k1, k2, k3⟩ := hM.fre 0 p0 trivial hp0
 obtain ⟨AK, nK, cK, rfl⟩ := k3.slc
 obtain ⟨iv, iF, kb, vb, Ks, Vs, lk, lv, li, ix, liF, mv, mn, mF⟩ := d
 simp only at e0 e6 k1 k2 b0 b1 b2 b3
 subst e0 e6
 obtain ⟨N, hN⟩ : ∃ N, Hid (ms.length = N) := ⟨_, Lib.hid rfl⟩
 have HNm := Lib.hid hNm
 obtain ⟨nx, hnx⟩ : ∃ nx, Hid (ix.length = nx) := ⟨_, Lib.hid rfl⟩
 have HS0 : Hid (UmS w col mb how ms ps col ⟨.slice A0 ms.length c0, iF, kb, vb, Ks, Vs, lk, lv, .slice A6 ix.length c6, ix, liF, mv, mn, mF⟩ w) := Lib.hid ⟨hM, Kp.refl _ _ _⟩
 have rk : w.cell? ⟨kb, 0, none⟩ = some (.slice AK nK cK) := hM.ks.blk.cell 0 k1
 have HK := Lib.hid (And.intro hh (And.intro hN1 (And.intro hNm (And.intro k1 (And.intro k3 hp0)))))
 have hbl := HS0.out.1.blk.blk
 have r0 : (w).cell? ⟨mb, 0, none⟩ = some (.slice A0 N c0) := by have h := hbl.cell 0 rfl; rw [hN.out] at h; exact h
 have r2 : (w).cell? ⟨mb, 2, none⟩ = some (.slice (some ⟨kb, 0, none⟩) N N) := by have h := hbl.cell 2 rfl; rw [hN.out] at h; exact h
 have r4 : (w).cell? ⟨mb, 4, none⟩ = some (lk) := by have h := hbl.cell 4 rfl; rw [hN.out] at h; exact h
 have z4 := hbl.frz 4
 have r6 : (w).cell? ⟨mb, 6, none⟩ = some (.slice A6 nx c6) := by have h := hbl.cell 6 rfl; rw [hnx.out] at h; exact h
 have z6 := hbl.frz 6
 clear hbl
 have f1 : (0 : Int) < (N : Int) := by rw [hN.out] at hN1; omega
 have f2 : ¬ (N : Int) < 1 := by omega
 have f3 : (0 : Int) ≤ (c6 : Int) := by omega
 clear hM hh hN1 hNm k1 k2 k3 hp0 b0 b1 b2 b3
 go_enter Tryz.func53, Tryz.ntmps53
 go_upto_region 2 with fail
 refine wp_named (fun X => UmS w col mb how ms ps col ⟨.slice A0 ms.length c0, iF, kb, vb, Ks, Vs, .slice AK nK cK, lv, .slice A6 ix.length c6, ix, liF, mv, mn, mF⟩ X) (HS0.out.low _) ?_
 clear r0 r2 r4 z4 r6 z6 rk
 intro X1 hs
 have HS1 := Lib.hid hs
 clear hs
 have hbl := HS1.out.1.blk.blk
 have r0 : (X1).cell? ⟨mb, 0, none⟩ = some (.slice A0 N c0) := by have h := hbl.cell 0 rfl; rw [hN.out] at h; exact h
 have r2 : (X1).cell? ⟨mb, 2, none⟩ = some (.slice (some ⟨kb, 0, none⟩) N N) := by have h := hbl.cell 2 rfl; rw [hN.out] at h; exact h
 have r4 : (X1).cell? ⟨mb, 4, none⟩ = some (.slice AK nK cK) := by have h := hbl.cell 4 rfl; rw [hN.out] at h; exact h
 have z4 := hbl.frz 4
 have r6 : (X1).cell? ⟨mb, 6, none⟩ = some (.slice A6 nx c6) := by have h := hbl.cell 6 rfl; rw [hnx.out] at h; exact h
 have z6 := hbl.frz 6
 clear hbl
 go_upto_region 3 with fail
 refine wp_named (fun X => UmS w col mb how ms ps col ⟨.slice A0 ms.length c0, iF, kb, vb, Ks, Vs, .slice AK nK cK, lv, .slice A6 0 c6, [], liF, mv, mn, mF⟩ X) (HS1.out.cutIx rfl) ?_
 clear r0 r2 r4 z4 r6 z6 HS1 HS0
 intro X2 hs
 have HS2 := Lib.hid hs
 clear hs
 have hbl := HS2.out.1.blk.blk
 have r6 : (X2).cell? ⟨mb, 6, none⟩ = some (.slice A6 0 c6) := by have h := hbl.cell 6 rfl; rw [hN.out] at h; exact h
 have z6 := hbl.frz 6
 clear hbl
 have hrow : RowF X2 3 1 (.slice A6 0 c6) 0 liF := by have h := HS2.out.1.li.row; simp only at h; (try rw [hnx.out] at h); exact h
 have hne6 : Hid (¬ (Value.slice A6 0 c6).ownBlock = some mb) := Lib.hid (by have h := HS2.out.1.neIx; simp only at h; (try rw [hnx.out] at h); exact h)
 go_upto_region 4 with (at_builtin; (refine app1f X2 X2.heap.size rfl rfl _ _ 103 rfl 3 (.int .i64 0) 1 8 (by kernel_rfl) (by kernel_rfl) rfl (.slice A6 0 c6) 0 liF [.int .i64 0] rfl rfl hrow rfl (by simp [Value.oneCell']) (by omega) (by decide) ?_); intro v5 w5 full5 hr5 hF5 hc5; obtain ⟨A5n, cap5n, rfl⟩ := rowv hr5; have d5 : w5.cell? ⟨mb, 6, none⟩ = some (.slice A6 0 c6) := hF5.cell r6 (fun h => hne6.out h); have e5 : w5.frozen? ⟨mb, 6, none⟩ = false := (HS2.out.1.blk.blk.fr hF5 (fun h => hne6.out h)).frz 6; clear r6 z6)
 refine wp_named (fun X => ∃ (col1 : Col) (li : Value) (liF : List Value), UmS w col mb how ms ps col1 ⟨.slice A0 ms.length c0, iF, kb, vb, Ks, Vs, .slice AK nK cK, lv, li, [0], liF, mv, mn, mF⟩ X) ⟨_, _, _, HS2.out.appIx 0 hr5 hF5 hc5⟩ ?_
 clear hr5 hF5 hc5 hrow hne6 HS2 d5 e5
 intro X3 hs
 have HS3 := Lib.hid hs
 clear hs
 go_wp2_with fail
 refine wp_loop_ghost_k (fun g A wx => A.defers = [] ∧ A.tmps.size = 189 ∧ A.tmps[0]? = some (.pointer (some ⟨mb, 0, none⟩)) ∧ ∃ t2, A.tmps[2]? = some t2 ∧ UmI w col mb how ms ps g t2 wx) (ms.length - 1) ⟨rfl, rfl, rfl, _, rfl, ?_⟩ ?_
 ·obtain ⟨hh, hN1, hNm, k1, k3, hp0⟩ := HK.out
  obtain ⟨col1, li1, liF1, hM3, hK3⟩ := HS3.out
  exact ⟨1, col1, _, Nat.le_refl _, hN1, rfl, rfl, hM3, hK3, LowV.one hp0 k1 k3⟩
 clear HS3 f1 f2 f3
 rintro g ⟨tm, df⟩ wr ⟨hd, hsz, h0, t2, h2, hrel⟩ J KO hJ hK'
 simp only at hd hsz h0 h2
 subst hd
 obtain ⟨f, rfl⟩ := lit189 tm hsz
 have h0' : f 0 = .pointer (some ⟨mb, 0, none⟩) := Option.some.inj h0
 obtain ⟨i, col1, d, hi1, hiN, rfl, rfl, hM, hKp, hLV⟩ := hrel
 have h2' : f 2 = .int .i64 (i : Int) := Option.some.inj h2
 rw [h0', h2']
 clear h0 h2 h0' h2' hsz
 obtain ⟨A0, c0, e0, b0, b1, _⟩ := hM.itr.row.slc
 obtain ⟨A6, c6, e6, b2, b3, _⟩ := hM.li.row.slc
 have hlk : ∃ AL nL cL, d.lk = .slice AL nL cL := by
  rcases hLV.key hM with ⟨_, e⟩ | ⟨_, _, _, _, _, _, ⟨g, c1, e, _⟩, _⟩
  ·exact ⟨_, _, _, e⟩
  ·exact ⟨_, _, _, e⟩
 obtain ⟨AL, nL, cL, eL⟩ := hlk
 obtain ⟨iv, iF, kb, vb, Ks, Vs, lk, lv, li, ix, liF, mv, mn, mF⟩ := d
 simp only at e0 e6 b0 b1 b2 b3 hLV eL
 subst e0 e6 eL
 obtain ⟨nx, hnx⟩ : ∃ nx, Hid (ix.length = nx) := ⟨_, Lib.hid rfl⟩
 have hlen := (hLV.elim (fun h => h.1.len hi1) (fun ⟨_, _, _, _, _, h, _⟩ => h.len hi1))
 have HS : Hid (UmS w col mb how ms ps col1 ⟨.slice A0 ms.length c0, iF, kb, vb, Ks, Vs, .slice AL nL cL, lv, .slice A6 ix.length c6, ix, liF, mv, mn, mF⟩ wr) := Lib.hid ⟨hM, hKp⟩
 have HL := Lib.hid (And.intro hLV (And.intro hlen (And.intro hi1 hiN)))
 have hbl := HS.out.1.blk.blk
 have r0 : (wr).cell? ⟨mb, 0, none⟩ = some (.slice A0 N c0) := by have h := hbl.cell 0 rfl; rw [hN.out] at h; exact h
 have r2 : (wr).cell? ⟨mb, 2, none⟩ = some (.slice (some ⟨kb, 0, none⟩) N N) := by have h := hbl.cell 2 rfl; rw [hN.out] at h; exact h
 have r4 : (wr).cell? ⟨mb, 4, none⟩ = some (.slice AL nL cL) := by have h := hbl.cell 4 rfl; rw [hN.out] at h; exact h
 have z4 := hbl.frz 4
 have r6 : (wr).cell? ⟨mb, 6, none⟩ = some (.slice A6 nx c6) := by have h := hbl.cell 6 rfl; rw [hnx.out] at h; exact h
 have z6 := hbl.frz 6
 clear hbl
 clear b0 b1 b3
 by_cases hend : i = ms.length
 ·obtain ⟨vs, vs1, vs2, vs3, vs4⟩ := LowV.vals hM (by omega) (by rw [← hend]; exact hLV)
  simp only at vs1 vs2 vs4
  have HV := Lib.hid (And.intro vs1 (And.intro vs2 (And.intro vs3 vs4)))
  have d1 : ¬ (i : Int) < (N : Int) := by have := hN.out; omega
  by_cases hn1 : nx = 1
  ·subst hn1
   obtain ⟨x0, hx0⟩ : ∃ x, ix[0]? = some x := ⟨_, List.getElem?_eq_getElem (by rw [hnx.out]; decide)⟩
   obtain ⟨z, hz, hv⟩ := vs2 0 x0 hx0
   obtain ⟨g6, c6', q1, -, -, -, -, q2, -⟩ := hM.li.row.at_ (hM.lat 0 x0 hx0)
   simp only at q1
   injection q1 with q1 q3 q4
   subst q1
   have rv : wr.cell? ⟨vb, x0, none⟩ = some (.int .u64 (z : Int)) := hM.vs.blk.cell x0 hv
   have hx1 : (x0 : Int) < (N : Int) := by have h1 := (List.getElem?_eq_some_iff.1 hv).1; have h2 := hM.vl; simp only at h2; have := hN.out; omega
   have hvs : vs = [z] := by
    have hl : vs.length = 1 := by rw [vs1, hnx.out]
    match vs, hl, hz with
    | [a], _, hz => simp at hz; rw [hz]
   have r3 : wr.cell? ⟨mb, 3, none⟩ = some (.slice (some ⟨vb, 0, none⟩) N N) := by have h := hM.blk.blk.cell 3 rfl; rw [hN.out] at h; exact h
   have r5 : wr.cell? ⟨mb, 5, none⟩ = some (.int .u64 (lv : Int)) := hM.blk.blk.cell 5 rfl
   have z5 := hM.blk.blk.frz 5
   have HZ := Lib.hid (And.intro hvs hend)
   clear hM hKp hLV hlen hi1 hiN b2 vs1 vs2 vs3 vs4 hx0 hz hv q3 q4 hvs hend
   go_wp2_with fail
   refine wp_region_seqV (fun W => W.cell? ⟨mb, 3, none⟩ = some (.slice (some ⟨vb, 0, none⟩) N N) ∧ W.cell? ⟨mb, 6, none⟩ = some (.slice (some ⟨g6, 0, none⟩) 1 c6) ∧ W.cell? ⟨g6, 0, none⟩ = some (.int .i64 (x0 : Int)) ∧ W.cell? ⟨vb, x0, none⟩ = some (.int .u64 (z : Int))) (fun i => decide (i ≠ 15)) (fun i => ![4, 8, 10, 12].contains i && decide (i ≠ 15)) (fun i => decide (i = 15)) [0, 1, 2, 3, 4, 5, 6, 7, 8, 9, 10, 11, 12, 13, 14, 15] (by kernel_rfl) (by kernel_rfl) (fun c a d v w h => by cases d <;> exact h) ⟨r3, r6, q2, rv⟩ ?_
   iterate 3 (apply seqV_pure (ho := rfl) (hr := rfl) (hg := rfl); (intro w'; go_simp; rfl))
   go_simp
   iterate 1 (apply seqV_pure (ho := rfl) (hr := rfl) (hg := rfl); (intro w'; go_simp; rfl))
   (apply seqV_read (ho := rfl) (hr := rfl) (hp := rfl) (hg := rfl); (rintro w' ⟨q0, q1, q2, q3⟩; go_simp; rfl))
   go_simp
   iterate 3 (apply seqV_pure (ho := rfl) (hr := rfl) (hg := rfl); (intro w'; go_simp; rfl))
   (apply seqV_read (ho := rfl) (hr := rfl) (hp := rfl) (hg := rfl); (rintro w' ⟨q0, q1, q2, q3⟩; go_simp; rfl))
   go_simp
   iterate 1 (apply seqV_pure (ho := rfl) (hr := rfl) (hg := rfl); (intro w'; go_simp; rfl))
   (apply seqV_read (ho := rfl) (hr := rfl) (hp := rfl) (hg := rfl); (rintro w' ⟨q0, q1, q2, q3⟩; go_simp; rfl))
   go_simp
   iterate 1 (apply seqV_pure (ho := rfl) (hr := rfl) (hg := rfl); (intro w'; go_simp; rfl))
   (apply seqV_read (ho := rfl) (hr := rfl) (hp := rfl) (hg := rfl); (rintro w' ⟨q0, q1, q2, q3⟩; go_simp; rfl))
   go_simp
   iterate 2 (apply seqV_pure (ho := rfl) (hr := rfl) (hg := rfl); (intro w'; go_simp; rfl))
   refine seqV_do rfl rfl fun K hK => ?_
   go_simp
   refine hK _ _ (fun h => by cases h) ?_
   clear hK K
   unfold seqV
   go_simp
   go_wp2_with fail
   go_end0
   obtain ⟨hvs, hend⟩ := HZ.out
   exact ⟨rfl, UmPost.mk (HS.out.lowv z).drew HV.out.2.2.2 (by simp only; rw [hvs]; rfl)⟩
  ·obtain ⟨x0, hx0⟩ : ∃ x, ix[0]? = some x := ⟨_, List.getElem?_eq_getElem (by omega)⟩
   obtain ⟨g6, c6', q1, -⟩ := hM.li.row.at_ (hM.lat 0 x0 hx0)
   simp only at q1
   injection q1 with q1 q3 q4
   subst q1
   clear q3 q4
   obtain ⟨A7, c7, e7, m0, m1, _⟩ := hM.mv.row.slc
   simp only at e7 m0 m1
   subst e7
   have r7 : wr.cell? ⟨mb, 7, none⟩ = some (.slice A7 mn c7) := hM.blk.blk.cell 7 rfl
   have z7 := hM.blk.blk.frz 7
   have e2 : (1 : Int) < (nx : Int) := by have := hnx.out; omega
   have e3 : (0 : Int) ≤ (c7 : Int) := by omega
   have HZ := Lib.hid (And.intro hend (And.intro hn1 (And.intro hlen (And.intro hi1 hx0))))
   clear hM hKp hLV hlen hi1 hiN b2 vs1 vs2 vs3 vs4 hx0 hend m0 m1
   go_upto_region 17 with fail
   refine wp_named (fun X => UmS w col mb how ms ps col1 ⟨.slice A0 ms.length c0, iF, kb, vb, Ks, Vs, .slice AL nL cL, lv, .slice (some ⟨g6, 0, none⟩) ix.length c6, ix, liF, .slice A7 0 c7, 0, mF⟩ X) (HS.out.cutMv rfl) ?_
   clear r0 r2 r4 z4 r6 z6 r7 z7 HS
   intro X1 hs
   have HS1 := Lib.hid hs
   clear hs
   have r6 : X1.cell? ⟨mb, 6, none⟩ = some (.slice (some ⟨g6, 0, none⟩) nx c6) := by have h := HS1.out.1.blk.blk.cell 6 rfl; rw [hnx.out] at h; exact h
   go_wp2_with fail
   clear r6 e2 e3 d1
   refine wp_loop_ghost_k (fun g A wx => A.defers = [] ∧ A.tmps.size = 189 ∧ A.tmps[0]? = some (.pointer (some ⟨mb, 0, none⟩)) ∧ A.tmps[133]? = some (.slice (some ⟨g6, 0, none⟩) nx c6) ∧ A.tmps[134]? = some (.int .i64 (nx : Int)) ∧ ∃ t, A.tmps[135]? = some t ∧ UmJ w col mb how ms ps ⟨.slice A0 ms.length c0, iF, kb, vb, Ks, Vs, .slice AL nL cL, lv, .slice (some ⟨g6, 0, none⟩) ix.length c6, ix, liF, .slice A7 0 c7, 0, mF⟩ vs nx g t wx) nx ⟨rfl, rfl, rfl, rfl, rfl, _, rfl, 0, col1, _, mF, Nat.zero_le _, rfl, rfl, HS1.out, fun m z h => by omega⟩ ?_
   clear HS1 hJ
   rintro g ⟨tm, df⟩ wr2 ⟨hd, hsz, h0, h133, h134, t, h135, hrel⟩ J2 KO2 hJ2 hK2
   simp only at hd hsz h0 h133 h134 h135
   subst hd
   obtain ⟨f2, rfl⟩ := lit189 tm hsz
   have h0' : f2 0 = .pointer (some ⟨mb, 0, none⟩) := Option.some.inj h0
   have h1' : f2 133 = .slice (some ⟨g6, 0, none⟩) nx c6 := Option.some.inj h133
   have h2' : f2 134 = .int .i64 (nx : Int) := Option.some.inj h134
   obtain ⟨j, col2, mv2, mF2, hj, rfl, rfl, hS, hvl⟩ := hrel
   have h3' : f2 135 = .int .i64 (j : Int) := Option.some.inj h135
   rw [h0', h1', h2', h3']
   clear h0 h133 h134 h135 h0' h1' h2' h3' hsz
   obtain ⟨A7', c7', e7, m0, m1, _⟩ := hS.1.mv.row.slc
   simp only at e7 m0 m1
   subst e7
   have HS2 := Lib.hid hS
   have HVl := Lib.hid hvl
   by_cases hjn : j = nx
   ·subst hjn
    have d1 : ¬ (j : Int) < (j : Int) := by omega
    obtain ⟨z0, hz0, -⟩ := HV.out.2.1 0 x0 HZ.out.2.2.2.2
    obtain ⟨g7, c7'', q1, m2, m3, -, -, -, -⟩ := hS.1.mv.row.at_ (hvl 0 z0 (by have := HZ.out.2.2.1; have := hnx.out; omega) hz0)
    simp only at q1
    injection q1 with q1 q3 q4
    subst q1 q4
    clear q3
    have hnum : ∀ X, Fr (fun _ => False) wr2 X → NumsV X (.slice (some ⟨g7, 0, none⟩) j c7') vs := fun X hX => by
     have hl : vs.length = j := HV.out.1.trans hnx.out
     rw [← hl]
     refine .inl ⟨g7, 0, c7', rfl, fun m z hm => ?_, ?_, by omega, m3⟩
     ·have hb := hS.1.mv.row.at_ (hvl m z (by have := (List.getElem?_eq_some_iff.1 hm).1; omega) hm)
      obtain ⟨g, c, e, -, -, -, -, k, -⟩ := hb
      simp only at e
      injection e with e
      injection e with e
      injection e with e
      subst e
      rw [Nat.zero_add]
      exact hX.cell k (fun h => h)
     ·have := hS.1.mv.row.lt (k := g7) rfl
      have := hX.size
      omega
    have hcall : ∀ X, Fr (fun _ => False) wr2 X → Calls Tryz.prog (fnOf how) #[.slice (some ⟨g7, 0, none⟩) j c7'] X fun e w' => e = .returned (.int .u64 (jn how vs : Int)) ∧ w' = X := fun X hX => fn_calls HK.out.1 (hnum X hX) (by have := HV.out.1; have := hnx.out; have := HZ.out; omega) (by have := HV.out.1; have := hnx.out; have := HL.out; have := HNm.out; omega) HV.out.2.2.1
    have r7 : wr2.cell? ⟨mb, 7, none⟩ = some (.slice (some ⟨g7, 0, none⟩) j c7') := hS.1.blk.blk.cell 7 rfl
    have r1 : wr2.cell? ⟨mb, 1, none⟩ = some (.func (.func (fnOf how)) #[] #[]) := hS.1.blk.blk.cell 1 rfl
    have r5 : wr2.cell? ⟨mb, 5, none⟩ = some (.int .u64 (lv : Int)) := hS.1.blk.blk.cell 5 rfl
    have z5 := hS.1.blk.blk.frz 5
    have HCl := Lib.hid hcall
    clear hS hvl m0 m1 m2 m3 hz0 hnum hcall hj
    go_wp2_with fail
    rcases (by have := HK.out.1; omega : how = 0 ∨ how = 1 ∨ how = 2) with rfl | rfl | rfl
    all_goals (
     simp only [fnOf] at r1 HCl
     refine wp_region_seqV (fun W => W.cell? ⟨mb, 1, none⟩ = some (.func (.func _) #[] #[]) ∧ W.cell? ⟨mb, 7, none⟩ = some (.slice (some ⟨g7, 0, none⟩) j c7')) (fun i => decide (i ≠ 9 ∧ i ≠ 12)) (fun i => ![4, 8].contains i && decide (i ≠ 9 ∧ i ≠ 12)) (fun i => decide (i = 12)) [0, 1, 2, 3, 4, 5, 6, 7, 8, 9, 10, 11, 12] (by kernel_rfl) (by kernel_rfl) (fun c a d v w h => by cases d <;> exact h) ⟨r1, r7⟩ ?_
     iterate 3 (apply seqV_pure (ho := rfl) (hr := rfl) (hg := rfl); (intro w'; go_simp; rfl))
     go_simp
     iterate 1 (apply seqV_pure (ho := rfl) (hr := rfl) (hg := rfl); (intro w'; go_simp; rfl))
     (apply seqV_read (ho := rfl) (hr := rfl) (hp := rfl) (hg := rfl); (rintro w' ⟨q0, q1⟩; go_simp; rfl))
     go_simp
     iterate 3 (apply seqV_pure (ho := rfl) (hr := rfl) (hg := rfl); (intro w'; go_simp; rfl))
     (apply seqV_read (ho := rfl) (hr := rfl) (hp := rfl) (hg := rfl); (rintro w' ⟨q0, q1⟩; go_simp; rfl))
     go_simp
     refine seqV_do rfl rfl fun K hK => ?_
     go_simp
     go_simp
     refine (HCl.out _ (Fr.refl (fun _ => False) wr2).drew).mono ?_
     rintro e w3 ⟨rfl, rfl⟩
     refine hK _ _ (fun _ => ⟨r1, r7⟩) ?_
     clear hK K
     go_simp
     iterate 2 (apply seqV_pure (ho := rfl) (hr := rfl) (hg := rfl); (intro w'; go_simp; rfl))
     refine seqV_do rfl rfl fun K hK => ?_
     go_simp
     refine hK _ _ (fun h => by cases h) ?_
     clear hK K
     unfold seqV
     go_simp
     go_wp2_with fail
     go_end0
     exact ⟨rfl, UmPost.mk (HS2.out.lowv _).drew HV.out.2.2.2 rfl⟩)
   ·obtain ⟨x, hx⟩ : ∃ x, ix[j]? = some x := ⟨_, List.getElem?_eq_getElem (by have := hnx.out; omega)⟩
    obtain ⟨z, hz, hv⟩ := HV.out.2.1 j x hx
    obtain ⟨g6', c6', q1, -, -, -, -, q2, -⟩ := hS.1.li.row.at_ (hS.1.lat j x hx)
    simp only at q1
    injection q1 with q1 q3 q4
    injection q1 with q1
    injection q1 with q1
    subst q1
    clear q3 q4
    have rv : wr2.cell? ⟨vb, x, none⟩ = some (.int .u64 (z : Int)) := hS.1.vs.blk.cell x hv
    have hx1 : (x : Int) < (N : Int) := by have h1 := (List.getElem?_eq_some_iff.1 hv).1; have h2 := hS.1.vl; simp only at h2; have := hN.out; omega
    have r3 : wr2.cell? ⟨mb, 3, none⟩ = some (.slice (some ⟨vb, 0, none⟩) N N) := by have h := hS.1.blk.blk.cell 3 rfl; rw [hN.out] at h; exact h
    have r7 : wr2.cell? ⟨mb, 7, none⟩ = some (.slice A7' j c7') := hS.1.blk.blk.cell 7 rfl
    have z7 := hS.1.blk.blk.frz 7
    have d1 : (j : Int) < (nx : Int) := by omega
    have d2 : IntKind.i64.wrap ((j : Int) + 1) = ((j + 1 : Nat) : Int) := by have := HNm.out; have := HL.out; have := hnx.out; rw [IntWalk.i64_in _ (by omega)]; omega
    have hrow : RowF wr2 40 1 (.slice A7' j c7') j mF2 := hS.1.mv.row
    have hne7 : Hid (¬ (Value.slice A7' j c7').ownBlock = some mb) := Lib.hid hS.1.neMv
    have hnv : Hid (¬ (Value.slice A7' j c7').ownBlock = some vb) := Lib.hid fun e => by
     have h1 := hS.1.mv.col vb e
     have h2 := hS.1.vs.col
     simp only at h2
     rw [h2] at h1; omega
    have hA : ∀ ob, (wr2.alloc ob).cell? ⟨mb, 7, none⟩ = some (.slice A7' j c7') ∧ (wr2.alloc ob).cell? ⟨mb, 3, none⟩ = some (.slice (some ⟨vb, 0, none⟩) N N) ∧ (wr2.alloc ob).cell? ⟨vb, x, none⟩ = some (.int .u64 (z : Int)) := fun ob => ⟨((Fr.refl (fun _ => False) wr2).alloc ob).cell r7 (fun h => h), ((Fr.refl (fun _ => False) wr2).alloc ob).cell r3 (fun h => h), ((Fr.refl (fun _ => False) wr2).alloc ob).cell rv (fun h => h)⟩
    have HJ := Lib.hid (And.intro hx (And.intro hz hv))
    clear hS hvl hx hz hv m0 m1
    go_wp2_with fail
    refine wp_region_seqV (fun W => W.cell? ⟨mb, 7, none⟩ = some (.slice A7' j c7') ∧ W.cell? ⟨mb, 3, none⟩ = some (.slice (some ⟨vb, 0, none⟩) N N) ∧ W.cell? ⟨vb, x, none⟩ = some (.int .u64 (z : Int))) (fun i => decide (i ≠ 12 ∧ i ≠ 13 ∧ i ≠ 16)) (fun i => ![4, 8, 11].contains i && decide (i ≠ 12 ∧ i ≠ 13 ∧ i ≠ 16)) (fun i => decide (i = 16)) [0, 1, 2, 3, 4, 5, 6, 7, 8, 9, 10, 11, 12, 13, 14, 15, 16] (by kernel_rfl) (by kernel_rfl) (fun c a d v w h => by cases d <;> exact h) ⟨r7, r3, rv⟩ ?_
    iterate 3 (apply seqV_pure (ho := rfl) (hr := rfl) (hg := rfl); (intro w'; go_simp; rfl))
    go_simp
    iterate 1 (apply seqV_pure (ho := rfl) (hr := rfl) (hg := rfl); (intro w'; go_simp; rfl))
    (apply seqV_read (ho := rfl) (hr := rfl) (hp := rfl) (hg := rfl); (rintro w' ⟨q0, q1, q2⟩; go_simp; rfl))
    go_simp
    iterate 3 (apply seqV_pure (ho := rfl) (hr := rfl) (hg := rfl); (intro w'; go_simp; rfl))
    (apply seqV_read (ho := rfl) (hr := rfl) (hp := rfl) (hg := rfl); (rintro w' ⟨q0, q1, q2⟩; go_simp; rfl))
    go_simp
    iterate 2 (apply seqV_pure (ho := rfl) (hr := rfl) (hg := rfl); (intro w'; go_simp; rfl))
    (apply seqV_read (ho := rfl) (hr := rfl) (hp := rfl) (hg := rfl); (rintro w' ⟨q0, q1, q2⟩; go_simp; rfl))
    go_simp
    refine seqV_do rfl rfl fun K hK => ?_
    go_simp
    refine hK _ _ (fun _ => hA _) ?_
    clear hK K
    go_simp
    refine seqV_do rfl rfl fun K hK => ?_
    rw [if_pos (show Region.wanted _ _ = true from rfl)]
    refine step_app1f wr2.drew rfl _ _ 43 rfl 40 (.int .u64 0) 1 8 (by kernel_rfl) (by kernel_rfl) rfl (.slice A7' j c7') j mF2 [.int .u64 (z : Int)] rfl rfl hrow rfl (by simp [Value.oneCell']) (by have := HNm.out; have := HL.out; have := hnx.out; omega) (by decide) ?_
    intro v5 w5 full5 hr5 hF5 hc5
    obtain ⟨A5n, cap5n, rfl⟩ := rowv hr5
    have d7 : w5.cell? ⟨mb, 7, none⟩ = some (.slice A7' j c7') := hF5.cell r7 (fun h => hne7.out h)
    have e7 : w5.frozen? ⟨mb, 7, none⟩ = false := (HS2.out.1.blk.blk.drew.fr hF5 (fun h => hne7.out h)).frz 7
    refine hK _ _ (fun _ => ⟨d7, hF5.cell r3 (fun h => hne7.out h), hF5.cell rv (fun h => hnv.out h)⟩) ?_
    clear r7 z7 r3 rv hA
    clear hK K
    go_simp
    iterate 2 (apply seqV_pure (ho := rfl) (hr := rfl) (hg := rfl); (intro w'; go_simp; rfl))
    refine seqV_do rfl rfl fun K hK => ?_
    go_simp
    refine hK _ _ (fun h => by cases h) ?_
    clear hK K
    unfold seqV
    go_simp
    go_wp2_with fail
    obtain ⟨hS3, hAp, hle⟩ := HS2.out.drew.appMv (x := .int .u64 (z : Int)) hr5 hF5 hc5
    refine Handed.intro (nx - (j + 1)) (by omega) (hJ2 _ _ _ ⟨rfl, rfl, rfl, rfl, rfl, _, rfl, j + 1, _, _, full5, by omega, rfl, rfl, hS3, fun m z' hm hz' => ?_⟩)
    rcases Nat.lt_or_ge m j with hlt | hge
    ·rw [hAp.lt hle hlt]; exact HVl.out m z' hlt hz'
    ·obtain rfl : m = j := by omega
     rw [HJ.out.2.1] at hz'
     injection hz' with hz'
     subst hz'
     exact hAp.at_ hle
 ·obtain ⟨p, hp⟩ : ∃ p, ps[i]? = some p := ⟨_, List.getElem?_eq_getElem (by rw [hM.len]; omega)⟩
  obtain ⟨v1, u1, k1, k2, k3⟩ := hM.fre i p trivial hp
  obtain ⟨AK, nK, cK, rfl⟩ := k3.slc
  have rk : wr.cell? ⟨kb, i, none⟩ = some (.slice AK nK cK) := hM.ks.blk.cell i k1
  have d1 : (i : Int) < (N : Int) := by have := hN.out; omega
  have d2 : IntKind.i64.wrap ((i : Int) + 1) = ((i + 1 : Nat) : Int) := by have := HNm.out; rw [IntWalk.i64_in _ (by omega)]; omega
  have HP := Lib.hid (And.intro hp (And.intro k1 (And.intro k3 hend)))
  cases hpr : p.2 with
  | nil =>
   rw [hpr] at k3
   obtain ⟨e1, -⟩ := k3
   injection e1 with e1 e2 e3
   subst e1 e2 e3
   have q1 := nil_eq1 wr 0
   have HR := Lib.hid hpr
   clear hM hKp hLV hlen hi1 hiN hp k1 k2 hpr hend b2
   go_wp2_with fail
   refine Handed.intro (ms.length - (i + 1)) (by have := HP.out.2.2.2; have := HL.out.2.2.2; omega) (hJ _ _ _ ⟨rfl, rfl, rfl, _, rfl, i + 1, col1, _, by omega, by have := HP.out.2.2.2; have := HL.out.2.2.2; omega, rfl, rfl, HS.out.1, HS.out.2, HL.out.1.skip HP.out.1 HR.out⟩)
  | cons q r =>
   rw [hpr] at k3
   obtain ⟨cv, z, hq, hz, hcs⟩ := UmS.cmp hM hLV hp hpr k1 k3.1
   simp only at hq hz hcs
   obtain ⟨⟨gk, ck, ek, -⟩, -⟩ := k3
   injection ek with ek1 ek2 ek3
   subst ek1
   have q1 := nil_eq0 wr ⟨gk, 0, none⟩ nK cK
   have HC := Lib.hid (And.intro hz hcs)
   clear hM hKp hLV hlen hi1 hiN hp k1 k2 hpr hend b2 ek2 ek3 hz hcs
   go_wp2_with fail
   go_quiet ((go_at_call 47; exact hq _))
   rename_i nq
   have HS1 := Lib.hid (HS.out.drewN nq)
   clear r0 r2 r4 z4 r6 z6 HS rk q1 hq
   generalize wr.drewN nq = X1 at *
   have hbl := HS1.out.1.blk.blk
   have r0 : (X1).cell? ⟨mb, 0, none⟩ = some (.slice A0 N c0) := by have h := hbl.cell 0 rfl; rw [hN.out] at h; exact h
   have r2 : (X1).cell? ⟨mb, 2, none⟩ = some (.slice (some ⟨kb, 0, none⟩) N N) := by have h := hbl.cell 2 rfl; rw [hN.out] at h; exact h
   have r4 : (X1).cell? ⟨mb, 4, none⟩ = some (.slice AL nL cL) := by have h := hbl.cell 4 rfl; rw [hN.out] at h; exact h
   have z4 := hbl.frz 4
   have r6 : (X1).cell? ⟨mb, 6, none⟩ = some (.slice A6 nx c6) := by have h := hbl.cell 6 rfl; rw [hnx.out] at h; exact h
   have z6 := hbl.frz 6
   clear hbl
   have rk : X1.cell? ⟨kb, i, none⟩ = some (.slice (some ⟨gk, 0, none⟩) nK cK) := HS1.out.1.ks.blk.cell i HP.out.2.1
   obtain ⟨hz, hcs⟩ := HC.out
   have q2 := hz X1
   clear HC hz
   rcases hcs with ⟨rfl, hn⟩ | ⟨rfl, rfl, hn⟩ | ⟨rfl, rfl, hn⟩ | ⟨rfl, rfl, hn⟩
   case' inr.inr.inr =>
    have HV := Lib.hid hn
    clear hn
    go_wp2_with fail
    exact Handed.intro (ms.length - (i + 1)) (by have := HP.out.2.2.2; have := HL.out.2.2.2; omega) (hJ _ _ _ ⟨rfl, rfl, rfl, _, rfl, i + 1, col1, _, by omega, by have := HP.out.2.2.2; have := HL.out.2.2.2; omega, rfl, rfl, HS1.out.1, HS1.out.2, HV.out⟩)
   case' inr.inr.inl =>
    have HV := Lib.hid hn
    clear hn
    have hrow : RowF X1 3 1 (.slice A6 nx c6) nx liF := by have h := HS1.out.1.li.row; simp only at h; (try rw [hnx.out] at h); exact h
    have hne6 : Hid (¬ (Value.slice A6 nx c6).ownBlock = some mb) := Lib.hid (by have h := HS1.out.1.neIx; simp only at h; (try rw [hnx.out] at h); exact h)
    go_upto_region 6 with (at_builtin; (refine app1f X1 X1.heap.size rfl rfl _ _ 103 rfl 3 (.int .i64 0) 1 8 (by kernel_rfl) (by kernel_rfl) rfl (.slice A6 nx c6) nx liF [.int .i64 (i : Int)] rfl rfl hrow rfl (by simp [Value.oneCell']) (by have := HL.out; have := HNm.out; have := hnx.out; omega) (by decide) ?_); intro v5 w5 full5 hr5 hF5 hc5; obtain ⟨A5n, cap5n, rfl⟩ := rowv hr5; have d5 : w5.cell? ⟨mb, 6, none⟩ = some (.slice A6 nx c6) := hF5.cell r6 (fun h => hne6.out h); have e5 : w5.frozen? ⟨mb, 6, none⟩ = false := (HS1.out.1.blk.blk.fr hF5 (fun h => hne6.out h)).frz 6; clear r6 z6)
    refine wp_named (fun X => ∃ (col2 : Col) (li : Value) (liF : List Value), UmS w col mb how ms ps col2 ⟨.slice A0 ms.length c0, iF, kb, vb, Ks, Vs, .slice AL nL cL, lv, li, ix ++ [i], liF, mv, mn, mF⟩ X) ⟨_, _, _, HS1.out.appIx i (by show RowF _ 3 1 _ (ix.length + 1) _; rw [hnx.out]; exact hr5) (by show Fr (fun q => (Value.slice A6 ix.length c6).ownBlock = some q) _ _; rw [hnx.out]; exact hF5) (by simp only; rw [hnx.out]; exact hc5)⟩ ?_
    clear hr5 hF5 hc5 hrow hne6 d5 e5 HS1 rk r0 r2 r4 z4
    intro X4 hs
    have HS4 := Lib.hid hs
    clear hs
    go_wp2_with fail
    obtain ⟨col2, li2, liF2, hM2, hK2⟩ := HS4.out
    exact Handed.intro (ms.length - (i + 1)) (by have := HP.out.2.2.2; have := HL.out.2.2.2; omega) (hJ _ _ _ ⟨rfl, rfl, rfl, _, rfl, i + 1, col2, _, by omega, by have := HP.out.2.2.2; have := HL.out.2.2.2; omega, rfl, rfl, hM2, hK2, HV.out⟩)
   any_goals (
    have HV : Hid (LowV ps (i + 1) Ks (.slice (some ⟨gk, 0, none⟩) nK cK) [i]) := Lib.hid hn
    clear hn
    go_upto_region 11 with fail
    refine wp_named (fun X => UmS w col mb how ms ps col1 ⟨.slice A0 ms.length c0, iF, kb, vb, Ks, Vs, .slice (some ⟨gk, 0, none⟩) nK cK, lv, .slice A6 ix.length c6, ix, liF, mv, mn, mF⟩ X) (HS1.out.low _) ?_
    clear r0 r2 r4 z4 r6 z6 rk q2 HS1
    intro X2 hs
    have HS2 := Lib.hid hs
    clear hs
    have hbl := HS2.out.1.blk.blk
    have r6 : (X2).cell? ⟨mb, 6, none⟩ = some (.slice A6 nx c6) := by have h := hbl.cell 6 rfl; rw [hnx.out] at h; exact h
    have z6 := hbl.frz 6
    clear hbl
    have f3 : (0 : Int) ≤ (c6 : Int) := by omega
    go_upto_region 12 with fail
    refine wp_named (fun X => UmS w col mb how ms ps col1 ⟨.slice A0 ms.length c0, iF, kb, vb, Ks, Vs, .slice (some ⟨gk, 0, none⟩) nK cK, lv, .slice A6 0 c6, [], liF, mv, mn, mF⟩ X) (HS2.out.cutIx rfl) ?_
    clear r6 z6 HS2
    intro X3 hs
    have HS3 := Lib.hid hs
    clear hs
    have hbl := HS3.out.1.blk.blk
    have r6 : (X3).cell? ⟨mb, 6, none⟩ = some (.slice A6 0 c6) := by have h := hbl.cell 6 rfl; rw [hN.out] at h; exact h
    have z6 := hbl.frz 6
    clear hbl
    have hrow : RowF X3 3 1 (.slice A6 0 c6) 0 liF := by have h := HS3.out.1.li.row; simp only at h; (try rw [hnx.out] at h); exact h
    have hne6 : Hid (¬ (Value.slice A6 0 c6).ownBlock = some mb) := Lib.hid (by have h := HS3.out.1.neIx; simp only at h; (try rw [hnx.out] at h); exact h)
    go_upto_region 6 with (at_builtin; (refine app1f X3 X3.heap.size rfl rfl _ _ 103 rfl 3 (.int .i64 0) 1 8 (by kernel_rfl) (by kernel_rfl) rfl (.slice A6 0 c6) 0 liF [.int .i64 (i : Int)] rfl rfl hrow rfl (by simp [Value.oneCell']) (by have := HL.out; have := HNm.out; have := hnx.out; omega) (by decide) ?_); intro v5 w5 full5 hr5 hF5 hc5; obtain ⟨A5n, cap5n, rfl⟩ := rowv hr5; have d5 : w5.cell? ⟨mb, 6, none⟩ = some (.slice A6 0 c6) := hF5.cell r6 (fun h => hne6.out h); have e5 : w5.frozen? ⟨mb, 6, none⟩ = false := (HS3.out.1.blk.blk.fr hF5 (fun h => hne6.out h)).frz 6; clear r6 z6)
    refine wp_named (fun X => ∃ (col2 : Col) (li : Value) (liF : List Value), UmS w col mb how ms ps col2 ⟨.slice A0 ms.length c0, iF, kb, vb, Ks, Vs, .slice (some ⟨gk, 0, none⟩) nK cK, lv, li, [i], liF, mv, mn, mF⟩ X) ⟨_, _, _, HS3.out.appIx i hr5 hF5 hc5⟩ ?_
    clear hr5 hF5 hc5 hrow hne6 d5 e5 HS3
    intro X4 hs
    have HS4 := Lib.hid hs
    clear hs
    go_wp2_with fail
    obtain ⟨col2, li2, liF2, hM2, hK2⟩ := HS4.out
    exact Handed.intro (ms.length - (i + 1)) (by have := HP.out.2.2.2; have := HL.out.2.2.2; omega) (hJ _ _ _ ⟨rfl, rfl, rfl, _, rfl, i + 1, col2, _, by omega, by have := HP.out.2.2.2; have := HL.out.2.2.2; omega, rfl, rfl, hM2, hK2, HV.out⟩))
end Go.Proofs.YtmhlnijpimjjaaaGreatDoor
