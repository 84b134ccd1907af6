/- The merge iterator's steps on its state. No condition. The merge iterator's init (f46). Condition: at most 2^20 iterators. -/
import Derived.Test.YtmhlnijpimjjaaaGreatDoorM30
set_option linter.unusedSimpArgs false
set_option linter.unusedVariables false
namespace Go.Proofs.YtmhlnijpimjjaaaGreatDoor
section
open Go.RowKit Fmt
theorem mt_cur (a : Addr) (w : World) : (method 121 75 (.pointer (some a)) "Current").run Tryz.prog w = .ok (128, .pointer (some a)) w := by kernel_rfl
theorem nt_cur (a : Addr) (w : World) : (nilAhead 121 75 (.pointer (some a)) "Current").run Tryz.prog w = .ok (some false) w := by kernel_rfl
theorem mt_nxt (a : Addr) (w : World) : (method 121 75 (.pointer (some a)) "Next").run Tryz.prog w = .ok (130, .pointer (some a)) w := by kernel_rfl
theorem nt_nxt (a : Addr) (w : World) : (nilAhead 121 75 (.pointer (some a)) "Next").run Tryz.prog w = .ok (some false) w := by kernel_rfl
theorem mt_cls (a : Addr) (w : World) : (method 121 75 (.pointer (some a)) "Close").run Tryz.prog w = .ok (127, .pointer (some a)) w := by kernel_rfl
theorem nt_cls (a : Addr) (w : World) : (nilAhead 121 75 (.pointer (some a)) "Close").run Tryz.prog w = .ok (some false) w := by kernel_rfl
section
variable {w w1 : World} {col col1 : Col} {mb how : Nat} {ms : List Mi} {ps : List (Prs × Prs)} {fr : Nat → Prop} {d : MD}
theorem Mg.imp {fr' : Nat → Prop} (h : Mg w col mb how ms ps fr d) (hi : ∀ i, fr' i → fr i) : Mg w col mb how ms ps fr' d := { h with fre := fun i p h1 h2 => h.fre i p (hi i h1) h2 }
/-- New blocks, of the rubbish's colour. -/
theorem Mg.news (h : Mg w col mb how ms ps fr d) (hF : Fr (fun _ => False) w w1) : Mg w1 (paint w.heap.size 56 col) mb how ms ps fr d ∧ Kp (fun c => c = 56) col w (paint w.heap.size 56 col) w1 := by
 have k : Kp (fun c => c = 56) col w (paint w.heap.size 56 col) w1 := Kp.news hF 56 rfl
 have k0 : Kp (fun _ => False) col w (paint w.heap.size 56 col) w1 → True := fun _ => trivial
 clear k0
 have hn : ∀ c, c ≠ 56 → ¬ (c = 56) := fun c e => e
 exact ⟨{ h with
  blk := h.blk.kp k (by decide)
  itr := h.itr.kp k (by decide)
  its := fun i m p h1 h2 => (h.its i m p h1 h2).kp k (fun c h3 h4 => by unfold kc at h3; omega) (by decide)
  ks := h.ks.kp k (by decide)
  vs := h.vs.kp k (by decide)
  fre := fun i p h1 h2 => by
   obtain ⟨v, u, e1, e2, e3⟩ := h.fre i p h1 h2
   exact ⟨v, u, e1, e2, e3.kp k (by unfold kc; omega)⟩
  li := h.li.kp k (by decide)
  mv := h.mv.kp k (by decide) }, k⟩
/-- One iterator has moved. -/
theorem Mg.next (h : Mg w col mb how ms ps fr d) {x : Nat} (k : Kp (itc (kc x)) col w col1 w1) {m : Mi} (hm : ms[x]? = some m) {g r : Prs} (hi : MiAt w1 col1 x m g r) : Mg w1 col1 mb how ms (ps.set x (g, r)) (fun i => fr i ∧ i ≠ x) d := by
 have hn : ∀ c, c < 100 → ¬ itc (kc x) c := fun c hc hh => by unfold itc kc at hh; omega
 refine { blk := h.blk.kp k (hn _ (by decide)), itr := h.itr.kp k (hn _ (by decide)), iat := h.iat, len := by rw [List.length_set]; exact h.len, its := fun i m' p h1 h2 => ?_, ks := h.ks.kp k (hn _ (by decide)), kl := h.kl, vs := h.vs.kp k (hn _ (by decide)), vl := h.vl, fre := fun i p h1 h2 => ?_, li := h.li.kp k (hn _ (by decide)), lat := h.lat, mv := h.mv.kp k (hn _ (by decide)) }
 ·by_cases hx : x = i
  ·subst hx
   rw [List.getElem?_set_self' ] at h2
   rw [hm] at h1
   injection h1 with h1
   subst h1
   cases hp : ps[x]? with
   | none => rw [hp] at h2; simp at h2
   | some q => rw [hp] at h2; simp at h2; subst h2; exact hi
  ·rw [List.getElem?_set_ne hx] at h2
   exact (h.its i m' p h1 h2).kp k (fun c h3 h4 hh => by unfold itc kc at hh; unfold kc at h3 h4; omega) (hn _ (by decide))
 ·rw [List.getElem?_set_ne (fun e => h1.2 e.symm)] at h2
  obtain ⟨v, u, e1, e2, e3⟩ := h.fre i p h1.1 h2
  exact ⟨v, u, e1, e2, e3.kp k (fun hh => by have := h1.2; unfold itc kc at hh; omega)⟩
/-- One iterator's pair is laid. -/
theorem Mg.setK (h : Mg w col mb how ms ps fr d) {j : Nat} (hj : j < ms.length) {p : Prs × Prs} (hp : ps[j]? = some p) {v u : Value} (hk : KeyAt w col j v u p.2) :
  Mg ((w.setCell ⟨d.kb, j, none⟩ v).setCell ⟨d.vb, j, none⟩ u) col mb how ms ps (fun i => fr i ∨ i = j) { d with Ks := d.Ks.set j v, Vs := d.Vs.set j u } ∧ Kp (fun c => c = 51 ∨ c = 52) col w col ((w.setCell ⟨d.kb, j, none⟩ v).setCell ⟨d.vb, j, none⟩ u) := by
 have k : Kp (fun c => c = 51 ∨ c = 52) col w col ((w.setCell ⟨d.kb, j, none⟩ v).setCell ⟨d.vb, j, none⟩ u) := ((Kp.refl _ col w).set v (.inl h.ks.col)).set u (.inr h.vs.col)
 have hne : d.kb ≠ d.vb := h.ks.ne h.vs (by decide)
 refine ⟨{ blk := h.blk.kp k (by decide), itr := h.itr.kp k (by decide), iat := h.iat, len := h.len, its := fun i m p h1 h2 => (h.its i m p h1 h2).kp k (fun c h3 h4 => by unfold kc at h3; omega) (by decide), ks := ⟨(h.ks.blk.set j v).set_ne (by exact hne) u, h.ks.col⟩, kl := by simp only [List.length_set]; exact h.kl, vs := ⟨(h.vs.blk.set_ne (a := ⟨d.kb, j, none⟩) (fun e => hne e.symm) v).set j u, h.vs.col⟩, vl := by simp only [List.length_set]; exact h.vl, fre := fun i q h1 h2 => ?_, li := h.li.kp k (by decide), lat := h.lat, mv := h.mv.kp k (by decide) }, k⟩
 by_cases hi : i = j
 ·subst hi
  rw [hp] at h2
  injection h2 with h2
  subst h2
  exact ⟨v, u, List.getElem?_set_self (by rw [h.kl]; exact hj), List.getElem?_set_self (by rw [h.vl]; exact hj), hk.kp k (by unfold kc; omega)⟩
 ·obtain ⟨v', u', e1, e2, e3⟩ := h.fre i q (h1.resolve_right hi) h2
  simp only
  refine ⟨v', u', ?_, ?_, e3.kp k (by unfold kc; omega)⟩
  ·rw [List.getElem?_set_ne (fun e => hi e.symm)]; exact e1
  ·rw [List.getElem?_set_ne (fun e => hi e.symm)]; exact e2
end
/-- What the merge iterator is behind a step. -/
def MPost (w0 : World) (col0 : Col) (mb how : Nat) (ms : List Mi) (ps : List (Prs × Prs)) (w : World) : Prop :=
 ∃ (col : Col) (d : MD), Mg w col mb how ms ps (fun _ => True) d ∧ Kp cmg col0 w0 col w ∧ ((LowP ps ms.length none d.ix ∧ d.lk = .slice none 0 0) ∨ ∃ k, LowP ps ms.length (some k) d.ix ∧ (∃ i, KeyVal w col i d.lk k) ∧ d.lv = jn how (heads k ps))
theorem UmPost.cmg {w0 w1 w : World} {col0 col1 : Col} {mb how : Nat} {ms : List Mi} {ps : List (Prs × Prs)} (h : UmPost w1 col1 mb how ms ps w) (k : Kp cmg col0 w0 col1 w1) : MPost w0 col0 mb how ms ps w := by
 obtain ⟨col, d, h1, h2, h3⟩ := h
 exact ⟨col, d, h1, k.trans (h2.mono fun c e => e.1), h3⟩
end
section
open Go.RowKit Fmt
set_option maxHeartbeats 4000000 in
set_option maxRecDepth 100000 in
theorem init_calls {w : World} {col : Col} {mb how : Nat} {ms : List Mi} {ps : List (Prs × Prs)} {d : MD} (hM : Mg w col mb how ms ps (fun _ => False) d) (hh : how ≤ 2) (hN1 : 1 ≤ ms.length) (hNm : ms.length ≤ 1048576) :
  Calls Tryz.prog 46 #[.pointer (some ⟨mb, 0, none⟩)] w fun e w' => e = .returned (.tuple #[]) ∧ MPost w col mb how ms ps w' := by
 obtain ⟨m0, hm0⟩ : ∃ m, ms[0]? = some m := ⟨_, List.getElem?_eq_getElem (by omega)⟩
 obtain ⟨g0, c0, e0, -⟩ := hM.itr.row.at_ (hM.iat 0 m0 hm0)
 obtain ⟨N, hN⟩ : ∃ N, Hid (ms.length = N) := ⟨_, Lib.hid rfl⟩
 have r0 : w.cell? ⟨mb, 0, none⟩ = some (.slice (some ⟨g0, 0, none⟩) N c0) := by have h := hM.blk.blk.cell 0 rfl; rw [e0, hN.out] at h; exact h
 have HM0 := Lib.hid hM
 have HN := Lib.hid (And.intro hh (And.intro hN1 (And.intro hNm e0)))
 clear hM hh hN1 hNm hm0 e0
 go_enter Tryz.func46, Tryz.ntmps46
 go_wp2_with fail
 go_loopg [9] (N + 1) (fun g ti wx => ∃ (j : Nat) (colx : Col) (dx : MD), j ≤ N ∧ g = N - j + 1 ∧ ti = .int .i64 (j : Int) ∧ Mg wx colx mb how ms ps (fun i => i < j) dx ∧ dx.iv = d.iv ∧ Kp cmg col w colx wx)
 case atStart => exact ⟨0, col, d, by omega, by omega, rfl, HM0.out.imp (fun i hi => by omega), rfl, Kp.refl _ _ _⟩
 case round =>
  clear r0
  obtain ⟨j, colx, dx, hj, hg, rfl, hM, hiv, hK⟩ := hrel
  have HK := Lib.hid (And.intro hK (And.intro hiv hg))
  by_cases hjN : j = N
  ·subst hjN
   have d1 : ¬ (j : Int) < (j : Int) := by omega
   have hc := upd_calls ({ hM with fre := fun i p _ h2 => hM.fre i p (by have h3 := (List.getElem?_eq_some_iff.1 h2).1; rw [hM.len, hN.out] at h3; exact h3) h2 } : Mg wr colx mb how ms ps (fun _ => True) dx) HN.out.1 HN.out.2.1 HN.out.2.2.1
   clear hM hK hiv hg hj
   go_wp2_with fail
   refine hc.mono ?_
   rintro e w2 ⟨rfl, hp⟩
   have HP := Lib.hid (hp.cmg HK.out.1)
   clear hc hp
   go_wp2_with fail
   go_end0
   exact ⟨rfl, HP.out⟩
  ·obtain ⟨m, hm⟩ : ∃ m, ms[j]? = some m := ⟨_, List.getElem?_eq_getElem (by have := hN.out; omega)⟩
   obtain ⟨p, hp⟩ : ∃ p, ps[j]? = some p := ⟨_, List.getElem?_eq_getElem (by rw [hM.len]; have := hN.out; omega)⟩
   have hjl : j < ms.length := by have := hN.out; omega
   obtain ⟨v, u, hcall, hka⟩ := ((hM.its j m p hm hp).kp (Kp.refl (fun _ => False) colx wr).drew (fun _ _ _ h => h) (fun h => h)).cur
   obtain ⟨AV, nV, cV, rfl⟩ := hka.slc
   obtain ⟨z, rfl⟩ : ∃ z : Nat, u = .int .u64 (z : Int) := by
    cases hr : p.2 with
    | nil => rw [hr] at hka; exact ⟨0, hka.2⟩
    | cons a b => rw [hr] at hka; exact ⟨_, hka.2⟩
   obtain ⟨iv, iF, kb, vb, Ks, Vs, lk, lv, li, ix, liF, mv, mn, mF⟩ := dx
   simp only at hiv
   obtain ⟨g0', c0', e0, -, -, -, -, k0, -⟩ := hM.itr.row.at_ (hM.iat j m hm)
   simp only at e0
   rw [hiv, HN.out.2.2.2] at e0
   injection e0 with e0 e1 e2
   injection e0 with e0
   injection e0 with e0
   subst e0
   clear e1 e2
   have r2 : wr.cell? ⟨mb, 2, none⟩ = some (.slice (some ⟨kb, 0, none⟩) N N) := by have h := hM.blk.blk.cell 2 rfl; rw [hN.out] at h; exact h
   have r3 : wr.cell? ⟨mb, 3, none⟩ = some (.slice (some ⟨vb, 0, none⟩) N N) := by have h := hM.blk.blk.cell 3 rfl; rw [hN.out] at h; exact h
   obtain ⟨kv, ck0⟩ : ∃ kv, Ks[j]? = some kv := ⟨_, List.getElem?_eq_getElem (by have := hM.kl; simp only at this; omega)⟩
   obtain ⟨vv, cv0⟩ : ∃ vv, Vs[j]? = some vv := ⟨_, List.getElem?_eq_getElem (by have := hM.vl; simp only at this; omega)⟩
   have hne : Hid (vb ≠ kb) := Lib.hid fun e => hM.ks.ne hM.vs (by decide) e.symm
   have hmk : Hid (mb ≠ kb) := Lib.hid fun e => hM.blk.ne hM.ks (by decide) e
   have d1 : (j : Int) < (N : Int) := by omega
   have d2 : IntKind.i64.wrap ((j : Int) + 1) = ((j + 1 : Nat) : Int) := by have := HN.out.2.2.1; have := hN.out; rw [IntWalk.i64_in _ (by omega)]; omega
   have i1 := mt_cur ⟨m.ib, 0, none⟩
   have i2 := nt_cur ⟨m.ib, 0, none⟩
   have HM := Lib.hid (hM.kp (Kp.refl (fun _ => False) colx wr).drew (fun _ _ h => h) (fun h => h))
   have HKA := Lib.hid hka
   have HJ := Lib.hid (And.intro hjl hp)
   generalize m.ib = ib at *
   clear hM hK hiv hg hm hp hjl hka
   go_wp2_with fail
   refine wp_region_seqV (fun W => W.cell? ⟨mb, 2, none⟩ = some (.slice (some ⟨kb, 0, none⟩) N N) ∧ W.cell? ⟨mb, 3, none⟩ = some (.slice (some ⟨vb, 0, none⟩) N N)) (fun i => decide (i ≠ 11 ∧ i ≠ 16 ∧ i ≠ 18)) (fun i => ![3, 8].contains i && decide (i ≠ 11 ∧ i ≠ 16 ∧ i ≠ 18)) (fun i => decide (i = 18)) [0, 1, 2, 3, 4, 5, 6, 7, 8, 9, 10, 11, 12, 13, 14, 15, 16, 17, 18] (by kernel_rfl) (by kernel_rfl) (fun c a d v w h => by cases d <;> exact h) ⟨r2, r3⟩ ?_
   iterate 3 (apply seqV_pure (ho := rfl) (hr := rfl) (hg := rfl); (intro w'; go_simp; rfl))
   (apply seqV_read (ho := rfl) (hr := rfl) (hp := rfl) (hg := rfl); (rintro w' ⟨q0, q1⟩; go_simp; rfl))
   go_simp
   iterate 3 (apply seqV_pure (ho := rfl) (hr := rfl) (hg := rfl); (intro w'; go_simp; rfl))
   go_simp
   iterate 1 (apply seqV_pure (ho := rfl) (hr := rfl) (hg := rfl); (intro w'; go_simp; rfl))
   (apply seqV_read (ho := rfl) (hr := rfl) (hp := rfl) (hg := rfl); (rintro w' ⟨q0, q1⟩; go_simp; rfl))
   go_simp
   iterate 2 (apply seqV_pure (ho := rfl) (hr := rfl) (hg := rfl); (intro w'; go_simp; rfl))
   refine seqV_do rfl rfl fun K hK => ?_
   go_simp
   go_simp
   refine (hcall).mono ?_
   rintro e w2 ⟨rfl, hF2⟩
   have hF0 := hF2
   have s2 := hF0.cell r2 (fun h => h)
   have s3 := hF0.cell r3 (fun h => h)
   obtain ⟨hM2, hK2⟩ := HM.out.news hF0
   have hk2 := HKA.out.kp hK2 (by unfold kc; omega)
   have HS := Lib.hid (Mg.setK hM2 HJ.out.1 HJ.out.2 hk2)
   have HF := Lib.hid (And.intro hM2 hK2)
   have ck := hM2.ks.blk.cell j ck0
   have zk := hM2.ks.blk.frz j
   have cv := (hM2.vs.blk.set_ne (a := ⟨kb, j, none⟩) hne.out (.slice AV nV cV)).cell j cv0
   have zv := (hM2.vs.blk.set_ne (a := ⟨kb, j, none⟩) hne.out (.slice AV nV cV)).frz j
   have t2 : (w2.setCell ⟨kb, j, none⟩ (.slice AV nV cV)).cell? ⟨mb, 2, none⟩ = some (.slice (some ⟨kb, 0, none⟩) N N) := by have h := (hM2.blk.blk.set_ne (a := ⟨kb, j, none⟩) hmk.out (.slice AV nV cV)).cell 2 rfl; rw [hN.out] at h; exact h
   have t3 : (w2.setCell ⟨kb, j, none⟩ (.slice AV nV cV)).cell? ⟨mb, 3, none⟩ = some (.slice (some ⟨vb, 0, none⟩) N N) := by have h := (hM2.blk.blk.set_ne (a := ⟨kb, j, none⟩) hmk.out (.slice AV nV cV)).cell 3 rfl; rw [hN.out] at h; exact h
   refine hK _ _ (fun _ => ⟨s2, s3⟩) ?_
   clear hK K hM2 hK2 hk2 hF2 hF0
   go_simp
   iterate 3 (apply seqV_pure (ho := rfl) (hr := rfl) (hg := rfl); (intro w'; go_simp; rfl))
   go_simp
   iterate 1 (apply seqV_pure (ho := rfl) (hr := rfl) (hg := rfl); (intro w'; go_simp; rfl))
   refine seqV_do rfl rfl fun K hK => ?_
   go_simp
   refine hK _ _ (fun _ => ⟨t2, t3⟩) ?_
   clear hK K
   go_simp
   iterate 1 (apply seqV_pure (ho := rfl) (hr := rfl) (hg := rfl); (intro w'; go_simp; rfl))
   refine seqV_do rfl rfl fun K hK => ?_
   go_simp
   refine hK _ _ (fun h => by cases h) ?_
   clear hK K
   unfold seqV
   go_simp
   go_wp2_with fail
   go_roundg (N - (j + 1) + 1)
   case measure => have := HK.out.2.2; omega
   case rel =>
    refine ⟨j + 1, _, _, by omega, rfl, by simp, HS.out.1.imp fun i hi => by omega, HK.out.2.1, ?_⟩
    exact ((HK.out.1.drew.trans (HF.out.2.mono fun c e => by subst e; unfold cmg; omega)).trans (HS.out.2.mono fun c e => by unfold cmg; omega))
end
end Go.Proofs.YtmhlnijpimjjaaaGreatDoor
