/- The merge iterator's Next (f33). Condition: at most 2^20 iterators. The merge iterator's Current and Close (f31, f34). Condition: at most 2^20 iterators. -/
import Derived.Test.YtmhlnijpimjjaaaGreatDoorM31
import Derived.LaidEql
set_option linter.unusedSimpArgs false
set_option linter.unusedVariables false
namespace Go.Proofs.YtmhlnijpimjjaaaGreatDoor
section
open Go.RowKit Fmt
theorem comp200 : (Tryz.prog.info? 200).map (·.comparable) = some true := by kernel_rfl
theorem size202 : (Tryz.prog.info? 202).map (·.size) = some 1 := by kernel_rfl
theorem err_ne (ea : Addr) (w : World) : (binOp .neq 54 (.iface 200 (.pointer (some ea))) (.iface 200 (.pointer (some ea)))).run Tryz.prog w = .ok (.bool false) w := by
 obtain ⟨j, hj, hc⟩ := Option.map_eq_some_iff.1 comp200
 obtain ⟨k, hk, _⟩ := Option.map_eq_some_iff.1 size202
 simp only [binOp]
 simp [Op.equal, Op.maxDepth, run_equalIn_iface_ptr_same w 9998 ea Tryz.underlying54 Tryz.underlying200 hj hc hk]
theorem err_nn (ea : Addr) (w : World) : (binOp .neq 54 (.iface 200 (.pointer (some ea))) .nilIface).run Tryz.prog w = .ok (.bool true) w := by kernel_rfl
/-- The indices rise. -/
theorem hix_lt (k : List Nat) : ∀ (ps : List (Prs × Prs)) (i : Nat), (hix k i ps).Pairwise (· < ·) ∧ ∀ x, x ∈ hix k i ps → i ≤ x
 | [], i => by simp [hix]
 | p :: ps, i => by
  obtain ⟨h1, h2⟩ := hix_lt k ps (i + 1)
  refine ⟨?_, fun x hx => (hix_mem.1 hx).1⟩
  simp only [hix]
  rw [List.pairwise_append]
  refine ⟨?_, h1, fun a ha b hb => ?_⟩
  ·split
   ·split <;> simp
   ·simp
  ·have hb' := h2 b hb
   split at ha
   ·split at ha
    ·simp at ha; omega
    ·cases ha
   ·cases ha
/-- The maps when the first j of these indices have moved. -/
def Mvd (ps : List (Prs × Prs)) (k : List Nat) (ix : List Nat) (j : Nat) (qs : List (Prs × Prs)) : Prop := qs.length = ps.length ∧ ∀ (i : Nat) (p : Prs × Prs), ps[i]? = some p → qs[i]? = some (if i ∈ ix.take j then adv k p else p)
theorem Mvd.zero (ps : List (Prs × Prs)) (k ix : List Nat) : Mvd ps k ix 0 ps := ⟨rfl, fun i p hp => by simpa using hp⟩
theorem Mvd.step {ps qs : List (Prs × Prs)} {k ix : List Nat} {j x : Nat} {p : Prs × Prs} (h : Mvd ps k ix j qs) (hx : ix[j]? = some x) (hp : ps[x]? = some p) : Mvd ps k ix (j + 1) (qs.set x (adv k p)) := by
 refine ⟨by rw [List.length_set]; exact h.1, fun i q hq => ?_⟩
 have ht : ix.take (j + 1) = ix.take j ++ [x] := by rw [List.take_add_one, hx]; rfl
 have hxl := (List.getElem?_eq_some_iff.1 hp).1
 by_cases hi : i = x
 ·subst hi
  rw [hp] at hq
  injection hq with hq
  subst hq
  rw [List.getElem?_set_self (by rw [h.1]; exact hxl), if_pos (by rw [ht]; simp)]
 ·rw [List.getElem?_set_ne (fun e => hi e.symm), h.2 i q hq, ht]
  simp [hi]
theorem Mvd.at_ {ps qs : List (Prs × Prs)} {k ix : List Nat} {j x : Nat} {p : Prs × Prs} (h : Mvd ps k ix j qs) (hl : ix.Pairwise (· < ·)) (hx : ix[j]? = some x) (hp : ps[x]? = some p) : qs[x]? = some p := by
 rw [h.2 x p hp, if_neg]
 intro hm
 obtain ⟨a, ha⟩ := List.getElem?_of_mem hm
 have haj : a < j := by have := (List.getElem?_eq_some_iff.1 ha).1; simp at this; omega
 rw [List.getElem?_take, if_pos haj] at ha
 obtain ⟨h1, h2⟩ := List.getElem?_eq_some_iff.1 ha
 obtain ⟨h3, h4⟩ := List.getElem?_eq_some_iff.1 hx
 have := List.pairwise_iff_getElem.1 hl a j h1 h3 haj
 omega
theorem Mvd.all {ps qs : List (Prs × Prs)} {k ix : List Nat} {j : Nat} (h : Mvd ps k ix j qs) (hj : ix.length ≤ j) (hx : ix = hix k 0 ps) : qs = ps.map (adv k) := by
 apply List.ext_getElem?
 intro i
 rw [List.getElem?_map]
 cases hp : ps[i]? with
 | none =>
  have : ps.length ≤ i := by simpa using hp
  rw [List.getElem?_eq_none (by rw [h.1]; exact this)]; rfl
 | some p =>
  rw [h.2 i p hp, List.take_of_length_le hj]
  split
  ·rfl
  ·rename_i hn
   have : adv k p = p := by
    unfold adv
    cases hr : p.2 with
    | nil => rfl
    | cons q r =>
     simp only
     split
     ·rename_i hk
      exact absurd (by rw [hx]; exact hix_mem.2 ⟨Nat.zero_le _, p, q, r, by simpa using hp, hr, hk⟩) hn
     ·rfl
   rw [Option.map_some, this]
/-- How a step of the merge iterator ends. -/
def MOut (w0 : World) (col0 : Col) (mb how : Nat) (ms : List Mi) (ps : List (Prs × Prs)) (ea : Addr) (v : Value) (w : World) : Prop :=
 ∃ (col : Col) (d : MD), Mg w col mb how ms ps (fun _ => True) d ∧ Kp cmg col0 w0 col w ∧ ((LowP ps ms.length none d.ix ∧ d.lk = .slice none 0 0 ∧ v = .iface 200 (.pointer (some ea))) ∨ ∃ k, LowP ps ms.length (some k) d.ix ∧ (∃ i, KeyVal w col i d.lk k) ∧ d.lv = jn how (heads k ps) ∧ v = .nilIface)
set_option maxHeartbeats 4000000 in
set_option maxRecDepth 100000 in
theorem mnext_calls {w : World} {col : Col} {mb how : Nat} {ms : List Mi} {ps : List (Prs × Prs)} {d : MD} {k : List Nat} {ea : Addr} (hM : Mg w col mb how ms ps (fun _ => True) d) (hL : LowP ps ms.length (some k) d.ix) (hh : how ≤ 2) (hN1 : 1 ≤ ms.length) (hNm : ms.length ≤ 1048576) (hT : Tabs w col) (hD : Done w col 200 ea) :
  Calls Tryz.prog 33 #[.pointer (some ⟨mb, 0, none⟩)] w fun e w' => ∃ v, e = .returned v ∧ MOut w col mb how ms (ps.map (adv k)) ea v w' := by
 have ht : ps.take ms.length = ps := List.take_of_length_le (by rw [hM.len]; exact Nat.le_refl _)
 have hix : d.ix = hix k 0 ps := by have := hL.1; rwa [ht] at this
 have hl := hL.len hN1
 obtain ⟨m0, hm0⟩ : ∃ m, ms[0]? = some m := ⟨_, List.getElem?_eq_getElem (by omega)⟩
 obtain ⟨g0, c0, e0, -⟩ := hM.itr.row.at_ (hM.iat 0 m0 hm0)
 obtain ⟨x0, hx0⟩ : ∃ x, d.ix[0]? = some x := ⟨_, List.getElem?_eq_getElem (by omega)⟩
 obtain ⟨g6, c6, e6, -⟩ := hM.li.row.at_ (hM.lat 0 x0 hx0)
 obtain ⟨N, hN⟩ : ∃ N, Hid (ms.length = N) := ⟨_, Lib.hid rfl⟩
 obtain ⟨nx, hnx⟩ : ∃ nx, Hid (d.ix.length = nx) := ⟨_, Lib.hid rfl⟩
 have r6 : w.cell? ⟨mb, 6, none⟩ = some (.slice (some ⟨g6, 0, none⟩) nx c6) := by have h := hM.blk.blk.cell 6 rfl; rw [e6, hnx.out] at h; exact h
 have HM0 := Lib.hid hM
 have HN := Lib.hid (And.intro hh (And.intro hN1 (And.intro hNm (And.intro e0 (And.intro e6 (And.intro hix (And.intro hl (And.intro hT hD))))))))
 clear hM hh hN1 hNm hm0 e0 e6 hL ht hix hl hx0 hT hD
 go_enter Tryz.func33, Tryz.ntmps33
 go_wp2_with fail
 go_loopg [11] (nx + 1) (fun g ti wx => ∃ (j : Nat) (colx : Col) (dx : MD) (qs : List (Prs × Prs)), j ≤ nx ∧ g = nx - j + 1 ∧ ti = .int .i64 (j : Int) ∧ Mg wx colx mb how ms qs (fun _ => True) dx ∧ dx.iv = d.iv ∧ dx.li = d.li ∧ dx.ix = d.ix ∧ Mvd ps k d.ix j qs ∧ Kp cmg col w colx wx)
 case atStart => exact ⟨0, col, d, ps, by omega, by omega, rfl, HM0.out, rfl, rfl, rfl, Mvd.zero _ _ _, Kp.refl _ _ _⟩
 case round =>
  clear r6
  obtain ⟨j, colx, dx, qs, hj, hg, rfl, hM, hiv, hli, hxx, hmv, hK⟩ := hrel
  have HK := Lib.hid (And.intro hK (And.intro hiv (And.intro hg (And.intro hli (And.intro hxx hmv)))))
  by_cases hjN : j = nx
  ·subst hjN
   have d1 : ¬ (j : Int) < (j : Int) := by omega
   have hc := upd_calls hM HN.out.1 HN.out.2.1 HN.out.2.2.1
   rw [hmv.all (by rw [hnx.out]; exact Nat.le_refl _) HN.out.2.2.2.2.2.1] at hc
   clear hM hK hiv hg hj hli hxx hmv
   go_wp2_with fail
   refine hc.mono ?_
   rintro e w2 ⟨rfl, col2, d2, hM2, hK2, hlow⟩
   have HK2 := Lib.hid (HK.out.1.trans (hK2.mono fun c e => e.1))
   have HM2 := Lib.hid hM2
   rcases hlow with ⟨h1, h2⟩ | ⟨k2, h1, ⟨y, h2⟩, h3⟩
   ·have r4 : w2.cell? ⟨mb, 4, none⟩ = some (.slice none 0 0) := by have h := hM2.blk.blk.cell 4 rfl; rw [h2] at h; exact h
    have rg := (HN.out.2.2.2.2.2.2.2.2.kp HK2.out (by unfold cmg; omega)).cell
    have q1 := nil_eq1 w2 0
    have HE := Lib.hid (And.intro h1 h2)
    clear hc hK2 hM2 h1 h2
    go_wp2_with fail
    go_ret
    exact ⟨_, rfl, col2, d2, HM2.out, HK2.out, .inl ⟨HE.out.1, HE.out.2, rfl⟩⟩
   ·obtain ⟨gk, ck, e, -⟩ := id h2
    obtain ⟨nk, hnk⟩ : ∃ nk, Hid (k2.length = nk) := ⟨_, Lib.hid rfl⟩
    rw [hnk.out] at e
    have r4 : w2.cell? ⟨mb, 4, none⟩ = some (.slice (some ⟨gk, 0, none⟩) nk ck) := by have h := hM2.blk.blk.cell 4 rfl; rw [e] at h; exact h
    have q1 := nil_eq0 w2 ⟨gk, 0, none⟩ nk ck
    have HE := Lib.hid (And.intro h1 (And.intro h2 h3))
    clear hc hK2 hM2 h1 h2 h3 e
    go_wp2_with fail
    go_ret
    exact ⟨_, rfl, col2, d2, HM2.out, HK2.out, .inr ⟨k2, HE.out.1, ⟨y, HE.out.2.1⟩, HE.out.2.2, rfl⟩⟩
  ·obtain ⟨x, hx⟩ : ∃ x, d.ix[j]? = some x := ⟨_, List.getElem?_eq_getElem (by have := hnx.out; omega)⟩
   obtain ⟨-, p, q, r, hp, hpr, hqk⟩ := hix_mem.1 (by rw [← HN.out.2.2.2.2.2.1]; exact List.mem_of_getElem? hx : x ∈ hix k 0 ps)
   rw [Nat.sub_zero] at hp
   have hqx := hmv.at_ (by rw [HN.out.2.2.2.2.2.1]; exact (hix_lt k ps 0).1) hx hp
   have hxl : x < ms.length := by have := (List.getElem?_eq_some_iff.1 hp).1; rw [HM0.out.len] at this; exact this
   obtain ⟨m, hm⟩ : ∃ m, ms[x]? = some m := ⟨_, List.getElem?_eq_getElem hxl⟩
   have hat := hM.its x m p hm hqx
   obtain ⟨pg, pr⟩ := p
   simp only at hpr
   subst hpr
   have hcall1 := hat.next (HN.out.2.2.2.2.2.2.2.1.kp hK (by unfold cmg; omega)) (HN.out.2.2.2.2.2.2.2.2.kp hK (by unfold cmg; omega))
   have hadv : adv k (pg, q :: r) = (pg ++ [q], r) := by unfold adv; simp only; rw [if_pos hqk]
   obtain ⟨iv, iF, kb, vb, Ks, Vs, lk, lv, li, ix, liF, mv, mn, mF⟩ := dx
   simp only at hiv hli hxx
   have hIV : Hid (iv = .slice (some ⟨g0, 0, none⟩) ms.length c0) := Lib.hid (hiv.trans HN.out.2.2.2.1)
   obtain ⟨g0', c0', e0, -, -, -, -, k0, -⟩ := hM.itr.row.at_ (hM.iat x m hm)
   simp only at e0
   rw [hIV.out] at e0
   injection e0 with e0 e1 e2
   injection e0 with e0
   injection e0 with e0
   subst e0
   clear e1 e2
   obtain ⟨g6', c6', e0, -, -, -, -, k6, -⟩ := hM.li.row.at_ (hM.lat j x (by simp only; rw [hxx]; exact hx))
   simp only at e0
   rw [hli, HN.out.2.2.2.2.1] at e0
   injection e0 with e0 e1 e2
   injection e0 with e0
   injection e0 with e0
   subst e0
   clear e1 e2
   have r0 : wr.cell? ⟨mb, 0, none⟩ = some (.slice (some ⟨g0, 0, none⟩) N c0) := by have h := hM.blk.blk.cell 0 rfl; rw [hIV.out, hN.out] at h; exact h
   have d1 : (j : Int) < (nx : Int) := by omega
   have d2 : IntKind.i64.wrap ((j : Int) + 1) = ((j + 1 : Nat) : Int) := by have := HN.out.2.2.1; have := HN.out.2.2.2.2.2.2.1; have := hnx.out; rw [IntWalk.i64_in _ (by omega)]; omega
   have d3 : (x : Int) < (N : Int) := by have := hN.out; omega
   have i1 := mt_nxt ⟨m.ib, 0, none⟩
   have i2 := nt_nxt ⟨m.ib, 0, none⟩
   have hib : Hid (iF[x]? = some (.iface 75 (.pointer (some ⟨m.ib, 0, none⟩)))) := Lib.hid (hM.iat x m hm)
   have HM := Lib.hid hM
   have HJ0 := Lib.hid (And.intro hxl (And.intro hx (And.intro hp (And.intro hqx (And.intro hm hadv)))))
   clear hM hK hiv hli hxx hmv hg hx hp hqx hat hqk hxl hadv hj hjN
   obtain ⟨ib, hibe⟩ : ∃ b, Hid (m.ib = b) := ⟨_, Lib.hid rfl⟩
   rw [hibe.out] at hcall1 k0 hib i1 i2
   go_upto_region 5 with (refine hcall1.mono ?_; rintro e w3 ⟨col3, hK3, he, hi3⟩; obtain ⟨ev, rfl, hev⟩ : ∃ ev, e = .returned ev ∧ (ev = .nilIface ∨ ev = .iface 200 (.pointer (some ea))) := (by rcases he with rfl | rfl; exact ⟨_, rfl, .inl rfl⟩; exact ⟨_, rfl, .inr rfl⟩))
   have hM3 := HM.out.next hK3 HJ0.out.2.2.2.2.1 hi3
   have HK3 := Lib.hid (HK.out.1.trans (hK3.mono fun c e => by have e1 := e.1; unfold kc at e1; unfold cmg; omega))
   have rg := (HN.out.2.2.2.2.2.2.2.2.kp HK3.out (by unfold cmg; omega)).cell
   have q1 := err_ne ea w3
   have q2 := err_nn ea w3
   obtain ⟨v, u, hcall, hka⟩ := (hi3.kp (Kp.refl (fun _ => False) col3 w3).drew (fun _ _ _ h => h) (fun h => h)).cur
   rw [hibe.out] at hcall
   obtain ⟨AV, nV, cV, rfl⟩ := hka.slc
   obtain ⟨z, rfl⟩ : ∃ z : Nat, u = .int .u64 (z : Int) := by
    cases r with
    | nil => exact ⟨0, hka.2⟩
    | cons a b => exact ⟨_, hka.2⟩
   have r0' : w3.cell? ⟨mb, 0, none⟩ = some (.slice (some ⟨g0, 0, none⟩) N c0) := by have h := hM3.blk.blk.cell 0 rfl; rw [hIV.out, hN.out] at h; exact h
   have r2 : w3.cell? ⟨mb, 2, none⟩ = some (.slice (some ⟨kb, 0, none⟩) N N) := by have h := hM3.blk.blk.cell 2 rfl; rw [hN.out] at h; exact h
   have r3 : w3.cell? ⟨mb, 3, none⟩ = some (.slice (some ⟨vb, 0, none⟩) N N) := by have h := hM3.blk.blk.cell 3 rfl; rw [hN.out] at h; exact h
   have ri : w3.cell? ⟨g0, x, none⟩ = some (.iface 75 (.pointer (some ⟨ib, 0, none⟩))) := by
    have hrow := hM3.itr.row
    simp only at hrow
    rw [hIV.out] at hrow
    have h6 := (HM.out.itr.kp hK3 (fun h => by have h1 := h.1; unfold kc at h1; omega)).row
    simp only at h6
    rw [hIV.out] at h6
    obtain ⟨g0', c0', e0, -, -, -, -, k0', -⟩ := h6.at_ (hib.out)
    injection e0 with e0
    injection e0 with e0
    injection e0 with e0
    subst e0
    exact k0'
   obtain ⟨kv, ck0⟩ : ∃ kv, Ks[x]? = some kv := ⟨_, List.getElem?_eq_getElem (by have h1 := hM3.kl; have := HJ0.out.1; simp only at h1; omega)⟩
   obtain ⟨vv, cv0⟩ : ∃ vv, Vs[x]? = some vv := ⟨_, List.getElem?_eq_getElem (by have h1 := hM3.vl; have := HJ0.out.1; simp only at h1; omega)⟩
   have hne : Hid (vb ≠ kb) := Lib.hid fun e => hM3.ks.ne hM3.vs (by decide) e.symm
   have hmk : Hid (mb ≠ kb) := Lib.hid fun e => hM3.blk.ne hM3.ks (by decide) e
   have hgk : Hid (¬ g0 = kb) := Lib.hid fun e => by
    have h1 := hM3.itr.col g0 (by simp only; rw [hIV.out]; rfl)
    have h2 := hM3.ks.col
    simp only at h2
    rw [e, h2] at h1; omega
   have i3 := mt_cur ⟨ib, 0, none⟩
   have i4 := nt_cur ⟨ib, 0, none⟩
   have HM2 := Lib.hid (hM3.kp (Kp.refl (fun _ => False) col3 w3).drew (fun _ _ h => h) (fun h => h))
   have HKA := Lib.hid hka
   have HJ : Hid (x < ms.length ∧ (qs.set x (pg ++ [q], r))[x]? = some (pg ++ [q], r)) := Lib.hid ⟨HJ0.out.1, List.getElem?_set_self (List.getElem?_eq_some_iff.1 HJ0.out.2.2.2.1).1⟩
   clear r0 i1 i2 hM3 hK3 hi3 hka HM hcall1 k0 k6 he
   have r0 := r0'
   clear r0'
   rcases hev with rfl | rfl
   all_goals (
    go_upto_region 7 with fail
    clear rg q1 q2
    refine wp_region_seqV (fun W => W.cell? ⟨mb, 0, none⟩ = some (.slice (some ⟨g0, 0, none⟩) N c0) ∧ W.cell? ⟨mb, 2, none⟩ = some (.slice (some ⟨kb, 0, none⟩) N N) ∧ W.cell? ⟨mb, 3, none⟩ = some (.slice (some ⟨vb, 0, none⟩) N N) ∧ W.cell? ⟨g0, x, none⟩ = some (.iface 75 (.pointer (some ⟨ib, 0, none⟩)))) (fun i => decide (i ≠ 17 ∧ i ≠ 22 ∧ i ≠ 24)) (fun i => ![3, 8, 13, 16].contains i && decide (i ≠ 17 ∧ i ≠ 22 ∧ i ≠ 24)) (fun i => decide (i = 24)) [0, 1, 2, 3, 4, 5, 6, 7, 8, 9, 10, 11, 12, 13, 14, 15, 16, 17, 18, 19, 20, 21, 22, 23, 24] (by kernel_rfl) (by kernel_rfl) (fun c a d v w h => by cases d <;> exact h) ⟨r0, r2, r3, ri⟩ ?_
    iterate 3 (apply seqV_pure (ho := rfl) (hr := rfl) (hg := rfl); (intro w'; go_simp; rfl))
    (apply seqV_read (ho := rfl) (hr := rfl) (hp := rfl) (hg := rfl); (rintro w' ⟨q0, q1, q2, q3⟩; go_simp; rfl))
    go_simp
    iterate 3 (apply seqV_pure (ho := rfl) (hr := rfl) (hg := rfl); (intro w'; go_simp; rfl))
    go_simp
    iterate 1 (apply seqV_pure (ho := rfl) (hr := rfl) (hg := rfl); (intro w'; go_simp; rfl))
    (apply seqV_read (ho := rfl) (hr := rfl) (hp := rfl) (hg := rfl); (rintro w' ⟨q0, q1, q2, q3⟩; go_simp; rfl))
    go_simp
    iterate 3 (apply seqV_pure (ho := rfl) (hr := rfl) (hg := rfl); (intro w'; go_simp; rfl))
    go_simp
    iterate 1 (apply seqV_pure (ho := rfl) (hr := rfl) (hg := rfl); (intro w'; go_simp; rfl))
    (apply seqV_read (ho := rfl) (hr := rfl) (hp := rfl) (hg := rfl); (rintro w' ⟨q0, q1, q2, q3⟩; go_simp; rfl))
    go_simp
    iterate 2 (apply seqV_pure (ho := rfl) (hr := rfl) (hg := rfl); (intro w'; go_simp; rfl))
    (apply seqV_read (ho := rfl) (hr := rfl) (hp := rfl) (hg := rfl); (rintro w' ⟨q0, q1, q2, q3⟩; go_simp; rfl))
    go_simp
    refine seqV_do rfl rfl fun K hK => ?_
    go_simp
    go_simp
    refine (hcall).mono ?_
    rintro e w2 ⟨rfl, hF2⟩
    have s0 := hF2.cell r0 (fun h => h)
    have s2 := hF2.cell r2 (fun h => h)
    have s3 := hF2.cell r3 (fun h => h)
    have si := hF2.cell ri (fun h => h)
    obtain ⟨hM2, hK2⟩ := HM2.out.news hF2
    have hk2 := HKA.out.kp hK2 (by unfold kc; omega)
    have HS := Lib.hid (Mg.setK hM2 HJ.out.1 HJ.out.2 hk2)
    have HF := Lib.hid (And.intro hM2 hK2)
    have ck := hM2.ks.blk.cell x ck0
    have zk := hM2.ks.blk.frz x
    have cv := (hM2.vs.blk.set_ne (a := ⟨kb, x, none⟩) hne.out (.slice AV nV cV)).cell x cv0
    have zv := (hM2.vs.blk.set_ne (a := ⟨kb, x, none⟩) hne.out (.slice AV nV cV)).frz x
    have t0 : (w2.setCell ⟨kb, x, none⟩ (.slice AV nV cV)).cell? ⟨mb, 0, none⟩ = some (.slice (some ⟨g0, 0, none⟩) N c0) := by have h := (hM2.blk.blk.set_ne (a := ⟨kb, x, none⟩) hmk.out (.slice AV nV cV)).cell 0 rfl; rw [hIV.out, hN.out] at h; exact h
    have t2 : (w2.setCell ⟨kb, x, none⟩ (.slice AV nV cV)).cell? ⟨mb, 2, none⟩ = some (.slice (some ⟨kb, 0, none⟩) N N) := by have h := (hM2.blk.blk.set_ne (a := ⟨kb, x, none⟩) hmk.out (.slice AV nV cV)).cell 2 rfl; rw [hN.out] at h; exact h
    have t3 : (w2.setCell ⟨kb, x, none⟩ (.slice AV nV cV)).cell? ⟨mb, 3, none⟩ = some (.slice (some ⟨vb, 0, none⟩) N N) := by have h := (hM2.blk.blk.set_ne (a := ⟨kb, x, none⟩) hmk.out (.slice AV nV cV)).cell 3 rfl; rw [hN.out] at h; exact h
    have ti : (w2.setCell ⟨kb, x, none⟩ (.slice AV nV cV)).cell? ⟨g0, x, none⟩ = some (.iface 75 (.pointer (some ⟨ib, 0, none⟩))) := ((Fr.refl (fun q => q = kb) w2).setCell (fun _ => rfl) _).cell si hgk.out
    refine hK _ _ (fun _ => ⟨s0, s2, s3, si⟩) ?_
    clear hK K hM2 hK2 hk2 hF2
    go_simp
    iterate 3 (apply seqV_pure (ho := rfl) (hr := rfl) (hg := rfl); (intro w'; go_simp; rfl))
    go_simp
    iterate 1 (apply seqV_pure (ho := rfl) (hr := rfl) (hg := rfl); (intro w'; go_simp; rfl))
    refine seqV_do rfl rfl fun K hK => ?_
    go_simp
    refine hK _ _ (fun _ => ⟨t0, t2, t3, ti⟩) ?_
    clear hK K
    go_simp
    iterate 1 (apply seqV_pure (ho := rfl) (hr := rfl) (hg := rfl); (intro w'; go_simp; rfl))
    refine seqV_do rfl rfl fun K hK => ?_
    go_simp
    refine hK _ _ (fun h => by cases h) ?_
    clear hK K
    unfold seqV
    go_simp
    go_wp2_with fail
    go_roundg (nx - (j + 1) + 1)
    case measure => have := HK.out.2.2.1; omega
    case rel =>
     refine ⟨j + 1, _, _, _, by omega, rfl, by simp, HS.out.1.imp fun i hi => (by by_cases h : i = x; exact .inr h; exact .inl ⟨trivial, h⟩), HK.out.2.1, HK.out.2.2.2.1, HK.out.2.2.2.2.1, ?_, (HK3.out.drew.trans (HF.out.2.mono fun c e => by subst e; unfold cmg; omega)).trans (HS.out.2.mono fun c e => by unfold cmg; omega)⟩
     have h := HK.out.2.2.2.2.2.step HJ0.out.2.1 HJ0.out.2.2.1
     rw [HJ0.out.2.2.2.2.2] at h
     exact h)
end
section
open Go.RowKit Fmt
set_option maxHeartbeats 1000000 in
set_option maxRecDepth 100000 in
theorem mcur_calls {w : World} {mb : Nat} {A : Option Addr} {n c lv : Nat} (r4 : w.cell? ⟨mb, 4, none⟩ = some (.slice A n c)) (r5 : w.cell? ⟨mb, 5, none⟩ = some (.int .u64 (lv : Int))) :
  Calls Tryz.prog 31 #[.pointer (some ⟨mb, 0, none⟩)] w fun e w' => e = .returned (.tuple #[.slice A n c, .int .u64 (lv : Int)]) ∧ Fr (fun _ => False) w w' := by
 go_enter Tryz.func31, Tryz.ntmps31
 go_wp2_with fail
 go_quiet (fail)
 rename_i nq
 go_wp2_with fail
 go_ret2
 exact ⟨rfl, (Fr.refl _ w).drewN nq⟩
set_option maxHeartbeats 2000000 in
set_option maxRecDepth 100000 in
theorem mclose_calls {w : World} {col : Col} {mb how : Nat} {ms : List Mi} {ps : List (Prs × Prs)} {fr : Nat → Prop} {d : MD} (hM : Mg w col mb how ms ps fr d) (hNm : ms.length ≤ 1048576) :
  Calls Tryz.prog 34 #[.pointer (some ⟨mb, 0, none⟩)] w fun e w' => e = .returned .nilIface ∧ w' = w := by
 obtain ⟨A0, c0, e0, b0, b1, _⟩ := hM.itr.row.slc
 obtain ⟨N, hN⟩ : ∃ N, Hid (ms.length = N) := ⟨_, Lib.hid rfl⟩
 have r0 : w.cell? ⟨mb, 0, none⟩ = some (.slice A0 N c0) := by have h := hM.blk.blk.cell 0 rfl; rw [e0, hN.out] at h; exact h
 have HM := Lib.hid hM
 have HN := Lib.hid (And.intro hNm e0)
 clear hM hNm e0 b0 b1
 go_enter Tryz.func34, Tryz.ntmps34
 go_wp2_with fail
 go_loopg [3, 11] (N + 1) (fun g tv ti wx => ∃ (j : Nat), j ≤ N ∧ g = N - j + 1 ∧ tv = .nilIface ∧ ti = .int .i64 (j : Int) ∧ wx = w)
 case atStart => exact ⟨0, by omega, by omega, rfl, rfl, rfl⟩
 case round =>
  obtain ⟨j, hj, hg, rfl, rfl, rfl⟩ := hrel
  have HG := Lib.hid hg
  clear hg
  by_cases hjN : j = N
  ·subst hjN
   have d1 : ¬ (j : Int) < (j : Int) := by omega
   go_wp2_with fail
   go_ret
   exact ⟨rfl, rfl⟩
  ·obtain ⟨m, hm⟩ : ∃ m, ms[j]? = some m := ⟨_, List.getElem?_eq_getElem (by have := hN.out; omega)⟩
   obtain ⟨g0, c0', e0, -, -, -, -, k0, -⟩ := HM.out.itr.row.at_ (HM.out.iat j m hm)
   rw [HN.out.2] at e0
   injection e0 with e0 e1 e2
   subst e0
   clear e1 e2
   have d1 : (j : Int) < (N : Int) := by omega
   have d2 : IntKind.i64.wrap ((j : Int) + 1) = ((j + 1 : Nat) : Int) := by have := HN.out.1; have := hN.out; rw [IntWalk.i64_in _ (by omega)]; omega
   have i1 := mt_cls ⟨m.ib, 0, none⟩
   have i2 := nt_cls ⟨m.ib, 0, none⟩
   have hc := iclose_calls wr ⟨m.ib, 0, none⟩
   generalize m.ib = ib at *
   clear hm hjN
   go_wp2_with (refine hc.mono ?_; rintro e w' ⟨rfl, rfl⟩; clear hc)
   go_roundg (N - (j + 1) + 1)
   case measure => have := HG.out; omega
   case rel => exact ⟨j + 1, by omega, rfl, rfl, by simp, rfl⟩
end
end Go.Proofs.YtmhlnijpimjjaaaGreatDoor
