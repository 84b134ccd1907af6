/- A key's rest laid as open states: addSuffix. Condition: at most 2^40 open states. Outputs put ahead of an open state: addOutputPrefix, and the small functions on outputs. Condition: outputs stay below 2^64. Open states in the core, by their number: what is read of them, a change of the last output, outputs put ahead. No condition. The common beginning of a key and the open states: findCommonPrefixAndSetOutput. Condition: outputs stay below 2^64. -/
import Derived.Test.YtmhlnijpimjjaaaGreatDoorM12
import Derived.Deep.DeepCutAuto
set_option linter.unusedSimpArgs false
set_option linter.unusedVariables false
namespace Go.Proofs.YtmhlnijpimjjaaaGreatDoor
section
open Go.RowKit Fmt
section
variable {w : World} {col : Col} {ub cb pb : Nat} {K : List (Nat × Nd)} {st : List Un} {u : Un}
/-- Bytes lie in a block, from a place on. -/
structure Byts (w : World) (kb ko : Nat) (l : List Nat) : Prop where
 at_ : ∀ (j c : Nat), l[j]? = some c → w.cell? ⟨kb, ko + j, none⟩ = some (.int .u8 (c : Int))
theorem Byts.kp {w w' : World} {col col' : Col} {C : Nat → Prop} {kb ko : Nat} {l : List Nat} (h : Byts w kb ko l) (k : Kp C col w col' w') (hc : ¬ C (col kb)) : Byts w' kb ko l :=
 ⟨fun j c hj => k.fr.cell (h.at_ j c hj) hc⟩
/-- Open states on the way to a key's end. -/
def chn (l : List Nat) : List Un := l.map fun c => ⟨⟨false, 0, []⟩, some (c, 0)⟩
theorem chain_chn : ∀ l : List Nat, chain l = chn l ++ [⟨⟨true, 0, []⟩, none⟩]
 | [] => rfl
 | b :: l => by simp [chain, chn, chain_chn l]
/-- The last open state's cells are set. -/
theorem Cr.top (h : Cr w col ub cb pb K (st ++ [u])) (b o : Nat) : ∃ g cap pB pO w', w.cell? ⟨ub, 0, none⟩ = some (.slice (some ⟨g, 0, none⟩) (st.length + 1) cap) ∧ st.length + 1 ≤ cap ∧ cap ≤ maxLen ∧ w.cell? ⟨g, st.length, none⟩ = some (.pointer (some ⟨pB, pO, none⟩)) ∧
   (∃ v, w.cell? ⟨pB, pO + 3, none⟩ = some v) ∧ (∃ v, w.cell? ⟨pB, pO + 2, none⟩ = some v) ∧ (∃ v, w.cell? ⟨pB, pO + 1, none⟩ = some v) ∧ (∀ j, w.frozen? ⟨pB, pO + j, none⟩ = false) ∧ col pB = 6 ∧ col g = 6 ∧ g ≠ pB ∧ ub ≠ pB ∧
   w' = (((w.setCell ⟨pB, pO + 3, none⟩ (.bool true)).setCell ⟨pB, pO + 2, none⟩ (.int .u8 (b : Int))).setCell ⟨pB, pO + 1, none⟩ (.int .u64 (o : Int))) ∧ Cr w' col ub cb pb K (st ++ [⟨u.nd, some (b, o)⟩]) ∧ Kp (fun d => d = 6) col w col w' := by
 obtain ⟨sv, full, bs, vs, xs, PL, L, nd, tv, nx, h⟩ := h
 obtain ⟨vs', v, xs', x, rfl, rfl, hvl, hxl, hrep, hr⟩ := h.rep.last
 have hpt := h.unf.ptr st.length (by simp [hvl])
 obtain ⟨g, cap, rfl, hc1, hc2, hc3, hb, pn, hfz⟩ := h.unf.row.row.at_ hpt
 have p0 := h.unf.blk.blk.cell 0 rfl
 have hvn : (vs' ++ [v]).length = st.length + 1 := by simp [hvl]
 have hnn : ∀ q : Ue, (vs' ++ [q] ++ [])[st.length]? = some q := fun q => by rw [List.append_nil, List.getElem?_append_right (by omega), hvl, Nat.sub_self]; rfl
 have hset : ∀ q q' : Ue, (vs' ++ [q] ++ []).set st.length q' = vs' ++ [q'] ++ [] := fun q q' => by rw [List.append_nil, List.append_nil, ← hvl]; simp
 have U1 := h.unf.set (hnn v) (u' := ⟨v.x, v.lo, v.li, true⟩) (j := 3) (v := .bool true) (by omega) rfl
 rw [hset] at U1
 have U2 := U1.set (hnn _) (u' := ⟨v.x, v.lo, b, true⟩) (j := 2) (v := .int .u8 (b : Int)) (by omega) rfl
 rw [hset] at U2
 have U3 := U2.set (hnn _) (u' := ⟨v.x, o, b, true⟩) (j := 1) (v := .int .u64 (o : Int)) (by omega) rfl
 rw [hset] at U3
 have hp6 : col (plc cb bs st.length).1 = 6 := by
  unfold plc; split
  ·exact h.unf.cache.col
  ·exact (h.unf.far _ v (by omega) (hnn v)).col
 have hbt : ∀ {b : Nat} {cs : List Value} {t : TypeId}, Blk w b cs t → t ≠ 158 → b ≠ (plc cb bs st.length).1 := fun {b cs t} hb ht => by
  unfold plc
  split
  ·exact blk_ne hb h.unf.cache.blk ht
  ·exact blk_ne hb (h.unf.far _ v (by omega) (hnn v)).blk ht
 have K3 : Kp (fun d => d = 6) col w col (((w.setCell ⟨(plc cb bs st.length).1, (plc cb bs st.length).2 + 3, none⟩ (.bool true)).setCell ⟨(plc cb bs st.length).1, (plc cb bs st.length).2 + 2, none⟩ (.int .u8 (b : Int))).setCell ⟨(plc cb bs st.length).1, (plc cb bs st.length).2 + 1, none⟩ (.int .u64 (o : Int))) := (((Kp.refl _ col w).set _ hp6).set _ hp6).set _ hp6
 have hc := fun j v' hv => h.unf.cell (hnn v) (j := j) (v := v') hv
 have hrep3 := h.rep.set (i := st.length) (x := x) (v' := ⟨v.x, o, b, true⟩) (u' := ⟨u.nd, some (b, o)⟩) (by rw [← hxl]; simp) ⟨hr.hx, hr.hn, fun i o' e => (by cases e; exact ⟨rfl, rfl, rfl⟩), fun e => (by cases e)⟩
 have e1 : (vs' ++ [v]).set st.length ⟨v.x, o, b, true⟩ = vs' ++ [⟨v.x, o, b, true⟩] := by rw [← hvl]; simp
 have e2 : (st ++ [u]).set st.length ⟨u.nd, some (b, o)⟩ = st ++ [⟨u.nd, some (b, o)⟩] := by simp
 rw [e1, e2] at hrep3
 have hfz' : ∀ j, w.frozen? ⟨(plc cb bs st.length).1, (plc cb bs st.length).2 + j, none⟩ = false := fun j => by
  unfold plc
  split
  ·exact h.unf.cache.blk.frz _
  ·exact (h.unf.far _ v (by omega) (hnn v)).blk.frz _
 have hl3 : (vs' ++ [v]).length = (vs' ++ [(⟨v.x, o, b, true⟩ : Ue)]).length := by simp
 refine ⟨g, cap, _, _, _, by rw [hvn] at p0; exact p0, by omega, hc2, pn, ⟨_, (hc 3 _ rfl).1⟩, ⟨_, (hc 2 _ rfl).1⟩, ⟨_, (hc 1 _ rfl).1⟩, hfz', hp6, h.unf.row.col g (by rfl), hbt hb (by decide), hbt h.unf.blk.blk (by decide), rfl, ⟨_, _, _, _, _, _, _, _, _, _, h.unf' K3 (by rw [← hl3]; exact U3) hrep3 h.sub h.nodup h.held⟩, K3⟩

set_option maxHeartbeats 1000000 in
set_option maxRecDepth 100000 in
theorem addsx_calls {b o kb ko kc : Nat} {l : List Nat} (h : Cr w col ub cb pb K (st ++ [u])) (hl : st.length + l.length ≤ 900000) (hk : Byts w kb ko (b :: l)) (hkc : ¬ crc (col kb)) (hkl : l.length + 1 ≤ kc) (hkm : kc ≤ maxLen) :
  Calls Tryz.prog 52 #[.pointer (some ⟨ub, 0, none⟩), .slice (some ⟨kb, ko, none⟩) (l.length + 1) kc, .int .u64 (o : Int)] w fun e w' => e = .returned (.tuple #[]) ∧ ∃ col', Cr w' col' ub cb pb K (st ++ ⟨u.nd, some (b, o)⟩ :: chain l) ∧ Kp crc col w col' w' := by
 obtain ⟨g, cap, pB, pO, W3, p0, hc1, hc2, pn, ⟨v3, a3⟩, ⟨v2, a2⟩, ⟨v1, a1⟩, hfz, cp6, cg6, hgp, hup, hW3, h3, k3⟩ := h.top b o
 have z3 := hfz 3
 have z2 := hfz 2
 have z1 := hfz 1
 have k0 := hk.at_ 0 b rfl
 have hkp : kb ≠ pB := fun e => hkc (by rw [e, cp6]; exact .inr (.inr (.inl rfl)))
 have hkb : kb < w.heap.size := World.block_lt_of_cell? w _ k0
 have hk3 := hk.kp k3 (fun e => hkc (.inr (.inr (.inl e))))
 have s0 : (w.setCell ⟨pB, pO + 3, none⟩ (.bool true)).cell? ⟨ub, 0, none⟩ = some (.slice (some ⟨g, 0, none⟩) (st.length + 1) cap) := by
  rw [World.cell?_setCell_other _ _ _ _ (fun e => hup (by injection e with e; exact e.symm))]; exact p0
 have sn : (w.setCell ⟨pB, pO + 3, none⟩ (.bool true)).cell? ⟨g, st.length, none⟩ = some (.pointer (some ⟨pB, pO, none⟩)) := by
  rw [World.cell?_setCell_other _ _ _ _ (fun e => hgp (by injection e with e; exact e.symm))]; exact pn
 have sk : (w.setCell ⟨pB, pO + 3, none⟩ (.bool true)).cell? ⟨kb, ko, none⟩ = some (.int .u8 (b : Int)) := by
  rw [World.cell?_setCell_other _ _ _ _ (fun e => hkp (by injection e with e; exact e.symm))]; exact k0
 have t0 : ((w.setCell ⟨pB, pO + 3, none⟩ (.bool true)).setCell ⟨pB, pO + 2, none⟩ (.int .u8 (b : Int))).cell? ⟨ub, 0, none⟩ = some (.slice (some ⟨g, 0, none⟩) (st.length + 1) cap) := by
  rw [World.cell?_setCell_other _ _ _ _ (fun e => hup (by injection e with e; exact e.symm))]; exact s0
 have tn : ((w.setCell ⟨pB, pO + 3, none⟩ (.bool true)).setCell ⟨pB, pO + 2, none⟩ (.int .u8 (b : Int))).cell? ⟨g, st.length, none⟩ = some (.pointer (some ⟨pB, pO, none⟩)) := by
  rw [World.cell?_setCell_other _ _ _ _ (fun e => hgp (by injection e with e; exact e.symm))]; exact sn
 have e1 : IntKind.i64.wrap (((st.length : Nat) : Int)) = ((st.length : Nat) : Int) := by rw [IntWalk.i64_in _ (by omega)]
 have e5 : ((st.length : Nat) : Int) < ((st.length : Nat) : Int) + 1 := by omega
 have H3 := Lib.hid (And.intro h3 (And.intro k3 (And.intro hk3 hW3)))
 have HKB := Lib.hid hk
 clear hW3 h h3 k3 hfz hk hk3 k0 hkp hgp hup cp6 cg6
 generalize hn : st.length = n at *
 have HN := Lib.hid hn
 clear hn
 have el3 : ¬ ((l.length : Int) + 1 = 0) := by omega
 have el4 : (0 : Int) < (l.length : Int) + 1 := by omega
 by_cases hk1 : kc = 1
 ·have hl0 : l = [] := by cases l with
   | nil => rfl
   | cons c l => simp at hkl; omega
  subst hl0 hk1
  simp only [List.length_nil, Nat.zero_add]
  go_enter Tryz.func52, Tryz.ntmps52
  go_wp2_with fail
  refine wp_region_seqV (fun W => W.cell? ⟨ub, 0, none⟩ = some (.slice (some ⟨g, 0, none⟩) (n + 1) cap) ∧ W.cell? ⟨g, n, none⟩ = some (.pointer (some ⟨pB, pO, none⟩)) ∧ W.cell? ⟨kb, ko, none⟩ = some (.int .u8 (b : Int))) (fun i => decide (i ≠ 12)) (fun i => ![3, 6, 9].contains i && decide (i ≠ 12)) (fun i => decide (i = 12)) [0, 1, 2, 3, 4, 5, 6, 7, 8, 9, 10, 11, 12] (by kernel_rfl) (by kernel_rfl) (fun c a d v w h => by cases d <;> exact h) ⟨s0, sn, sk⟩ ?_
  iterate 3 (apply seqV_pure (ho := rfl) (hr := rfl) (hg := rfl); (intro w'; go_simp; rfl))
  (apply seqV_read (ho := rfl) (hr := rfl) (hp := rfl) (hg := rfl); (rintro w' ⟨q0, q1, q2⟩; go_simp; rfl))
  iterate 2 (apply seqV_pure (ho := rfl) (hr := rfl) (hg := rfl); (intro w'; go_simp; rfl))
  (apply seqV_read (ho := rfl) (hr := rfl) (hp := rfl) (hg := rfl); (rintro w' ⟨q0, q1, q2⟩; go_simp; rfl))
  iterate 2 (apply seqV_pure (ho := rfl) (hr := rfl) (hg := rfl); (intro w'; go_simp; rfl))
  (apply seqV_read (ho := rfl) (hr := rfl) (hp := rfl) (hg := rfl); (rintro w' ⟨q0, q1, q2⟩; go_simp; rfl))
  iterate 2 (apply seqV_pure (ho := rfl) (hr := rfl) (hg := rfl); (intro w'; go_simp; rfl))
  refine seqV_do rfl rfl fun K hK => ?_
  go_simp
  refine hK _ _ (fun h => by cases h) ?_
  clear hK K
  unfold seqV
  go_simp
  go_wp2_with fail
  obtain ⟨h3, k3, hk3, hW3⟩ := H3.out
  rw [← hW3]
  have h0 : Cr W3.drew col ub cb pb K (st ++ ⟨u.nd, some (b, o)⟩ :: chn (([] : List Nat).take 0)) := by simpa [chn] using h3.drew
  have k0' : Kp crc col w col W3.drew := (kp6 k3).drew
  have HS := Lib.hid (And.intro h0 k0')
  have HK := Lib.hid hk3
  clear h3 k3 hk3 hW3 h0 k0' a1 a2 a3 z1 z2 z3 s0 sn sk t0 tn p0 pn H3
  go_loopg [53] (0 + 1) (fun g i wx => ∃ j, j ≤ 0 ∧ g = 0 - j + 1 ∧ i = .int .i64 (j : Int) ∧ ∃ col1, Cr wx col1 ub cb pb K (st ++ ⟨u.nd, some (b, o)⟩ :: chn (([] : List Nat).take j)) ∧ Kp crc col w col1 wx)
  case atStart => exact ⟨0, by omega, by omega, rfl, col, HS.out⟩
  case round =>
   obtain ⟨j, hj, rfl, rfl, col1, hC, hK1⟩ := hrel
   clear HS
   by_cases hjl : j < 0
   ·omega
   ·obtain rfl : j = 0 := by omega
    have ej : ¬ ((0 : Nat) : Int) < ((0 : Nat) : Int) := by omega
    have e9 : ([] : List Nat).take 0 = ([] : List Nat) := by simp
    rw [e9] at hC
    have hpe := pushe_calls hC (by simp [chn]; have := HN.out; omega) true
    have HE := Lib.hid hK1
    clear hC hK1
    go_wp2_with fail
    refine hpe.mono ?_
    rintro e w9 ⟨rfl, col9, hC9, hK9⟩
    have HF := Lib.hid (And.intro hC9 (HE.out.trans hK9))
    clear hC9 hK9
    go_wp2_with fail
    go_end0
    obtain ⟨h9, k9⟩ := HF.out
    refine ⟨rfl, col9, ?_, k9⟩
    rw [chain_chn]
    simpa using h9
 ·have el : (1 : Int) ≤ (l.length : Int) + 1 := by omega
  have el2 : (l.length : Int) + 1 ≤ (kc : Int) := by omega
  have el6 : ¬ (kc - 1 = 0) := by omega
  have el5 : ¬ ((kc : Int) - 1 = 0) := by omega
  go_enter Tryz.func52, Tryz.ntmps52
  go_wp2_with fail
  refine wp_region_seqV (fun W => W.cell? ⟨ub, 0, none⟩ = some (.slice (some ⟨g, 0, none⟩) (n + 1) cap) ∧ W.cell? ⟨g, n, none⟩ = some (.pointer (some ⟨pB, pO, none⟩)) ∧ W.cell? ⟨kb, ko, none⟩ = some (.int .u8 (b : Int))) (fun i => decide (i ≠ 12)) (fun i => ![3, 6, 9].contains i && decide (i ≠ 12)) (fun i => decide (i = 12)) [0, 1, 2, 3, 4, 5, 6, 7, 8, 9, 10, 11, 12] (by kernel_rfl) (by kernel_rfl) (fun c a d v w h => by cases d <;> exact h) ⟨s0, sn, sk⟩ ?_
  iterate 3 (apply seqV_pure (ho := rfl) (hr := rfl) (hg := rfl); (intro w'; go_simp; rfl))
  (apply seqV_read (ho := rfl) (hr := rfl) (hp := rfl) (hg := rfl); (rintro w' ⟨q0, q1, q2⟩; go_simp; rfl))
  iterate 2 (apply seqV_pure (ho := rfl) (hr := rfl) (hg := rfl); (intro w'; go_simp; rfl))
  (apply seqV_read (ho := rfl) (hr := rfl) (hp := rfl) (hg := rfl); (rintro w' ⟨q0, q1, q2⟩; go_simp; rfl))
  iterate 2 (apply seqV_pure (ho := rfl) (hr := rfl) (hg := rfl); (intro w'; go_simp; rfl))
  (apply seqV_read (ho := rfl) (hr := rfl) (hp := rfl) (hg := rfl); (rintro w' ⟨q0, q1, q2⟩; go_simp; rfl))
  iterate 2 (apply seqV_pure (ho := rfl) (hr := rfl) (hg := rfl); (intro w'; go_simp; rfl))
  refine seqV_do rfl rfl fun K hK => ?_
  go_simp
  refine hK _ _ (fun h => by cases h) ?_
  clear hK K
  unfold seqV
  go_simp
  go_wp2_with fail
  obtain ⟨h3, k3, hk3, hW3⟩ := H3.out
  rw [← hW3]
  have h0 : Cr W3.drew col ub cb pb K (st ++ ⟨u.nd, some (b, o)⟩ :: chn (l.take 0)) := by simpa [chn] using h3.drew
  have k0' : Kp crc col w col W3.drew := (kp6 k3).drew
  have HS := Lib.hid (And.intro h0 k0')
  have HK := Lib.hid hk3
  clear h3 k3 hk3 hW3 h0 k0' a1 a2 a3 z1 z2 z3 s0 sn sk t0 tn p0 pn H3
  go_loopg [53] (l.length + 1) (fun g i wx => ∃ j, j ≤ l.length ∧ g = l.length - j + 1 ∧ i = .int .i64 (j : Int) ∧ ∃ col1, Cr wx col1 ub cb pb K (st ++ ⟨u.nd, some (b, o)⟩ :: chn (l.take j)) ∧ Kp crc col w col1 wx)
  case atStart => exact ⟨0, by omega, by omega, rfl, col, HS.out⟩
  case round =>
   obtain ⟨j, hj, rfl, rfl, col1, hC, hK1⟩ := hrel
   clear HS
   by_cases hjl : j < l.length
   ·have ej : (j : Int) < (l.length : Int) := by omega
    obtain ⟨c, hc⟩ : ∃ c, l[j]? = some c := ⟨_, List.getElem?_eq_getElem hjl⟩
    have kcell : wr.cell? ⟨kb, ko + 1 + j, none⟩ = some (.int .u8 (c : Int)) := by
     have h1 := HK.out.at_ (j + 1) c (by simpa using hc)
     have h2 := hK1.fr.cell (HKB.out.at_ (j + 1) c (by simpa using hc)) hkc
     rw [show ko + 1 + j = ko + (j + 1) by omega]; exact h2
    obtain ⟨sv, full, bs, vs, xs, PL, L, nd, tv, nx, h⟩ := hC
    have hu0 := h.unf
    rw [List.append_nil] at hu0
    have hg := uget_calls hu0
    have hvl := h.plen
    have hvm : vs.length ≤ 950000 := by rw [hvl]; simp [chn]; have := HN.out; omega
    have hcj : ¬ crc (col1 kb) := by rw [hK1.same kb hkb]; exact hkc
    have HH := Lib.hid (And.intro h hK1)
    clear h hu0 hvl hK1
    go_wp2_with fail
    refine hg.mono ?_
    rintro e w1 ⟨bs1, col2, rfl, hU1, hK1⟩
    have h1 : CrI w1 col2 ub cb pb K (st ++ ⟨u.nd, some (b, o)⟩ :: chn (l.take j)) [ue0] sv full bs1 vs xs PL L nd tv nx := HH.out.1.unf' hK1 hU1 HH.out.1.rep HH.out.1.sub HH.out.1.nodup HH.out.1.held
    have hgt := get_calls h1.nds h1.pool h1.poolsub.1 h1.poolsub.2
    have p2 := h1.unf.blk.blk.cell 2 rfl
    obtain ⟨qB, hqB⟩ : ∃ qB, Hid ((plc cb bs1 vs.length).1 = qB) := ⟨_, Lib.hid rfl⟩
    obtain ⟨qO, hqO⟩ : ∃ qO, Hid ((plc cb bs1 vs.length).2 = qO) := ⟨_, Lib.hid rfl⟩
    rw [hqB.out, hqO.out]
    have H1 := Lib.hid (And.intro h1 (HH.out.2.trans (kp6 hK1)))
    clear h1 hU1 hK1 hg HH kcell
    go_wp2_with fail
    refine hgt.mono ?_
    rintro e w2 ⟨x, rfl, hG⟩
    obtain ⟨PL2, L2, nd2, tv2, nx2, col3, h2, hK2⟩ := H1.out.1.get hG
    have hk2 := H1.out.2.trans (kpn hK2)
    have hu : ∀ q : Ue, (vs ++ [q])[vs.length]? = some q := fun q => by simp
    have hset : ∀ q q' : Ue, (vs ++ [q]).set vs.length q' = vs ++ [q'] := fun q q' => by simp
    have hcp : col3 (plc cb bs1 vs.length).1 = 6 := by
     unfold plc; split
     ·exact h2.unf.cache.col
     ·exact (h2.unf.far _ ue0 (by omega) (hu _)).col
    obtain ⟨c0, z0⟩ := h2.unf.cell (hu ue0) (j := 0) (v := .pointer none) rfl
    have U3 := h2.unf.set (hu ue0) (u' := ⟨some x, 0, 0, false⟩) (j := 0) (v := .pointer (some ⟨x, 0, none⟩)) (by omega) rfl
    rw [hset] at U3
    obtain ⟨c3, z3⟩ := U3.cell (hu _) (j := 3) (v := .bool false) rfl
    have U4 := U3.set (hu _) (u' := ⟨some x, 0, 0, true⟩) (j := 3) (v := .bool true) (by omega) rfl
    rw [hset] at U4
    obtain ⟨c4, z4⟩ := U4.cell (hu _) (j := 2) (v := .int .u8 0) rfl
    have U5 := U4.set (hu _) (u' := ⟨some x, 0, c, true⟩) (j := 2) (v := .int .u8 (c : Int)) (by omega) rfl
    rw [hset] at U5
    obtain ⟨c5, z5⟩ := U5.cell (hu _) (j := 1) (v := .int .u64 0) rfl
    have U6 := U5.set (hu _) (u' := ⟨some x, 0, c, true⟩) (j := 1) (v := .int .u64 0) (by omega) rfl
    rw [hset] at U6
    have K6 : Kp (fun d => d = 6) col3 w2 col3 ((((w2.setCell ⟨(plc cb bs1 vs.length).1, (plc cb bs1 vs.length).2 + 0, none⟩ (.pointer (some ⟨x, 0, none⟩))).setCell ⟨(plc cb bs1 vs.length).1, (plc cb bs1 vs.length).2 + 3, none⟩ (.bool true)).setCell ⟨(plc cb bs1 vs.length).1, (plc cb bs1 vs.length).2 + 2, none⟩ (.int .u8 (c : Int))).setCell ⟨(plc cb bs1 vs.length).1, (plc cb bs1 vs.length).2 + 1, none⟩ (.int .u64 0)) := ((((Kp.refl _ col3 w2).set _ hcp).set _ hcp).set _ hcp).set _ hcp
    have h6 := h2.unf' K6 U6 h2.rep h2.sub h2.nodup h2.held
    have b6 := h6.unf.blk.blk.cell 0 rfl
    have hrow := h6.unf.row.row
    have hk6 := hk2.trans (kp6 K6)
    have u6 := h6.unf.blk.blk
    rw [hqB.out, hqO.out] at c0 z0 c3 z3 c4 z4 c5 z5 b6 h6 hrow hk6 u6
    rw [Nat.add_zero] at c0 z0 c3 z3 c4 z4 c5 z5 b6 h6 hrow hk6 u6
    obtain ⟨W6, hW6⟩ : ∃ W6, Hid (W6 = (((w2.setCell ⟨qB, qO, none⟩ (.pointer (some ⟨x, 0, none⟩))).setCell ⟨qB, qO + 3, none⟩ (.bool true)).setCell ⟨qB, qO + 2, none⟩ (.int .u8 (c : Int))).setCell ⟨qB, qO + 1, none⟩ (.int .u64 0)) := ⟨_, Lib.hid rfl⟩
    have hsz : Hid (W6.heap.size = w2.heap.size) := Lib.hid (by rw [hW6.out]; simp [World.setCell])
    rw [← hW6.out] at h6 hk6 hrow u6
    have H6 := Lib.hid (And.intro h6 hk6)
    obtain ⟨A, cap6, hsv, hcap6, hmax6⟩ := h6.unf.row.cap
    subst hsv
    clear h2 h6 K6 U3 U4 U5 U6 hk2 hk6 H1 hgt hG hK2 hu hset p2 hcp
    generalize hm : vs.length = m at *
    have HM := Lib.hid hm
    clear hm
    go_wp2_with (at_builtin; (rw [← hW6.out]; refine app1f W6 w2.heap.size hsz.out rfl _ _ 160 rfl 159 (.pointer none) 1 8 (by kernel_rfl) (by kernel_rfl) rfl (.slice A m cap6) m full [.pointer (some ⟨qB, qO, none⟩)] rfl rfl hrow rfl (by simp [Value.oneCell']) (by omega) (by decide) ?_); intro v' w7 full' hr7 hF7 hc7; have hsv := rowv hr7; obtain ⟨A', cap', rfl⟩ := hsv; have u7 := u6.fr hF7 (rowf_ne hrow u6 (by decide)); have d7 := u7.cell 0 rfl; have e7 := u7.frz 0)
    go_roundg (l.length - (j + 1) + 1)
    case measure => omega
    case rel =>
     obtain ⟨h6, hk6⟩ := H6.out
     have hm := HM.out
     subst hm
     rw [← hqB.out, ← hqO.out] at hc7
     obtain ⟨hcr, hk7⟩ := h6.push (u := ⟨⟨false, 0, []⟩, some (c, 0)⟩) ⟨rfl, h6.ndx, fun i o e => (by cases e; exact ⟨rfl, rfl, rfl⟩), fun e => (by cases e)⟩ hr7 hF7 hc7
     refine ⟨j + 1, by omega, rfl, by simp, _, ?_, hk6.trans (kp6 hk7)⟩
     rw [List.take_add_one, hc]
     simpa [chn] using hcr
   ·obtain rfl : j = l.length := by omega
    have ej : ¬ ((l.length : Nat) : Int) < ((l.length : Nat) : Int) := by omega
    have e9 : l.take l.length = l := by simp
    rw [e9] at hC
    have hpe := pushe_calls hC (by simp [chn]; have := HN.out; omega) true
    have HE := Lib.hid hK1
    clear hC hK1
    go_wp2_with fail
    refine hpe.mono ?_
    rintro e w9 ⟨rfl, col9, hC9, hK9⟩
    have HF := Lib.hid (And.intro hC9 (HE.out.trans hK9))
    clear hC9 hK9
    go_wp2_with fail
    go_end0
    obtain ⟨h9, k9⟩ := HF.out
    refine ⟨rfl, col9, ?_, k9⟩
    rw [chain_chn]
    simpa using h9
end
end
section
open Go.RowKit Fmt
theorem cat_calls (w : World) (l r s : Nat) (hs : l + r = s) (h : s < 18446744073709551616) :
  Calls Tryz.prog 87 #[.int .u64 (l : Int), .int .u64 (r : Int)] w fun e w' => e = .returned (.int .u64 (s : Int)) ∧ w = w' := by
 have e1 : IntKind.u64.wrap ((l : Int) + (r : Int)) = (s : Int) := by rw [IntWalk.u64_in _ (by omega)]; omega
 go_enter Tryz.func87, Tryz.ntmps87
 go_wp2_with fail
 go_ret
 exact ⟨rfl, rfl⟩
theorem sub_calls (w : World) (l r s : Nat) (h : r + s = l) (h2 : l < 18446744073709551616) :
  Calls Tryz.prog 69 #[.int .u64 (l : Int), .int .u64 (r : Int)] w fun e w' => e = .returned (.int .u64 (s : Int)) ∧ w = w' := by
 have e1 : IntKind.u64.wrap ((l : Int) - (r : Int)) = (s : Int) := by rw [IntWalk.u64_in _ (by omega)]; omega
 go_enter Tryz.func69, Tryz.ntmps69
 go_wp2_with fail
 go_ret
 exact ⟨rfl, rfl⟩
theorem pre_calls (w : World) (l r s : Nat) (hs : min l r = s) :
  Calls Tryz.prog 68 #[.int .u64 (l : Int), .int .u64 (r : Int)] w fun e w' => e = .returned (.int .u64 (s : Int)) ∧ w = w' := by
 subst hs
 by_cases h : l < r
 ·have e1 : (l : Int) < (r : Int) := by omega
  have e2 : min l r = l := by omega
  rw [e2]
  go_enter Tryz.func68, Tryz.ntmps68
  go_wp2_with fail
  go_ret
  exact ⟨rfl, rfl⟩
 ·have e1 : ¬ (l : Int) < (r : Int) := by omega
  have e2 : min l r = r := by omega
  rw [e2]
  go_enter Tryz.func68, Tryz.ntmps68
  go_wp2_with fail
  go_ret
  exact ⟨rfl, rfl⟩
theorem flat3_set (u : Value) : ∀ (l : List (Nat × Nat × Nat)) (j : Nat) (t t' : Nat × Nat × Nat), l[j]? = some t → arcCells t' = (arcCells t).set 0 u → (l.flatMap arcCells).set (j * 3) u = (l.set j t').flatMap arcCells
 | [], j, t, t', h, _ => by simp at h
 | a :: l, 0, t, t', h, e => by
  simp at h
  subst h
  simp only [List.flatMap_cons, List.set_cons_zero, Nat.zero_mul, e]
  rw [List.set_append_left _ _ (by simp [arcCells])]
 | a :: l, j + 1, t, t', h, e => by
  simp at h
  simp only [List.flatMap_cons, List.set_cons_succ]
  rw [List.set_append_right _ _ (by simp [arcCells]; omega)]
  have : (j + 1) * 3 - (arcCells a).length = j * 3 := by simp [arcCells]; omega
  rw [this, flat3_set u l j t t' h e]
theorem Nds.setOut {w : World} {col : Col} {L : List Nat} {nd : Nat → Nd} {tv : Nat → Value} {nx : Nat → Option Nat} (h : Nds w col L nd tv nx) {x : Nat} (hx : x ∈ L) {j : Nat} {t : Nat × Nat × Nat} (ht : (nd x).arcs[j]? = some t) :
  ∃ g c, tv x = .slice (some ⟨g, 0, none⟩) (nd x).arcs.length c ∧ (nd x).arcs.length ≤ c ∧ c ≤ maxLen ∧ w.cell? ⟨g, j * 3, none⟩ = some (.int .u64 (t.2.1 : Int)) ∧ w.frozen? ⟨g, j * 3, none⟩ = false ∧ col g = 5 ∧
   ∀ o' : Nat, Nds (w.setCell ⟨g, j * 3, none⟩ (.int .u64 (o' : Int))) col L (upd nd x ⟨(nd x).fin, (nd x).fout, (nd x).arcs.set j (t.1, o', t.2.2)⟩) tv nx ∧ Kp (fun d => d = 5) col w col (w.setCell ⟨g, j * 3, none⟩ (.int .u64 (o' : Int))) := by
 have hn := h.node x hx
 have hjl := (List.getElem?_eq_some_iff.1 ht).1
 have hat := flat3_at arcCells 3 (fun _ => rfl) (nd x).arcs j 0 t _ ht rfl
 rw [Nat.mul_comm 3 j, Nat.add_zero] at hat
 obtain ⟨g, c, e, h1, h2, h3, h4⟩ := own_cell hn.row.own hat
 have hg5 : col g = 5 := hn.row.col g (by rw [e]; rfl)
 refine ⟨g, c, e, h1, h2, h3, h4, hg5, fun o' => ?_⟩
 have hS : Fr (fun k => k = g) w (w.setCell ⟨g, j * 3, none⟩ (.int .u64 (o' : Int))) := Fr.setCell (F := fun k => k = g) (p := ⟨g, j * 3, none⟩) (Fr.refl _ w) (fun _ => rfl) _
 have hgx : x ≠ g := fun e2 => by have := hn.blk.col; rw [e2, hg5] at this; cases this
 have hnode : NodeC (w.setCell ⟨g, j * 3, none⟩ (.int .u64 (o' : Int))) col x ⟨(nd x).fin, (nd x).fout, (nd x).arcs.set j (t.1, o', t.2.2)⟩ (tv x) (nx x) := by
  refine ⟨⟨hn.blk.blk.fr hS hgx, hn.blk.col⟩, ⟨?_, hn.row.col⟩⟩
  have hlen := hn.row.own.1
  rcases hn.row.own.2 with ⟨e0, _⟩ | ⟨g', cap, cur, e0, a0, hb, a1, a2, a3, a4⟩
  ·rw [e] at e0; injection e0 with e0; cases e0
  ·rw [e] at e0
   injection e0 with e0 _ e2
   injection e0 with e0
   injection e0 with e0
   subst e0 e2
   have hb' : Blk w g cur.toList 196 := by unfold Blk; simpa using hb
   have hb2 := hb'.set (j * 3) (.int .u64 (o' : Int))
   rw [← flat3_set (.int .u64 (o' : Int)) (nd x).arcs j t (t.1, o', t.2.2) ht rfl]
   show World.ownsRow _ 0 196 3 (tv x) ((nd x).arcs.set j (t.1, o', t.2.2)).length _
   rw [List.length_set]
   refine ⟨by rw [List.length_set]; exact hlen, .inr ⟨g, c, (cur.toList.set (j * 3) (.int .u64 (o' : Int))).toArray, e, a0, hb2, a1, a2, by simpa using a3, ?_⟩⟩
   rw [← a4]
   simp [List.take_set]
 have hone := h.one hx (w' := w.setCell ⟨g, j * 3, none⟩ (.int .u64 (o' : Int))) (hS.mono (fun k _ e3 => .inr (by rw [e, e3]; rfl))) (fun _ _ => rfl) hnode (.inl rfl)
 rw [upd_same, upd_same] at hone
 exact ⟨hone, (Kp.refl _ col w).set _ hg5⟩
theorem kdrew {w : World} {col : Col} : Kp (fun _ => False) col w col w.drew := (Kp.refl _ col w).drew
section
variable {w : World} {col : Col} {ub cb pb : Nat} {sv : Value} {full : List Value} {bs : Nat → Nat} {vs : List Ue} {v : Ue} {m i x p : Nat} {L : List Nat} {nd : Nat → Nd} {tv : Nat → Value} {nx : Nat → Option Nat}
theorem ue_no {v : Ue} (h : v.hl = false) (p : Nat) : (⟨v.x, if v.hl then p + v.lo else v.lo, v.li, v.hl⟩ : Ue) = v := by
 obtain ⟨a, b, c, d⟩ := v
 simp at h; subst h; rfl
theorem set_self {α : Type} {l : List α} {i : Nat} {v : α} (h : l[i]? = some v) : l.set i v = l := by
 apply List.ext_getElem?
 intro k
 rw [List.getElem?_set]
 have := (List.getElem?_eq_some_iff.1 h).1
 by_cases e : i = k
 ·subst e; rw [if_pos rfl, if_pos this, h]
 ·simp [e]
/-- What addOutputPrefix leaves. -/
def AddPost (w : World) (col : Col) (ub cb pb : Nat) (sv : Value) (full : List Value) (bs : Nat → Nat) (vs : List Ue) (v : Ue) (m i x p : Nat) (L : List Nat) (nd : Nat → Nd) (tv : Nat → Value) (nx : Nat → Option Nat) (w' : World) : Prop :=
 Kp (fun d => d = 4 ∨ d = 5 ∨ d = 6) col w col w' ∧ Unf w' col ub cb pb sv full bs m (vs.set i ⟨v.x, if v.hl then p + v.lo else v.lo, v.li, v.hl⟩) ∧ Nds w' col L (upd nd x (addN p (nd x))) tv nx
/-- Outputs of the first j transitions raised. -/
def arcp (p j : Nat) (l : List (Nat × Nat × Nat)) : List (Nat × Nat × Nat) := (l.take j).map (fun t => (t.1, p + t.2.1, t.2.2)) ++ l.drop j
theorem arcp_at {p j : Nat} {l : List (Nat × Nat × Nat)} {t : Nat × Nat × Nat} (h : l[j]? = some t) : (arcp p j l)[j]? = some t ∧ (arcp p j l).set j (t.1, p + t.2.1, t.2.2) = arcp p (j + 1) l := by
 have hl := (List.getElem?_eq_some_iff.1 h).1
 have e1 : ((l.take j).map (fun t : Nat × Nat × Nat => (t.1, p + t.2.1, t.2.2))).length = j := by simp; omega
 have e2 : l.drop j = t :: l.drop (j + 1) := by rw [List.drop_eq_getElem_cons hl]; congr 1; exact (List.getElem?_eq_some_iff.1 h).2
 unfold arcp
 constructor
 ·rw [List.getElem?_append_right (by omega), e1, Nat.sub_self, e2]; rfl
 ·rw [List.set_append_right _ _ (by omega), e1, Nat.sub_self, e2, List.set_cons_zero, List.take_add_one, h]
  simp
theorem arcp_len (p j : Nat) (l : List (Nat × Nat × Nat)) : (arcp p j l).length = l.length := by simp [arcp]; omega
set_option maxHeartbeats 2000000 in
set_option maxRecDepth 100000 in
theorem addo_calls (hU : Unf w col ub cb pb sv full bs m vs) (hN : Nds w col L nd tv nx) (hv : vs[i]? = some v) (hvx : v.x = some x) (hx : x ∈ L) (hlen : (nd x).arcs.length ≤ 256) (hb1 : ∀ t, t ∈ (nd x).arcs → p + t.2.1 < 18446744073709551616) (hb2 : (nd x).fin = true → p + (nd x).fout < 18446744073709551616) (hb3 : v.hl = true → p + v.lo < 18446744073709551616) :
  Calls Tryz.prog 70 #[.pointer (some ⟨(plc cb bs i).1, (plc cb bs i).2, none⟩), .int .u64 (p : Int)] w fun e w' => e = .returned (.tuple #[]) ∧ AddPost w col ub cb pb sv full bs vs v m i x p L nd tv nx w' := by
 have p0 : w.cell? ⟨(plc cb bs i).1, (plc cb bs i).2, none⟩ = some (.pointer (some ⟨x, 0, none⟩)) := by
  have := (hU.cell hv (j := 0) (v := ptrN v.x) rfl).1
  rw [hvx] at this; exact this
 have hnx := (hN.node x hx).blk.blk
 have n2 := hnx.cell 2 rfl
 have n0 := hnx.cell 0 rfl
 have f0 := hnx.frz 0
 obtain ⟨pB, hpB⟩ : ∃ pB, Hid ((plc cb bs i).1 = pB) := ⟨_, Lib.hid rfl⟩
 obtain ⟨pO, hpO⟩ : ∃ pO, Hid ((plc cb bs i).2 = pO) := ⟨_, Lib.hid rfl⟩
 rw [hpB.out, hpO.out] at p0 ⊢
 have hbF := Lib.hid hb2
 have HH := Lib.hid (And.intro hU (And.intro hN (And.intro hv (And.intro hvx (And.intro hb1 hb3)))))
 obtain ⟨fo, hfo⟩ : ∃ fo, Hid ((nd x).fout = fo) := ⟨_, Lib.hid rfl⟩
 obtain ⟨n, hn⟩ : ∃ n, Hid ((nd x).arcs.length = n) := ⟨_, Lib.hid rfl⟩
 obtain ⟨fin, hfin⟩ : ∃ fin, Hid ((nd x).fin = fin) := ⟨_, Lib.hid rfl⟩
 obtain ⟨FO, hFO⟩ : ∃ FO, Hid (FO = if fin then p + fo else fo) := ⟨_, Lib.hid rfl⟩
 rw [hfo.out] at n0 hbF
 rw [hfin.out] at n2 hbF
 rw [hn.out] at hlen
 clear hU hN hv hvx hb1 hb2 hb3 hnx
 go_enter Tryz.func70, Tryz.ntmps70
 go_upto_if 11 with fail
 go_cut [] (fun wx => Kp (fun d => d = 4) col w col wx ∧ Nds wx col L (upd nd x ⟨fin, FO, (nd x).arcs⟩) tv nx)
 case first => as_aux_lemma =>
  cases fin with
  | false =>
   go_wp2_with fail
   go_meet
   obtain ⟨hU, hN, -⟩ := HH.out
   refine ⟨Kp.refl _ _ _, ?_⟩
   have : upd nd x ⟨false, FO, (nd x).arcs⟩ = nd := by
    have e : (⟨false, FO, (nd x).arcs⟩ : Nd) = nd x := by
     have e1 : FO = (nd x).fout := by rw [hFO.out, hfo.out]; simp
     rw [e1, ← hfin.out]
    rw [e]; exact upd_same nd x
   rw [this]; exact hN
  | true =>
   have hbo := hbF.out rfl
   clear hbF
   obtain ⟨sm, hsm⟩ : ∃ sm, Hid (p + fo = sm) := ⟨_, Lib.hid rfl⟩
   rw [hsm.out] at hbo
   have hbo' := Lib.hid hbo
   clear hbo
   go_wp2_with fail
   refine wp_region_seqV (fun W => W.cell? ⟨pB, pO, none⟩ = some (.pointer (some ⟨x, 0, none⟩)) ∧ W.cell? ⟨x, 0, none⟩ = some (.int .u64 (fo : Int))) (fun i => decide (i ≠ 12 ∧ i ≠ 15)) (fun i => ![3, 8, 11].contains i && decide (i ≠ 12 ∧ i ≠ 15)) (fun i => decide (i = 15)) [0, 1, 2, 3, 4, 5, 6, 7, 8, 9, 10, 11, 12, 13, 14, 15] (by kernel_rfl) (by kernel_rfl) (fun c a d v w h => by cases d <;> exact h) ⟨p0, n0⟩ ?_
   iterate 3 (apply seqV_pure (ho := rfl) (hr := rfl) (hg := rfl); (intro w'; go_simp; rfl))
   (apply seqV_read (ho := rfl) (hr := rfl) (hp := rfl) (hg := rfl); (rintro w' ⟨q0, q1⟩; go_simp; rfl))
   go_simp
   iterate 3 (apply seqV_pure (ho := rfl) (hr := rfl) (hg := rfl); (intro w'; go_simp; rfl))
   go_simp
   iterate 1 (apply seqV_pure (ho := rfl) (hr := rfl) (hg := rfl); (intro w'; go_simp; rfl))
   (apply seqV_read (ho := rfl) (hr := rfl) (hp := rfl) (hg := rfl); (rintro w' ⟨q0, q1⟩; go_simp; rfl))
   go_simp
   iterate 2 (apply seqV_pure (ho := rfl) (hr := rfl) (hg := rfl); (intro w'; go_simp; rfl))
   (apply seqV_read (ho := rfl) (hr := rfl) (hp := rfl) (hg := rfl); (rintro w' ⟨q0, q1⟩; go_simp; rfl))
   go_simp
   refine seqV_do rfl rfl fun K hK => ?_
   go_simp
   refine (cat_calls _ p fo _ hsm.out hbo'.out).mono ?_
   rintro e w' ⟨rfl, hw'⟩
   obtain rfl := hw'.symm
   clear hw'
   refine hK _ _ (fun _ => ⟨p0, n0⟩) ?_
   clear hK K
   go_simp
   iterate 2 (apply seqV_pure (ho := rfl) (hr := rfl) (hg := rfl); (intro w'; go_simp; rfl))
   refine seqV_do rfl rfl fun K hK => ?_
   go_simp
   refine hK _ _ (fun h => by cases h) ?_
   clear hK K
   unfold seqV
   go_simp
   go_wp2_with fail
   go_meet
   obtain ⟨hU, hN, -⟩ := HH.out
   obtain ⟨h1, h2⟩ := hN.setOne hx (j := 0) (val := .int .u64 (sm : Int)) (n' := ⟨true, FO, (nd x).arcs⟩) (by rw [hFO.out, ← hsm.out, hfin.out]; rfl) rfl
   exact ⟨h2.drew, h1.kp kdrew (fun e => e) (fun e => e)⟩
 case rest => as_aux_lemma =>
 obtain ⟨hK4, hN4⟩ := hcut
 have hU4 := HH.out.1.kp hK4 (by omega)
 have hp0 : ∀ {w1 : World}, Unf w1 col ub cb pb sv full bs m vs → w1.cell? ⟨pB, pO, none⟩ = some (.pointer (some ⟨x, 0, none⟩)) := fun {w1} h => by
  have := (h.cell HH.out.2.2.1 (j := 0) (v := ptrN v.x) rfl).1
  rw [HH.out.2.2.2.1, hpB.out, hpO.out] at this; exact this
 have hp3 : ∀ {w1 : World}, Unf w1 col ub cb pb sv full bs m vs → w1.cell? ⟨pB, pO + 3, none⟩ = some (.bool v.hl) := fun {w1} h => by
  have := (h.cell HH.out.2.2.1 (j := 3) (v := .bool v.hl) rfl).1
  rw [hpB.out, hpO.out] at this; exact this
 have hn1 : ∀ {w1 : World} {N : Nd}, Nds w1 col L (upd nd x N) tv nx → N.arcs.length = n → ∃ A c, w1.cell? ⟨x, 1, none⟩ = some (.slice A n c) := fun {w1 N} h e => by
  have h1 := h.node x hx
  rw [upd_at] at h1
  obtain ⟨A, c, e1, _⟩ := h1.slc
  have := h1.blk.blk.cell 1 rfl
  rw [e1, e] at this
  exact ⟨A, c, this⟩
 have HP := Lib.hid (And.intro @hp0 (And.intro @hp3 @hn1))
 obtain ⟨A1, c1, n1⟩ := hn1 hN4 hn.out
 have p0 := hp0 hU4
 have H4 := Lib.hid (And.intro hK4 hN4)
 clear hp0 hp3 hn1 hK4 hN4 hU4 n0 n2 f0 hbF
 go_wp2_with fail
 clear p0 n1
 go_loopg [35] (n + 1) (fun gg i wx => ∃ j, j ≤ n ∧ gg = n - j + 1 ∧ i = .int .i64 (j : Int) ∧ Kp (fun d => d = 4 ∨ d = 5) col w col wx ∧ Nds wx col L (upd nd x ⟨fin, FO, arcp p j (nd x).arcs⟩) tv nx)
 case atStart => exact ⟨0, by omega, by omega, rfl, H4.out.1.mono fun _ e => .inl e, by simpa [arcp] using H4.out.2⟩
 case round =>
  obtain ⟨j, hj, rfl, rfl, hK5, hN5⟩ := hrel
  have hU5 := HH.out.1.kp hK5 (by omega)
  have p0 := HP.out.1 hU5
  by_cases hjn : j < n
  ·as_aux_lemma =>
   have ej : (j : Int) < (n : Int) := by omega
   obtain ⟨t, ht⟩ : ∃ t, (nd x).arcs[j]? = some t := ⟨_, List.getElem?_eq_getElem (by rw [hn.out]; exact hjn)⟩
   have hs := hN5.setOut hx (j := j) (t := t) (by rw [upd_at]; exact (arcp_at ht).1)
   simp only [upd_at, upd_upd, arcp_len, hn.out] at hs
   obtain ⟨g, c, htv, hc1, hc2, ca, cz, hg5, hset⟩ := hs
   have n1 : wr.cell? ⟨x, 1, none⟩ = some (.slice (some ⟨g, 0, none⟩) n c) := by
    have h1 := (hN5.node x hx).blk.blk.cell 1 rfl
    rw [htv] at h1; exact h1
   have hbo' := Lib.hid (HH.out.2.2.2.2.1 t (List.mem_of_getElem? ht))
   obtain ⟨sm, hsm⟩ : ∃ sm, Hid (p + t.2.1 = sm) := ⟨_, Lib.hid rfl⟩
   rw [hsm.out] at hbo'
   have hS := hset sm
   rw [← hsm.out, (arcp_at ht).2, hsm.out] at hS
   have HS := Lib.hid (And.intro hK5 hS)
   obtain ⟨tq, hto⟩ : ∃ tq, Hid (t.2.1 = tq) := ⟨_, Lib.hid rfl⟩
   rw [hto.out] at ca hsm
   clear hset hS hK5 hN5 hU5 ht htv hg5
   go_wp2_with fail
   refine wp_region_seqV (fun W => W.cell? ⟨pB, pO, none⟩ = some (.pointer (some ⟨x, 0, none⟩)) ∧ W.cell? ⟨x, 1, none⟩ = some (.slice (some ⟨g, 0, none⟩) n c) ∧ W.cell? ⟨g, j * 3, none⟩ = some (.int .u64 (tq : Int))) (fun i => decide (i ≠ 20 ∧ i ≠ 23)) (fun i => ![3, 6, 12, 15, 19].contains i && decide (i ≠ 20 ∧ i ≠ 23)) (fun i => decide (i = 23)) [0, 1, 2, 3, 4, 5, 6, 7, 8, 9, 10, 11, 12, 13, 14, 15, 16, 17, 18, 19, 20, 21, 22, 23] (by kernel_rfl) (by kernel_rfl) (fun c a d v w h => by cases d <;> exact h) ⟨p0, n1, ca⟩ ?_
   iterate 3 (apply seqV_pure (ho := rfl) (hr := rfl) (hg := rfl); (intro w'; go_simp; rfl))
   (apply seqV_read (ho := rfl) (hr := rfl) (hp := rfl) (hg := rfl); (rintro w' ⟨q0, q1, q2⟩; go_simp; rfl))
   go_simp
   iterate 2 (apply seqV_pure (ho := rfl) (hr := rfl) (hg := rfl); (intro w'; go_simp; rfl))
   (apply seqV_read (ho := rfl) (hr := rfl) (hp := rfl) (hg := rfl); (rintro w' ⟨q0, q1, q2⟩; go_simp; rfl))
   go_simp
   iterate 3 (apply seqV_pure (ho := rfl) (hr := rfl) (hg := rfl); (intro w'; go_simp; rfl))
   go_simp
   iterate 2 (apply seqV_pure (ho := rfl) (hr := rfl) (hg := rfl); (intro w'; go_simp; rfl))
   (apply seqV_read (ho := rfl) (hr := rfl) (hp := rfl) (hg := rfl); (rintro w' ⟨q0, q1, q2⟩; go_simp; rfl))
   go_simp
   iterate 2 (apply seqV_pure (ho := rfl) (hr := rfl) (hg := rfl); (intro w'; go_simp; rfl))
   (apply seqV_read (ho := rfl) (hr := rfl) (hp := rfl) (hg := rfl); (rintro w' ⟨q0, q1, q2⟩; go_simp; rfl))
   go_simp
   iterate 3 (apply seqV_pure (ho := rfl) (hr := rfl) (hg := rfl); (intro w'; go_simp; rfl))
   (apply seqV_read (ho := rfl) (hr := rfl) (hp := rfl) (hg := rfl); (rintro w' ⟨q0, q1, q2⟩; go_simp; rfl))
   go_simp
   refine seqV_do rfl rfl fun K hK => ?_
   go_simp
   refine (cat_calls _ p tq _ hsm.out hbo'.out).mono ?_
   rintro e w' ⟨rfl, hw'⟩
   obtain rfl := hw'.symm
   clear hw'
   refine hK _ _ (fun _ => ⟨p0, n1, ca⟩) ?_
   clear hK K
   go_simp
   iterate 2 (apply seqV_pure (ho := rfl) (hr := rfl) (hg := rfl); (intro w'; go_simp; rfl))
   refine seqV_do rfl rfl fun K hK => ?_
   go_simp
   refine hK _ _ (fun h => by cases h) ?_
   clear hK K
   unfold seqV
   go_simp
   go_wp2_with fail
   go_roundg (n - (j + 1) + 1)
   case measure => omega
   case rel =>
    obtain ⟨hk, hnn, hk2⟩ := HS.out
    exact ⟨j + 1, by omega, rfl, by simp, (hk.trans (hk2.mono fun _ e => .inr e)).drew, hnn.kp kdrew (fun e => e) (fun e => e)⟩
  ·as_aux_lemma =>
   obtain rfl : j = n := by omega
   have ej : ¬ (j : Int) < (j : Int) := by omega
   have e9 : arcp p j (nd x).arcs = (nd x).arcs.map (fun t => (t.1, p + t.2.1, t.2.2)) := by
    unfold arcp; rw [← hn.out, List.take_length, List.drop_length, List.append_nil]
   rw [e9] at hN5
   have eN : (⟨fin, FO, (nd x).arcs.map (fun t => (t.1, p + t.2.1, t.2.2))⟩ : Nd) = addN p (nd x) := by
    unfold addN; rw [hFO.out, hfin.out, hfo.out]
   rw [eN] at hN5
   have p3 := HP.out.2.1 hU5
   cases hh : v.hl with
   | false =>
    rw [hh] at p3
    have HE := Lib.hid (And.intro hK5 (And.intro hU5 hN5))
    clear hK5 hU5 hN5
    go_wp2_with fail
    go_end0
    obtain ⟨h1, h2, h3⟩ := HE.out
    refine ⟨rfl, h1.mono (fun _ e => e.elim .inl (fun e => .inr (.inl e))), ?_, h3⟩
    have e0 : vs.set i ⟨v.x, if v.hl then p + v.lo else v.lo, v.li, v.hl⟩ = vs := by rw [ue_no hh p]; exact set_self HH.out.2.2.1
    rw [e0]; exact h2
   | true =>
    rw [hh] at p3
    have hbo' := Lib.hid (HH.out.2.2.2.2.2 hh)
    obtain ⟨sm, hsm⟩ : ∃ sm, Hid (p + v.lo = sm) := ⟨_, Lib.hid rfl⟩
    rw [hsm.out] at hbo'
    obtain ⟨q1, z1⟩ := hU5.cell HH.out.2.2.1 (j := 1) (v := .int .u64 (v.lo : Int)) rfl
    have hU6 := hU5.set HH.out.2.2.1 (u' := ⟨v.x, sm, v.li, true⟩) (j := 1) (v := .int .u64 (sm : Int)) (by omega) (by unfold Ue.cells; rw [hh]; rfl)
    have hp6 : col (plc cb bs i).1 = 6 := by
     unfold plc; split
     ·exact hU5.cache.col
     ·exact (hU5.far i v (by omega) HH.out.2.2.1).col
    have K6 : Kp (fun d => d = 6) col wr col (wr.setCell ⟨(plc cb bs i).1, (plc cb bs i).2 + 1, none⟩ (.int .u64 (sm : Int))) := (Kp.refl _ col wr).set _ hp6
    have hN6 := hN5.kp K6 (by omega) (by omega)
    rw [hpB.out, hpO.out] at q1 z1 hU6 K6 hN6
    have HE := Lib.hid (And.intro hK5 (And.intro hU6 (And.intro hN6 K6)))
    obtain ⟨lo, hlo⟩ : ∃ lo, Hid (v.lo = lo) := ⟨_, Lib.hid rfl⟩
    rw [hlo.out] at q1 hsm
    clear hK5 hU5 hN5 hU6 K6 hN6 hp6
    have hcat := fun w => cat_calls w p lo sm hsm.out hbo'.out
    go_wp2_with fail
    refine (hcat _).mono ?_
    rintro e w' ⟨rfl, hw'⟩
    obtain rfl := hw'.symm
    clear hw' hcat
    go_wp2_with fail
    go_end0
    obtain ⟨h1, h2, h3, h4⟩ := HE.out
    refine ⟨rfl, (h1.mono (fun _ e => e.elim .inl (fun e => .inr (.inl e)))).trans (h4.mono fun _ e => .inr (.inr e)), ?_, h3⟩
    rw [hh, if_pos rfl, hlo.out, hsm.out]; exact h2
end
end
section
open Go.RowKit Fmt
section
variable {w : World} {col : Col} {ub cb pb : Nat} {K : List (Nat × Nd)} {st : List Un} {u : Un} {i : Nat}
/-- The stack's row. -/
theorem Cr.row (h : Cr w col ub cb pb K st) : ∃ A cap, w.cell? ⟨ub, 0, none⟩ = some (.slice A st.length cap) ∧ st.length ≤ cap ∧ cap ≤ maxLen := by
 obtain ⟨sv, full, bs, vs, xs, PL, L, nd, tv, nx, h⟩ := h
 obtain ⟨A, cap, e, h1, h2⟩ := h.unf.row.cap
 have := h.unf.blk.blk.cell 0 rfl
 rw [e, h.plen] at this
 exact ⟨A, cap, this, by rw [← h.plen]; exact h1, h2⟩
/-- The i-th open state in memory. -/
structure At (w : World) (ub g cap pB pO n i : Nat) (u : Un) : Prop where
 row : w.cell? ⟨ub, 0, none⟩ = some (.slice (some ⟨g, 0, none⟩) n cap)
 cap : n ≤ cap ∧ cap ≤ maxLen
 ptr : w.cell? ⟨g, i, none⟩ = some (.pointer (some ⟨pB, pO, none⟩))
 hl : w.cell? ⟨pB, pO + 3, none⟩ = some (.bool u.last.isSome)
 li : ∀ a o, u.last = some (a, o) → w.cell? ⟨pB, pO + 2, none⟩ = some (.int .u8 (a : Int)) ∧ w.cell? ⟨pB, pO + 1, none⟩ = some (.int .u64 (o : Int))
 fr : w.frozen? ⟨pB, pO + 1, none⟩ = false
theorem Cr.at_ (h : Cr w col ub cb pb K st) (hu : st[i]? = some u) : ∃ g cap pB pO, At w ub g cap pB pO st.length i u ∧
  (∀ a o c, u.last = some (a, o) → Cr (w.setCell ⟨pB, pO + 1, none⟩ (.int .u64 ((c : Nat) : Int))) col ub cb pb K (st.set i ⟨u.nd, some (a, c)⟩) ∧ Kp (fun d => d = 6) col w col (w.setCell ⟨pB, pO + 1, none⟩ (.int .u64 (c : Int)))) ∧
  (∀ p, u.nd.arcs.length ≤ 256 → (∀ t, t ∈ u.nd.arcs → p + t.2.1 < 18446744073709551616) → (u.nd.fin = true → p + u.nd.fout < 18446744073709551616) → (∀ a o, u.last = some (a, o) → p + o < 18446744073709551616) →
   Calls Tryz.prog 70 #[.pointer (some ⟨pB, pO, none⟩), .int .u64 (p : Int)] w fun e w' => e = .returned (.tuple #[]) ∧ Cr w' col ub cb pb K (st.set i (addU p u)) ∧ Kp crc col w col w') := by
 obtain ⟨sv, full, bs, vs, xs, PL, L, nd, tv, nx, h⟩ := h
 have hil := (List.getElem?_eq_some_iff.1 hu).1
 obtain ⟨v, x, hv, hx, hr⟩ := h.rep.get hu
 have hvl := h.plen
 have hpt := h.unf.ptr i (by omega)
 obtain ⟨g, cap, rfl, hc1, hc2, hc3, hb, pn, hfz⟩ := h.unf.row.row.at_ hpt
 have hv' : (vs ++ [])[i]? = some v := by rw [List.append_nil]; exact hv
 have hxL : x ∈ L := h.sub x (List.mem_append_left _ (List.mem_of_getElem? hx))
 have hlast : v.hl = u.last.isSome := by
  cases e : u.last with
  | none => rw [hr.no e]; rfl
  | some q => rw [(hr.yes q.1 q.2 e).1]; rfl
 have hxs : xs.Nodup := (List.nodup_append.1 h.nodup).1
 have hxo : x ∉ PL ++ K.map Prod.fst := fun e => (List.nodup_append.1 h.nodup).2.2 x (List.mem_of_getElem? hx) x e rfl
 have p0 := h.unf.blk.blk.cell 0 rfl
 rw [hvl] at p0 hc1
 refine ⟨g, cap, _, _, ⟨p0, ⟨hc1, hc2⟩, pn, ?_, fun a o e => ?_, (h.unf.cell hv' (j := 1) (v := .int .u64 (v.lo : Int)) rfl).2⟩, fun a o c e => ?_, fun p h1 h2 h3 h4 => ?_⟩
 ·rw [← hlast]; exact (h.unf.cell hv' (j := 3) (v := .bool v.hl) rfl).1
 ·obtain ⟨r1, r2, r3⟩ := hr.yes a o e
  rw [← r2, ← r3]
  exact ⟨(h.unf.cell hv' (j := 2) (v := .int .u8 (v.li : Int)) rfl).1, (h.unf.cell hv' (j := 1) (v := .int .u64 (v.lo : Int)) rfl).1⟩
 ·obtain ⟨r1, r2, r3⟩ := hr.yes a o e
  have U := h.unf.set hv' (u' := ⟨v.x, c, v.li, v.hl⟩) (j := 1) (v := .int .u64 (c : Int)) (by omega) rfl
  have hp6 : col (plc cb bs i).1 = 6 := by
   unfold plc; split
   ·exact h.unf.cache.col
   ·exact (h.unf.far i v (by omega) hv').col
  have Kk : Kp (fun d => d = 6) col w col (w.setCell ⟨(plc cb bs i).1, (plc cb bs i).2 + 1, none⟩ (.int .u64 (c : Int))) := (Kp.refl _ col w).set _ hp6
  have hrep := h.rep.set (i := i) (x := x) (v' := ⟨v.x, c, v.li, v.hl⟩) (u' := ⟨u.nd, some (a, c)⟩) hx ⟨hr.hx, hr.hn, fun i' o' e' => (by cases e'; exact ⟨r1, r2, rfl⟩), fun e' => (by cases e')⟩
  refine ⟨⟨_, _, _, _, _, _, _, _, _, _, h.unf' Kk (vs' := vs.set i ⟨v.x, c, v.li, v.hl⟩) (ws' := []) (by
   rw [List.append_nil] at U ⊢; rw [List.length_set]; exact U) hrep h.sub h.nodup h.held⟩, Kk⟩
 ·have hb3 : v.hl = true → p + v.lo < 18446744073709551616 := fun e => by
   rw [hlast] at e
   cases e2 : u.last with
   | none => rw [e2] at e; cases e
   | some q => have := h4 q.1 q.2 e2; rw [(hr.yes q.1 q.2 e2).2.2]; exact this
  refine (addo_calls (p := p) h.unf h.nds hv' hr.hx hxL (by rw [hr.hn]; exact h1) (by rw [hr.hn]; exact h2) (by rw [hr.hn]; exact h3) hb3).mono ?_
  rintro e w' ⟨rfl, hk, hU, hN⟩
  have hrep := h.rep.put hxs hx (n' := addN p (nd x)) (v' := ⟨v.x, if v.hl then p + v.lo else v.lo, v.li, v.hl⟩) (u' := addU p u) ⟨hr.hx, by rw [upd_at, hr.hn]; rfl, fun a o e => ?_, fun e => ?_⟩
  ·have hUf : Unf w' col ub cb pb (.slice (some ⟨g, 0, none⟩) vs.length cap) full bs (vs.set i ⟨v.x, if v.hl then p + v.lo else v.lo, v.li, v.hl⟩).length (vs.set i ⟨v.x, if v.hl then p + v.lo else v.lo, v.li, v.hl⟩ ++ []) := by
    rw [List.append_nil] at hU ⊢; rw [List.length_set]; exact hU
   refine ⟨rfl, ⟨_, _, _, _, _, _, _, _, _, _, ⟨hUf, hrep, hN, ⟨(h.pool.kp hk (by omega)).blk, h.pool.chain, fun y hy => ?_⟩, h.sub, h.nodup, fun q hq => ?_⟩⟩, kp456 hk⟩
   ·rw [upd_ne _ _ (fun e => hxo (by rw [← e]; exact List.mem_append_left _ hy))]; exact h.pool.clean y hy
   ·rw [upd_ne _ _ (fun e => hxo (by rw [← e]; exact List.mem_append_right _ (List.mem_map.2 ⟨q, hq, rfl⟩)))]; exact h.held q hq
  ·unfold addU at e
   cases e2 : u.last with
   | none => rw [e2] at e; cases e
   | some q =>
    rw [e2] at e
    simp only [Option.map_some, Option.some.injEq, Prod.mk.injEq] at e
    obtain ⟨r1, r2, r3⟩ := hr.yes q.1 q.2 e2
    show v.hl = true ∧ v.li = a ∧ (if v.hl then p + v.lo else v.lo) = o
    rw [if_pos r1, r3]
    exact ⟨r1, r2.trans e.1, e.2⟩
  ·unfold addU at e
   cases e2 : u.last with
   | none => exact hr.no e2
   | some q => rw [e2] at e; cases e
end
end
section
open Go.RowKit Fmt
/-- All outputs of an open state are small. -/
structure Bd (u : Un) : Prop where
 len : u.nd.arcs.length ≤ 256
 arcs : ∀ t, t ∈ u.nd.arcs → t.2.1 < 18446744073709551616
 fo : u.nd.fout < 18446744073709551616
 last : ∀ i o, u.last = some (i, o) → o < 18446744073709551616
theorem cpre_none {u : Un} (h : u.last = none) (b : Nat) (key : List Nat) (o : Nat) (r : List Un) : cpre (b :: key) o (u :: r) = (0, o, u :: r) := by
 cases r with
 | nil => rfl
 | cons v r => simp only [cpre, h]
section
variable {w : World} {col : Col} {ub cb pb : Nat} {K : List (Nat × Nd)} {st : List Un} {u : Un} {i : Nat}
set_option maxHeartbeats 2000000 in
set_option maxRecDepth 100000 in
theorem fcp_calls {key : List Nat} {kb ko kc o : Nat} (G : List Un → Prop) (hG : G st) (hm : ∀ P u v r i lo c, G (P ++ u :: v :: r) → u.last = some (i, lo) → c ≤ lo → G (P ++ ⟨u.nd, some (i, c)⟩ :: addU (lo - c) v :: r))
  (hbd : ∀ st u i, G st → st[i]? = some u → Bd u ∧ (u.last ≠ none → i + 1 < st.length)) (h : Cr w col ub cb pb K st) (hl : st.length ≤ 900000) (hk : Byts w kb ko key) (hkc : ¬ crc (col kb)) (hkl : key.length ≤ kc) (hkm : kc ≤ maxLen) (ho : o < 18446744073709551616) :
  Calls Tryz.prog 49 #[.pointer (some ⟨ub, 0, none⟩), .slice (some ⟨kb, ko, none⟩) key.length kc, .int .u64 (o : Int)] w fun e w' => e = .returned (.tuple #[.int .i64 ((cpre key o st).1 : Int), .int .u64 ((cpre key o st).2.1 : Int)]) ∧ Cr w' col ub cb pb K (cpre key o st).2.2 ∧ Kp crc col w col w' := by
 have h0 := Lib.hid h
 have HK := Lib.hid hk
 have HO := Lib.hid ho
 have hlk : key.length ≤ maxLen := by omega
 unfold maxLen at hlk hkm
 clear h ho hk
 go_enter Tryz.func49, Tryz.ntmps49
 go_wp2_with fail
 go_loopg [8, 2] (key.length + 1) (fun g i q wx => ∃ (j oj : Nat) (P r : List Un), P.length = j ∧ j ≤ key.length ∧ g = key.length - j + 1 ∧ i = .int .i64 (j : Int) ∧ q = .int .u64 (oj : Int) ∧ Cr wx col ub cb pb K (P ++ r) ∧ G (P ++ r) ∧ Kp crc col w col wx ∧ Hid (oj < 18446744073709551616) ∧ (P ++ r).length ≤ 900000 ∧
  cpre key o st = (j + (cpre (key.drop j) oj r).1, (cpre (key.drop j) oj r).2.1, P ++ (cpre (key.drop j) oj r).2.2))
 case atStart => exact ⟨0, o, [], st, rfl, by omega, by omega, rfl, rfl, h0.out, hG, Kp.refl _ _ _, HO, hl, by simp⟩
 case round =>
  obtain ⟨j, oj, P, r, hPl, hj, rfl, rfl, rfl, hC, hGj, hK, hoj, hlen, hc⟩ := hrel
  by_cases hjk : j < key.length
  ·have ejk : (j : Int) < (key.length : Int) := by omega
   obtain ⟨b, hb⟩ : ∃ b, key[j]? = some b := ⟨_, List.getElem?_eq_getElem hjk⟩
   have hdrop : key.drop j = b :: key.drop (j + 1) := by
    rw [List.drop_eq_getElem_cons hjk]; congr 1; exact (List.getElem?_eq_some_iff.1 hb).2
   have kcell : wr.cell? ⟨kb, ko + j, none⟩ = some (.int .u8 (b : Int)) := hK.fr.cell (HK.out.at_ j b hb) hkc
   cases r with
   | nil => as_aux_lemma =>
    obtain ⟨A, cap, p0, hc1, hc2⟩ := hC.row
    rw [List.append_nil, hPl] at p0
    have ej2 : ¬ (j : Int) < (j : Int) := by omega
    have HEQ : cpre key o st = (j, oj, P ++ []) := by rw [hc, hdrop, show cpre (b :: key.drop (j + 1)) oj [] = (0, oj, []) from rfl]; simp
    have HE := Lib.hid (And.intro HEQ (And.intro hC hK))
    clear hC hK hc hGj HEQ
    go_wp2_with fail
    go_ret2
    obtain ⟨e1, e2, e3⟩ := HE.out
    rw [e1]
    exact ⟨rfl, e2, e3⟩
   | cons u r =>
    have hju : (P ++ u :: r)[j]? = some u := by rw [List.getElem?_append_right (by omega), hPl, Nat.sub_self]; rfl
    have hlr : ((P ++ u :: r).length : Int) = (j : Int) + 1 + (r.length : Int) := by simp [hPl]; omega
    obtain ⟨g, cap, pB, pO, hat, -⟩ := hC.at_ hju
    have p0 := hat.row
    have pn := hat.ptr
    have p3 := hat.hl
    have hcap := hat.cap
    obtain ⟨n, hn⟩ : ∃ n, Hid ((P ++ u :: r).length = n) := ⟨_, Lib.hid rfl⟩
    rw [hn.out] at p0 hcap hlr
    obtain ⟨hcp1, hcp2⟩ := hcap
    have ejn : ¬ (n : Int) ≤ (j : Int) := by omega
    have ejn2 : (j : Int) < (n : Int) := by omega
    cases hul : u.last with
    | none => as_aux_lemma =>
     rw [hul] at p3
     have p3' : wr.cell? ⟨pB, pO + 3, none⟩ = some (.bool false) := p3
     clear p3
     have HEQ : cpre key o st = (j, oj, P ++ u :: r) := by rw [hc, hdrop, cpre_none hul]; simp
     have HE := Lib.hid (And.intro HEQ (And.intro hC hK))
     clear hC hK hc hGj HEQ
     go_wp2_with fail
     go_ret2
     obtain ⟨e1, e2, e3⟩ := HE.out
     rw [e1]
     exact ⟨rfl, e2, e3⟩
    | some q =>
     obtain ⟨a, lo⟩ := q
     rw [hul] at p3
     have p3' : wr.cell? ⟨pB, pO + 3, none⟩ = some (.bool true) := p3
     obtain ⟨p2, p1⟩ := hat.li a lo hul
     clear p3
     cases r with
     | nil => exact absurd ((hbd _ u j hGj hju).2 (by rw [hul]; simp)) (by simp [hPl])
     | cons v r =>
      by_cases hab : a = b
      ·subst hab
       as_aux_lemma =>
       have hlo64 := (hbd _ u j hGj hju).1.last a lo hul
       have hlob := Lib.hid hlo64
       clear hlo64
       obtain ⟨c, hcd⟩ : ∃ c, Hid (min lo oj = c) := ⟨_, Lib.hid rfl⟩
       obtain ⟨p, hpd⟩ : ∃ p, Hid (lo - c = p) := ⟨_, Lib.hid rfl⟩
       obtain ⟨o2, ho2⟩ : ∃ o2, Hid (oj - c = o2) := ⟨_, Lib.hid rfl⟩
       have hc3 : cpre key o st = (j + 1 + (cpre (key.drop (j + 1)) o2 (addU p v :: r)).1, (cpre (key.drop (j + 1)) o2 (addU p v :: r)).2.1, (P ++ [(⟨u.nd, some (a, c)⟩ : Un)]) ++ (cpre (key.drop (j + 1)) o2 (addU p v :: r)).2.2) := by
        rw [hc, hdrop]
        simp only [cpre, hul, if_true, hcd.out, hpd.out, ho2.out]
        simp; omega
       have hG3 := hm P u v r a lo c hGj hul (by have := hcd.out; omega)
       rw [hpd.out] at hG3
       have H := Lib.hid (And.intro hC (And.intro hK (And.intro hG3 (And.intro hc3 hju))))
       clear hC hK hG3 hc3 hGj hc hat hju
       go_wp2_with fail
       go_quiet (fail)
       rename_i nq
       obtain ⟨hC, hK, hG3, hc3, hju⟩ := H.out
       have hC' := hC.drewN nq
       have hK' := hK.drewN nq
       clear H hC hK p0 pn p3' p2 p1 kcell
       generalize wr.drewN nq = wq at *
       obtain ⟨g, cap, pB, pO, hat, hlo, -⟩ := hC'.at_ hju
       have p0 := hat.row
       have pn := hat.ptr
       obtain ⟨p2, p1⟩ := hat.li a lo hul
       have z1 := hat.fr
       obtain ⟨hcp1, hcp2⟩ := hat.cap
       rw [hn.out] at p0 hcp1
       obtain ⟨hC3, hK3⟩ := hlo a lo c hul
       have hset : (P ++ u :: v :: r).set j (⟨u.nd, some (a, c)⟩ : Un) = (P ++ [(⟨u.nd, some (a, c)⟩ : Un)]) ++ v :: r := by rw [← hPl]; simp
       rw [hset] at hC3
       have hjv : ((P ++ [(⟨u.nd, some (a, c)⟩ : Un)]) ++ v :: r)[j + 1]? = some v := by rw [List.getElem?_append_right (by simp [hPl])]; simp [hPl]
       obtain ⟨g4, cap4, qB, qO, hat4, -, hadd⟩ := hC3.at_ hjv
       have q0 := hat4.row
       have qn := hat4.ptr
       have hn2 : ((P ++ [(⟨u.nd, some (a, c)⟩ : Un)]) ++ v :: r).length = n := by rw [← hn.out]; simp
       rw [hn2] at q0
       have hB := (hbd _ (addU p v) (j + 1) hG3 (by rw [List.getElem?_append_right (by omega), hPl]; simp)).1
       have hcall := hadd p (by have := hB.len; simpa [addU, addN] using this) (fun t ht => hB.arcs (t.1, p + t.2.1, t.2.2) (List.mem_map.2 ⟨t, ht, rfl⟩)) (fun e => by have := hB.fo; simp only [addU, addN, e, if_true] at this; exact this) (fun a' o' e => hB.last a' (p + o') (by simp [addU, e]))
       have hset2 : ((P ++ [(⟨u.nd, some (a, c)⟩ : Un)]) ++ v :: r).set (j + 1) (addU p v) = (P ++ [(⟨u.nd, some (a, c)⟩ : Un)]) ++ addU p v :: r := by rw [List.set_append_right _ _ (by simp [hPl])]; simp [hPl]
       rw [hset2] at hcall
       have hq0 : wq.cell? ⟨ub, 0, none⟩ = some (.slice (some ⟨g, 0, none⟩) n cap) := p0
       have hpre := fun w => pre_calls w lo oj c hcd.out
       have hsb := fun w => sub_calls w lo c p (by have := hcd.out; have := hpd.out; omega) hlob.out
       have hsb2 := fun w => sub_calls w oj c o2 (by have := hcd.out; have := ho2.out; omega) hoj.out
       have ej3 : IntKind.i64.wrap ((j : Int) + 1) = (j : Int) + 1 := IntWalk.i64_in _ (by omega)
       have ejv : (j : Int) + 1 < (n : Int) := by rw [← hn2]; simp [hPl]; omega
       have HF := Lib.hid (And.intro hC3 (And.intro (hK'.trans (kp6 hK3)) (And.intro hG3 hc3)))
       clear hC3 hK3 hG3 hc3 hC' hK' hju hjv hset hset2 hat hat4 hlo hadd hB hn2 hul
       go_wp2_with fail
       refine (hpre _).mono ?_
       rintro e w' ⟨rfl, hw'⟩
       obtain rfl := hw'.symm
       clear hw' hpre
       go_wp2_with fail
       refine (hsb _).mono ?_
       rintro e w' ⟨rfl, hw'⟩
       obtain rfl := hw'.symm
       clear hw' hsb
       go_wp2_with fail
       refine (hsb2 _).mono ?_
       rintro e w' ⟨rfl, hw'⟩
       obtain rfl := hw'.symm
       clear hw' hsb2
       by_cases hp0 : p = 0
       ·as_aux_lemma =>
        subst hp0
        go_wp2_with fail
        go_roundg (key.length - (j + 1) + 1)
        case measure => omega
        case rel =>
         obtain ⟨h1, h2, h3, h4⟩ := HF.out
         rw [addU_zero] at h3 h4
         exact ⟨j + 1, o2, P ++ [(⟨u.nd, some (a, c)⟩ : Un)], v :: r, by simp [hPl], by omega, rfl, by simp, rfl, h1, by simpa using h3, h2, Lib.hid (by have := hoj.out; have := ho2.out; omega), by rw [show (P ++ [(⟨u.nd, some (a, c)⟩ : Un)] ++ v :: r).length = (P ++ u :: v :: r).length by simp]; exact hlen, h4⟩
       ·as_aux_lemma =>
        have hp1 : ¬ ((p : Int) = 0) := by omega
        go_wp2_with fail
        refine hcall.mono ?_
        rintro e w9 ⟨rfl, hC9, hK9⟩
        obtain ⟨h1, h2, h3, h4⟩ := HF.out
        have HE := Lib.hid (And.intro hC9 (And.intro (h2.trans hK9) (And.intro h3 h4)))
        clear h1 h2 h3 h4 hC9 hK9 HF hcall
        go_wp2_with fail
        go_roundg (key.length - (j + 1) + 1)
        case measure => omega
        case rel =>
         obtain ⟨h1, h2, h3, h4⟩ := HE.out
         exact ⟨j + 1, o2, P ++ [(⟨u.nd, some (a, c)⟩ : Un)], addU p v :: r, by simp [hPl], by omega, rfl, by simp, rfl, h1, by simpa using h3, h2, Lib.hid (by have := hoj.out; have := ho2.out; omega), by rw [show (P ++ [(⟨u.nd, some (a, c)⟩ : Un)] ++ addU p v :: r).length = (P ++ u :: v :: r).length by simp]; exact hlen, h4⟩
      ·as_aux_lemma =>
       have hab' : ¬ ((a : Int) = (b : Int)) := by omega
       have HEQ : cpre key o st = (j, oj, P ++ u :: v :: r) := by rw [hc, hdrop]; simp [cpre, hul, hab]
       have HE := Lib.hid (fun q => And.intro HEQ (And.intro (hC.drewN q) (hK.drewN q)))
       clear hC hK hc hGj HEQ
       go_wp2_with fail
       go_quiet (fail)
       go_wp2_with fail
       go_ret2
       obtain ⟨e1, e2, e3⟩ := HE.out _
       rw [e1]
       exact ⟨rfl, e2, e3⟩
  ·as_aux_lemma =>
   have ejk : ¬ (j : Int) < (key.length : Int) := by omega
   have hdrop : key.drop j = [] := List.drop_eq_nil_of_le (by omega)
   have HEQ : cpre key o st = (j, oj, P ++ r) := by rw [hc, hdrop, show cpre [] oj r = (0, oj, r) from rfl]; simp
   have HE := Lib.hid (And.intro HEQ (And.intro hC hK))
   clear hC hK hc hGj HEQ
   go_wp2_with fail
   go_ret2
   obtain ⟨e1, e2, e3⟩ := HE.out
   rw [e1]
   exact ⟨rfl, e2, e3⟩
end
end
end Go.Proofs.YtmhlnijpimjjaaaGreatDoor
