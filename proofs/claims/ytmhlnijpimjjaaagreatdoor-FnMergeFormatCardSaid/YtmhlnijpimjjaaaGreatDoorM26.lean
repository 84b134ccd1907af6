/- An iterator is set to its start: pointTo without a key. Condition: the map has no empty key. An iterator is made, asked and moved on: Iterator, Current, Next, Close. Condition: the map has no empty key; keys of at most 2^20 bytes. The ways of putting values together: MergeMin, MergeMax, MergeSum; which one is meant. Condition: at least two values. The reference: whether maps are not too large in all; the short codes of all bytes. Condition: sizes below 2^31, at most 200 maps. -/
import Derived.Test.YtmhlnijpimjjaaaGreatDoorM25
import Derived.Test.YtmhlnijpimjjaaaGreatDoorM21
set_option linter.unusedSimpArgs false
set_option linter.unusedVariables false
namespace Go.Proofs.YtmhlnijpimjjaaaGreatDoor
section
open Go.RowKit Fmt
theorem klt_nil {l : List Nat} (h : l ≠ []) : klt [] l := by
 cases l with
 | nil => exact absurd rfl h
 | cons a l => rw [← ltb_iff]; rfl
section
variable {w : World} {col : Col} {c ib fb ab db gd cap : Nat} {L : Prs} {D B : List Nat} {root : Nat} {T : TypeId} {ea : Addr}
/-- The first state is not final. -/
theorem root_fin (hf : File codesN backN D L B root) (hne : ∀ p, p ∈ L → p.1 ≠ []) : (nodeOf (getB backN B) root).fin = false := by
 cases hfin : (nodeOf (getB backN B) root).fin with
 | false => rfl
 | true =>
  exfalso
  have h := hf.keys
  rw [keys_node _ (getB_down backN B)] at h
  unfold own at h
  rw [hfin, if_pos rfl] at h
  exact hne ([], (nodeOf (getB backN B) root).fout) (by rw [← h]; simp) rfl
/-- What stands while the first state is laid onto the way. -/
def PtB (w : World) (col : Col) (c ib fb ab db gd cap : Nat) (L : Prs) (D B : List Nat) (root : Nat) (T : TypeId) (ea : Addr) (sb : Nat) (v : Nat → Value) (n : Nat → Nat) (F : Nat → List Value) (X : World) : Prop :=
 ∃ colX : Col, Ic X colX c ib fb ab v n F ∧ Kp (itc c) col w colX X ∧ StC X sb D gd cap root (nodeOf (getB backN B) root) ∧ colX sb = c + 7 ∧ Fst X fb db gd cap L D B root ∧ (colX fb = 0 ∧ colX db = 0 ∧ colX gd = 0 ∧ 0 < c) ∧ gd < X.heap.size ∧ Tabs X colX ∧ Done X colX T ea
theorem PtB.app {sb k : Nat} {v : Nat → Value} {n : Nat → Nat} {F : Nat → List Value} {X w5 : World} {v' : Value} {n' : Nat} {F' : List Value} (hk : k < 5) (h : PtB w col c ib fb ab db gd cap L D B root T ea sb v n F X) (hr : RowF w5 (rty k) 1 v' n' F') (hF : Fr (fun q => (v k).ownBlock = some q) X w5) (hv : v'.ownBlock = (v k).ownBlock ∨ ∃ b', v'.ownBlock = some b' ∧ X.heap.size ≤ b') :
  PtB w col c ib fb ab db gd cap L D B root T ea sb (upd v k v') (upd n k n') (upd F k F') (w5.setCell ⟨ib, 4 + k, none⟩ v') := by
 obtain ⟨colX, h1, h2, h3, h4, h5, h6, h7, h8, h9⟩ := h
 obtain ⟨hI, hK⟩ := h1.app (by omega) hr hF hv
 obtain ⟨f1, f2, f3, f4⟩ := h6
 obtain ⟨cs, k1, k2⟩ := h3
 exact ⟨_, hI, h2.trans (hK.mono fun d e => by unfold itc; omega), ⟨cs, k1, k2.fr hK.fr (by rw [h4]; omega)⟩, (hK.same _ k2.lt).trans h4, h5.fr hK.fr (by rw [f1]; omega) (by rw [f2]; omega) (by rw [f3]; omega), ⟨(hK.same _ h5.fst.lt).trans f1, (hK.same _ h5.dec.lt).trans f2, (hK.same _ h7).trans f3, f4⟩, Nat.lt_of_lt_of_le h7 hK.size, h8.kp hK (by omega), h9.kp hK (by omega)⟩
theorem PtB.at_ {sb k : Nat} {v : Nat → Value} {n : Nat → Nat} {F : Nat → List Value} {X : World} (hk : k < 6) (h : PtB w col c ib fb ab db gd cap L D B root T ea sb v n F X) : Blk X ib (icells fb ab v) 144 ∧ RowF X (rty k) 1 (v k) (n k) (F k) := by
 obtain ⟨colX, h1, _⟩ := h
 exact ⟨h1.blk.blk, (h1.row k hk).row⟩
/-- The rows behind the first append, and behind the second one. -/
def PtR (sb : Nat) (v : Nat → Value) (n : Nat → Nat) (F : Nat → List Value) (n4 : Nat) : Prop :=
 v 1 = .slice none 0 0 ∧ v 5 = .slice none 0 0 ∧ n 0 = 1 ∧ n 1 = 0 ∧ n 2 = 0 ∧ n 3 = 0 ∧ n 5 = 0 ∧ n 4 = n4 ∧ (∃ k, F 0 = [slot (some sb)] ++ List.replicate k .nilIface) ∧ (n4 = 0 → v 4 = .slice none 0 0 ∧ F 4 = []) ∧ (n4 = 1 → (F 4)[0]? = some (.int .i64 0))
theorem PtB.it {sb : Nat} {v : Nat → Value} {n : Nat → Nat} {F : Nat → List Value} {X : World} (h : PtB w col c ib fb ab db gd cap L D B root T ea sb v n F X) (hr : PtR sb v n F 1) :
  ∃ colX sl, It X colX c ib fb ab db gd cap L D B root [] v n F sl [] root ∧ Kp (itc c) col w colX X ∧ Tabs X colX ∧ Done X colX T ea := by
 obtain ⟨colX, h1, h2, h3, h4, h5, h6, h7, h8, h9⟩ := h
 obtain ⟨r1, r2, r3, r4, r5, r6, r7, r8, ⟨k, r9⟩, _, r11⟩ := hr
 refine ⟨colX, [some sb] ++ List.replicate k none, { ic := h1, fst := h5, far := h6, gl := h7, way := rfl, n0 := r3, n1 := r4, n2 := r5, n3 := r6, n4 := r8, n5 := r7, f0 := by rw [r9]; simp [slot], f1 := fun i x hx => by simp at hx, f2 := fun i x hx => by simp at hx, f3 := fun i x hx => by simp at hx, f4 := fun i hi => ?_, f5 := fun i x hx => by simp at hx, sts := ⟨fun i j b hi hj => ?_, fun i b hi => ?_⟩, act := fun i x hx => ?_ }, h2, h8, h9⟩
 ·have : i = 0 := by simp at hi; exact hi
  subst this
  exact r11 rfl
 ·have key : ∀ i, ([some sb] ++ List.replicate k (none : Option Nat))[i]? = some (some b) → i = 0 := by
   intro i hi
   cases i with
   | zero => rfl
   | succ i =>
    rw [List.getElem?_append_right (by simp), List.getElem?_replicate] at hi
    split at hi <;> cases hi
  rw [key i hi, key j hj]
 ·cases i with
  | zero =>
   simp at hi
   subst hi
   obtain ⟨cs, k1, k2⟩ := h3
   exact ⟨h4, cs, k1.len, k2⟩
  | succ i =>
   rw [List.getElem?_append_right (by simp), List.getElem?_replicate] at hi
   split at hi <;> cases hi
 ·cases i with
  | zero =>
   simp at hx
   subst hx
   exact ⟨sb, rfl, h3⟩
  | succ i => simp at hx
set_option maxHeartbeats 2000000 in
set_option maxRecDepth 100000 in
theorem point_calls (hI : Ic w col c ib fb ab (fun _ => .slice none 0 0) (fun _ => 0) (fun _ => [])) (hF : Fst w fb db gd cap L D B root) (hfar : col fb = 0 ∧ col db = 0 ∧ col gd = 0 ∧ 0 < c) (hgl : gd < w.heap.size) (hT : Tabs w col) (hD : Done w col T ea) (hL : ∀ p, p ∈ L → p.1.length ≤ 1048576) (hne : ∀ p, p ∈ L → p.1 ≠ []) :
  Calls Tryz.prog 85 #[.pointer (some ⟨ib, 0, none⟩), .slice none 0 0] w fun e w' => NxPost w col c ib fb ab db gd cap L D B root T ea L e w' := by
 have hb := hI.blk.blk
 have r0 := hb.cell 0 rfl
 have r1 := hb.cell 1 rfl
 have r2 := hb.cell 2 rfl
 have r3 := hb.cell 3 rfl
 have r4 := hb.cell 4 rfl
 have r5 := hb.cell 5 rfl
 have r6 := hb.cell 6 rfl
 have r7 := hb.cell 7 rfl
 have r8 := hb.cell 8 rfl
 have z4 := hb.frz 4
 have z5 := hb.frz 5
 have z6 := hb.frz 6
 have z7 := hb.frz 7
 have z8 := hb.frz 8
 have hcm := compare_calls (w := w) (.inr ⟨rfl, 0, rfl⟩ : Sby w (.slice none 0 0) []) (.inr ⟨rfl, 0, rfl⟩ : Sby w (.slice none 0 0) []) (fun a h => by cases h) (fun a h => by cases h)
 have hcm' : Calls Tryz.prog 47 #[.slice none 0 0, .slice none 0 0] w fun e w' => e = .returned (.int .i64 0) ∧ w' = w := hcm
 have hnn := nil_neq
 have HH := Lib.hid (And.intro hI (And.intro hF (And.intro hfar (And.intro hgl (And.intro hT (And.intro hD (And.intro hL hne)))))))
 clear hcm hb hI hF hfar hgl hT hD hL hne
 go_enter Tryz.func85, Tryz.ntmps85
 go_wp2_with fail
 refine hcm'.mono ?_
 rintro e w' ⟨rfl, rfl⟩
 go_upto_region 10 with fail
 obtain ⟨hI, hF, hfar, hgl, hT, hD, hL, hne⟩ := HH.out
 refine wp_named (fun X => Blk X ib (icells fb ab fun _ => .slice none 0 0) 144 ∧ Fr (fun k => k = ib) w' X) ⟨((((hI.blk.blk.set 4 _).set 5 _).set 6 _).set 7 _).set 8 _, (((((Fr.refl (fun k => k = ib) w').put1 4 _).put1 5 _).put1 6 _).put1 7 _).put1 8 _⟩ ?_
 rintro W1 ⟨hb1, hF1⟩
 have hne0 : ¬ fb = ib ∧ ¬ db = ib ∧ ¬ gd = ib := by
  have := hI.blk.col
  obtain ⟨f1, f2, f3, f4⟩ := hfar
  exact ⟨fun e => by rw [e] at f1; omega, fun e => by rw [e] at f2; omega, fun e => by rw [e] at f3; omega⟩
 have hK1 : Kp (fun d => d = c) col w' (paint w'.heap.size c col) W1 := Kp.of hF1 c (fun k _ e => by rw [e]; exact hI.blk.col) rfl
 have hF' := hF.fr hF1 hne0.1 hne0.2.1 hne0.2.2
 have hT1 := hT.kp hK1 (by omega)
 have hfar1 : paint w'.heap.size c col fb = 0 ∧ paint w'.heap.size c col db = 0 ∧ paint w'.heap.size c col gd = 0 := ⟨(paint_lt hF.fst.lt).trans hfar.1, (paint_lt hF.dec.lt).trans hfar.2.1, (paint_lt hgl).trans hfar.2.2.1⟩
 have hib1 : paint w'.heap.size c col ib = c := (paint_lt hI.blk.lt).trans hI.blk.col
 have hgl1 : gd < W1.heap.size := Nat.lt_of_lt_of_le hgl hF1.size
 obtain ⟨col1, hcol1⟩ : ∃ col1, Hid (paint w'.heap.size c col = col1) := ⟨_, Lib.hid rfl⟩
 rw [hcol1.out] at hK1 hT1 hfar1 hib1
 have hD1 := hD.kp hK1 (by omega)
 have hroot : root < 9223372036854775808 := by have := hF.file.root_lt; have := hF.file.len; omega
 have hlD : D.length < 9223372036854775808 := by have := hF.file.dlen; have := hF.file.len; omega
 have hgr : Calls Tryz.prog 136 #[.pointer (some ⟨db, 0, none⟩)] W1.drew fun e w2 => e = .returned (.int .i64 (root : Int)) ∧ Fr (fun _ => False) W1.drew w2 := by
  have hd := (hF'.fr (Fr.refl (fun _ => False) W1).drew (fun h => h) (fun h => h) (fun h => h))
  have hby := hd.byts
  have heq := hF.file.eq
  exact getroot_calls (X := B) (v := L.length) (hd.dec.cell 0 rfl) (by rw [← heq]; exact hby) hF.file.dlen hroot hd.cap.1 hd.cap.2
 have hst : ∀ w2, Fr (fun _ => False) W1.drew w2 → Calls Tryz.prog 137 #[.pointer (some ⟨db, 0, none⟩), .int .i64 (root : Int), .nilIface] w2 fun e w3 => StPost w2 none D gd cap root (nodeOf (getB backN B) root) e w3 := by
  intro w2 hF2
  have hF12 := (Fr.refl (fun _ => False) W1).drew.trans hF2 (fun _ _ h => h)
  have hd := hF'.fr hF12 (fun h => h) (fun h => h) (fun h => h)
  have hv : View D root (nodeOf (getB backN B) root) := by
   by_cases h0 : root = 0
   ·rw [h0]; exact .inl ⟨rfl, rfl⟩
   ·right
    rw [nodeOf_pos h0, hF.file.eq]
    obtain ⟨S, k1, k2, k3, k4, k5, k6, k7, k8⟩ := hF.file.ok.view codesOk (by have := hF.file.len; omega) h0 (pk L.length 8 ++ pk root 8)
    exact ⟨h0, S, k1, k2, by rw [← hF.file.eq, hF.file.dlen]; omega, k4, k5, k6, k7, k8⟩
  exact stateAt_new hd.dec (hT1.kp (Kp.news (C := fun d => d ≠ 0) hF12 1 (by decide)) (fun e => e rfl)) (Nat.lt_of_lt_of_le hgl1 hF12.size) hd.byts hd.cap.1 hlD hv
 have s0 := hb1.cell 0 rfl
 have s1 := hb1.cell 1 rfl
 have sf := hF'.fst.cell 5 rfl
 have j1 := mt_root ⟨db, 0, none⟩
 have j2 := nt_root ⟨db, 0, none⟩
 have j3 := mt_stat ⟨db, 0, none⟩
 have j4 := nt_stat ⟨db, 0, none⟩
 have H1 := Lib.hid (And.intro hb1 (And.intro hF1 (And.intro hK1 (And.intro hF' (And.intro hT1 (And.intro hD1 (And.intro hfar1 (And.intro hib1 hgl1))))))))
 have HS := Lib.hid hst
 clear hI hF hfar hgl hT hD hL hne hb1 hF1 hne0 hK1 hF' hT1 hD1 hfar1 hib1 hgl1 hst hlD hroot hcm'
 clear r0 r1 r2 r3 r4 r5 r6 r7 r8 z4 z5 z6 z7 z8
 refine wp_region_seqV (fun W => W.cell? ⟨ib, 0, none⟩ = some (.pointer (some ⟨fb, 0, none⟩)) ∧ W.cell? ⟨fb, 5, none⟩ = some (.iface 184 (.pointer (some ⟨db, 0, none⟩)))) (fun i => decide (i ≠ 14 ∧ i ≠ 17)) (fun i => ![3, 6, 10, 13].contains i && decide (i ≠ 14 ∧ i ≠ 17)) (fun i => false) [0, 1, 2, 3, 4, 5, 6, 7, 8, 9, 10, 11, 12, 13, 15, 16, 14, 17, 18, 19, 20, 21, 22] (by kernel_rfl) (by kernel_rfl) (fun c a d v w h => by cases d <;> exact h) ⟨s0, sf⟩ ?_
 iterate 3 (apply seqV_pure (ho := rfl) (hr := rfl) (hg := rfl); (intro w'; go_simp; rfl))
 (apply seqV_read (ho := rfl) (hr := rfl) (hp := rfl) (hg := rfl); (rintro w' ⟨q0, q1⟩; go_simp; rfl))
 go_simp
 iterate 2 (apply seqV_pure (ho := rfl) (hr := rfl) (hg := rfl); (intro w'; go_simp; rfl))
 (apply seqV_read (ho := rfl) (hr := rfl) (hp := rfl) (hg := rfl); (rintro w' ⟨q0, q1⟩; go_simp; rfl))
 go_simp
 iterate 3 (apply seqV_pure (ho := rfl) (hr := rfl) (hg := rfl); (intro w'; go_simp; rfl))
 (apply seqV_read (ho := rfl) (hr := rfl) (hp := rfl) (hg := rfl); (rintro w' ⟨q0, q1⟩; go_simp; rfl))
 go_simp
 iterate 2 (apply seqV_pure (ho := rfl) (hr := rfl) (hg := rfl); (intro w'; go_simp; rfl))
 (apply seqV_read (ho := rfl) (hr := rfl) (hp := rfl) (hg := rfl); (rintro w' ⟨q0, q1⟩; go_simp; rfl))
 go_simp
 iterate 2 (apply seqV_pure (ho := rfl) (hr := rfl) (hg := rfl); (intro w'; go_simp; rfl))
 refine seqV_do rfl rfl fun K hK => ?_
 go_simp
 go_simp
 refine hgr.mono ?_
 rintro e w2 ⟨rfl, hF2⟩
 have t0 := hF2.cell s0 (fun h => h)
 have tf := hF2.cell sf (fun h => h)
 have hst := HS.out w2 hF2
 have HF2 := Lib.hid hF2
 clear hF2 hgr
 refine hK _ _ (fun _ => ⟨t0, tf⟩) ?_
 clear hK K
 go_simp
 refine seqV_do rfl rfl fun K hK => ?_
 go_simp
 go_simp
 refine hst.mono ?_
 rintro e w3 ⟨sb, rfl, hst3, hF3, hsb⟩
 have hF3' := hF3.mono (G := fun _ => False) (fun _ _ h => by cases h)
 have u0 := hF3'.cell t0 (fun h => h)
 have uf := hF3'.cell tf (fun h => h)
 have HW := Lib.hid (And.intro hst3 (And.intro (HF2.out.trans hF3' (fun _ _ h => h)) (show W1.heap.size ≤ sb from by rcases hsb with e | ⟨_, e⟩; cases e; exact Nat.le_trans HF2.out.size e)))
 clear hst3 hF3 hsb hF3' hst
 refine hK _ _ (fun _ => ⟨u0, uf⟩) ?_
 clear hK K t0 tf
 go_simp
 iterate 3 (apply seqV_pure (ho := rfl) (hr := rfl) (hg := rfl); (intro w'; go_simp; rfl))
 go_simp
 iterate 2 (apply seqV_pure (ho := rfl) (hr := rfl) (hg := rfl); (intro w'; go_simp; rfl))
 unfold seqV
 go_simp
 have s1' := HW.out.2.1.cell s1 (fun h => h)
 have j5 := mt_start ⟨ab, 0, none⟩
 have j6 := nt_start ⟨ab, 0, none⟩
 have hst0 := fun w => al_start w ⟨ab, 0, none⟩
 have HB0 : Hid (PtB w' col c ib fb ab db gd cap L D B root T ea sb (fun _ => .slice none 0 0) (fun _ => 0) (fun _ => []) w3) := Lib.hid (by
  obtain ⟨hb1, hF1, hK1, hF', hT1, hD1, hfar1, hib1, hgl1⟩ := H1.out
  obtain ⟨hs3, hF3, hsz⟩ := HW.out
  have hF13 : Fr (fun _ => False) W1 w3 := (Fr.refl (fun _ => False) W1).drew.trans hF3 (fun _ _ h => h)
  have hk : Kp (itc c) col1 W1 (paint W1.heap.size (c + 7) col1) w3 := Kp.news hF13 (c + 7) (by unfold itc; omega)
  have hc := HH.out.2.2.1.2.2.2
  exact ⟨_, ⟨⟨hb1.fr hF13 (fun h => h), (paint_lt hb1.lt).trans hib1⟩, fun k _ => RowC.nil _ _ _ _ _⟩, (hK1.mono fun d e => by unfold itc; omega).trans hk, hs3, paint_ge hsz, hF'.fr hF13 (fun h => h) (fun h => h) (fun h => h), ⟨(hk.same _ hF'.fst.lt).trans hfar1.1, (hk.same _ hF'.dec.lt).trans hfar1.2.1, (hk.same _ hgl1).trans hfar1.2.2, hc⟩, Nat.lt_of_lt_of_le hgl1 hF13.size, hT1.kp hk (by unfold itc; omega), hD1.kp hk (by unfold itc; omega)⟩)
 clear s0 s1 sf u0 uf j1 j2 j3 j4
 go_wp2_with fail
 refine (hst0 _).mono ?_
 rintro e w4 ⟨rfl, rfl⟩
 clear s1' j5 j6 hst0
 go_upto_region 15 with fail
 refine wp_named (fun X => PtB w' col c ib fb ab db gd cap L D B root T ea sb (fun _ => .slice none 0 0) (fun _ => 0) (fun _ => []) X) HB0.out ?_
 intro X0 hp
 obtain ⟨hbl, hrow0⟩ := hp.at_ (k := 0) (by decide)
 have HP0 := Lib.hid hp
 have rj0 := hbl.cell 4 rfl
 have zj0 := hbl.frz 4
 have HB0 := Lib.hid hbl
 clear hbl hp
 go_upto_region 16 with (at_builtin; (refine app1f X0 X0.heap.size rfl rfl _ _ 142 rfl 206 .nilIface 1 16 (by kernel_rfl) (by kernel_rfl) rfl (.slice none 0 0) 0 [] [.iface 254 (.pointer (some ⟨sb, 0, none⟩))] rfl rfl hrow0 rfl (by simp [Value.oneCell']) (by omega) (by decide) ?_); intro v5 w5 full5 hr5 hF5 hc5; obtain ⟨A5n, cap5n, rfl⟩ := rowv hr5; have u5 := HB0.out.fr hF5 (rowf_ne hrow0 HB0.out (by decide)); have d5 := u5.cell 4 rfl; have e5 := u5.frz 4; clear rj0 zj0 u5)
 have HQ0 := Lib.hid (And.intro (HP0.out.app (k := 0) (by decide) hr5 hF5 (by rcases hc5 with ⟨e, _⟩ | ⟨e, _⟩; exact .inl e; exact .inr e)) hc5)
 obtain ⟨v1, n1, F1, HB1⟩ : ∃ (v1 : Nat → Value) (n1 : Nat → Nat) (F1 : Nat → List Value), Hid (PtB w' col c ib fb ab db gd cap L D B root T ea sb v1 n1 F1 (w5.setCell ⟨ib, 4 + 0, none⟩ (.slice A5n (0 + 1) cap5n)) ∧ PtR sb v1 n1 F1 0) := by
  refine ⟨_, _, _, Lib.hid ⟨HQ0.out.1, rfl, rfl, rfl, rfl, rfl, rfl, rfl, rfl, ?_, (fun _ => ⟨rfl, rfl⟩), (fun h => by cases h)⟩⟩
  rcases HQ0.out.2 with ⟨_, e⟩ | ⟨_, k, e⟩
  ·exact ⟨0, by rw [upd_same', e]; rfl⟩
  ·exact ⟨k, by rw [upd_same', e]; exact congrArg (fun t => [slot (some sb)] ++ t) (zeros_one .nilIface k)⟩
 clear d5 e5 hr5 hF5 hc5 HP0 HB0 hrow0 HQ0
 refine wp_named (fun X => PtB w' col c ib fb ab db gd cap L D B root T ea sb v1 n1 F1 X) HB1.out.1 ?_
 intro X1 hp
 have HR1 := Lib.hid HB1.out.2
 obtain ⟨hbl, hrow⟩ := hp.at_ (k := 4) (by decide)
 have HP1 := Lib.hid hp
 have rj1 := hbl.cell 8 rfl
 have zj1 := hbl.frz 8
 have hrow1 : RowF X1 3 1 (.slice none 0 0) 0 [] := by
  have h := HR1.out
  rw [(h.2.2.2.2.2.2.2.2.2.1 rfl).1, (h.2.2.2.2.2.2.2.2.2.1 rfl).2, h.2.2.2.2.2.2.2.1] at hrow
  exact hrow
 rw [(HR1.out.2.2.2.2.2.2.2.2.2.1 rfl).1] at rj1
 have HB1 := Lib.hid hbl
 clear hbl hp hrow
 go_upto_region 17 with (at_builtin; (refine app1f X1 X1.heap.size rfl rfl _ _ 103 rfl 3 (.int .i64 0) 1 8 (by kernel_rfl) (by kernel_rfl) rfl (.slice none 0 0) 0 [] [.int .i64 0] rfl rfl hrow1 rfl (by simp [Value.oneCell']) (by omega) (by decide) ?_); intro v5 w5 full5 hr5 hF5 hc5; obtain ⟨A5n, cap5n, rfl⟩ := rowv hr5; have u5 := HB1.out.fr hF5 (rowf_ne hrow1 HB1.out (by decide)); have d5 := u5.cell 8 rfl; have e5 := u5.frz 8; clear rj1 zj1 u5)
 obtain ⟨v2, n2, F2, HB2⟩ : ∃ (v2 : Nat → Value) (n2 : Nat → Nat) (F2 : Nat → List Value), Hid (PtB w' col c ib fb ab db gd cap L D B root T ea sb v2 n2 F2 (w5.setCell ⟨ib, 4 + 4, none⟩ (.slice A5n (0 + 1) cap5n)) ∧ PtR sb v2 n2 F2 1) := by
  have h := HR1.out
  have h4 := (h.2.2.2.2.2.2.2.2.2.1 rfl).1
  refine ⟨_, _, _, Lib.hid ⟨HP1.out.app (k := 4) (by decide) hr5 (by rw [h4]; exact hF5) (by rw [h4]; rcases hc5 with ⟨e, _⟩ | ⟨e, _⟩; exact .inl e; exact .inr e), h.1, h.2.1, h.2.2.1, h.2.2.2.1, h.2.2.2.2.1, h.2.2.2.2.2.1, h.2.2.2.2.2.2.1, rfl, h.2.2.2.2.2.2.2.2.1, (fun h => by cases h), fun _ => ?_⟩⟩
  rcases hc5 with ⟨_, e⟩ | ⟨_, k, e⟩
  ·rw [upd_same', e]; rfl
  ·rw [upd_same', e]; rfl
 clear d5 e5 hr5 hF5 hc5 HP1 HB1 hrow1
 refine wp_named (fun X => PtB w' col c ib fb ab db gd cap L D B root T ea sb v2 n2 F2 X) HB2.out.1 ?_
 intro X2 hp
 have HR2 := Lib.hid HB2.out.2
 obtain ⟨colX, sl, HIt⟩ : ∃ colX sl, Hid (It X2 colX c ib fb ab db gd cap L D B root [] v2 n2 F2 sl [] root ∧ Kp (itc c) col w' colX X2 ∧ Tabs X2 colX ∧ Done X2 colX T ea) := by
  obtain ⟨colX, sl, h⟩ := hp.it HR2.out
  exact ⟨colX, sl, Lib.hid h⟩
 clear hp HB2
 obtain ⟨g0, c0, b, e1, e2, e3, e4, e5, e6, e7, rt, hs⟩ := HIt.out.1.top
 have r4 := HIt.out.1.ic.blk.blk.cell 4 rfl
 rw [e1] at r4
 have r4' : X2.cell? ⟨ib, 4, none⟩ = some (.slice (some ⟨g0, 0, none⟩) 1 c0) := r4
 have rt' : X2.cell? ⟨g0, 0, none⟩ = some (.iface 254 (.pointer (some ⟨b, 0, none⟩))) := rt
 clear r4 rt
 have hrf := root_fin HH.out.2.1.file HH.out.2.2.2.2.2.2.2
 have hfi : ∀ k, Calls Tryz.prog 175 #[.pointer (some ⟨b, 0, none⟩)] (X2.drewN k) fun e w' => e = .returned (.bool false) ∧ w' = X2.drewN k := fun k => by
  have := fin_calls (hs.fr ((Fr.refl (fun _ => False) X2).drewN k) (fun h => h))
  rw [hrf] at this
  exact this
 have j1 := mt_fin ⟨b, 0, none⟩
 have j2 := nt_fin ⟨b, 0, none⟩
 have d1 : (0 : Int) < (c0 : Int) := by have := e2; simp at this; omega
 have hnx : ∀ k, Calls Tryz.prog 91 #[.pointer (some ⟨ib, 0, none⟩), .int .i64 (-1)] (X2.drewN k) fun e w1 => NxPost w' col c ib fb ab db gd cap L D B root T ea L e w1 := fun k => by
  have hk := ((Fr.refl (fun _ => False) X2).drewN k)
  have hIk := HIt.out.1.frF hk
  have hKk : Kp (itc c) colX X2 (paint X2.heap.size (c + 7) colX) (X2.drewN k) := Kp.itF hk
  have hc0 := HIt.out.1.far.2.2.2
  have hah : Fmt.ahead (getB backN B) [] root 0 = L := by rw [ahead_root (getB_down backN B) hrf]; exact HH.out.2.1.file.keys
  have hn := next_calls hIk (HIt.out.2.2.1.kp hKk (by unfold itc; omega)) (HIt.out.2.2.2.kp hKk (by unfold itc; omega)) HH.out.2.2.2.2.2.2.1 (by
   rw [hah]
   intro p hp
   exact klt_nil (HH.out.2.2.2.2.2.2.2 p hp)) (fun _ => ⟨HR2.out.1, HR2.out.2.1⟩) (by simp)
  rw [hah] at hn
  refine hn.mono ?_
  rintro e w1 ⟨K1, col', v', n', F', sl', P', a', q1, q2, q3⟩
  exact ⟨K1, col', v', n', F', sl', P', a', q1, (HIt.out.2.1.trans hKk).trans q2, q3⟩
 clear hs e1 e2 e3 e4 e5 e6 e7 hrf
 go_wp2_with fail
 refine wp_loop_once fun KI => ?_
 go_wp2_with fail
 go_quiet ((go_at_call 175; exact Calls.quiet_of_same (hfi _)))
 rename_i nq
 have hnx := hnx nq
 go_wp2_with fail
 refine hnx.mono ?_
 intro e w1 hp
 obtain ⟨x, rfl, HE⟩ : ∃ x, e = .returned x ∧ Hid (NxPost w' col c ib fb ab db gd cap L D B root T ea L (.returned x) w1) := by
  obtain ⟨K1, col', v', n', F', sl', P', a', q1, q2, q3⟩ := hp
  rcases q3 with ⟨k, o, L1, e1, rfl, q4⟩ | ⟨e1, rfl, q4⟩
  ·exact ⟨_, rfl, Lib.hid ⟨K1, col', v', n', F', sl', P', a', q1, q2, .inl ⟨k, o, L1, e1, rfl, q4⟩⟩⟩
  ·exact ⟨_, rfl, Lib.hid ⟨K1, col', v', n', F', sl', P', a', q1, q2, .inr ⟨e1, rfl, q4⟩⟩⟩
 clear hp hnx
 go_wp2_with fail
 go_ret
 exact HE.out
end
end
section
open Go.RowKit Fmt
section
variable {w : World} {col : Col} {c ib fb ab db gd cap : Nat} {L : Prs} {D B : List Nat} {root : Nat} {T : TypeId} {ea : Addr}
/-- A new iterator's cells. -/
def zic : List Value := [.pointer none, .nilIface, .slice none 0 0, .slice none 0 0, .slice none 0 0, .slice none 0 0, .slice none 0 0, .slice none 0 0, .slice none 0 0, .slice none 0 0, .int .u8 0]
/-- An iterator at a pair, the ones that come after. -/
def ItAt (w : World) (col : Col) (c ib fb db gd cap : Nat) (L : Prs) (D B : List Nat) (root : Nat) (k : List Nat) (o : Nat) (L1 : Prs) : Prop :=
 ∃ (ab : Nat) (K0 : List Nat) (v : Nat → Value) (n : Nat → Nat) (F : Nat → List Value) (sl : List (Option Nat)) (P : Fmt.Way) (a : Nat), It w col c ib fb ab db gd cap L D B root K0 v n F sl P a ∧ (nodeOf (getB backN B) a).fin = true ∧ wkey (getB backN B) P = k ∧ wval (getB backN B) P + (nodeOf (getB backN B) a).fout = o ∧ Fmt.ahead (getB backN B) P a 0 = L1
/-- An iterator behind the last pair. -/
def ItEnd (w : World) (col : Col) (c ib fb db gd cap : Nat) (L : Prs) (D B : List Nat) (root : Nat) : Prop :=
 ∃ (ab : Nat) (K0 : List Nat) (v : Nat → Value) (n : Nat → Nat) (F : Nat → List Value) (sl : List (Option Nat)), It w col c ib fb ab db gd cap L D B root K0 v n F sl [] root
theorem ItAt.kp {w w1 : World} {C : Nat → Prop} {col col1 : Col} {k : List Nat} {o : Nat} {L1 : Prs} (h : ItAt w col c ib fb db gd cap L D B root k o L1) (hk : Kp C col w col1 w1) (hn : ∀ d, c ≤ d → d ≤ c + 7 → ¬ C d) (h0 : ¬ C 0) : ItAt w1 col1 c ib fb db gd cap L D B root k o L1 := by
 obtain ⟨ab, K0, v, n, F, sl, P, a, h1, h2⟩ := h
 exact ⟨ab, K0, v, n, F, sl, P, a, h1.kp hk hn h0, h2⟩
theorem ItEnd.kp {w w1 : World} {C : Nat → Prop} {col col1 : Col} (h : ItEnd w col c ib fb db gd cap L D B root) (hk : Kp C col w col1 w1) (hn : ∀ d, c ≤ d → d ≤ c + 7 → ¬ C d) (h0 : ¬ C 0) : ItEnd w1 col1 c ib fb db gd cap L D B root := by
 obtain ⟨ab, K0, v, n, F, sl, h1⟩ := h
 exact ⟨ab, K0, v, n, F, sl, h1.kp hk hn h0⟩
/-- What making an iterator gives. -/
def IterPost (w : World) (col : Col) (c fb db gd cap : Nat) (L : Prs) (D B : List Nat) (root : Nat) (T : TypeId) (ea : Addr) (e : Ending) (w' : World) : Prop :=
 ∃ col', Kp (itc c) col w col' w' ∧ ((L = [] ∧ e = .returned (.tuple #[.pointer none, .iface T (.pointer (some ea))])) ∨
  (∃ ib k o L1, L = (k, o) :: L1 ∧ w.heap.size ≤ ib ∧ e = .returned (.tuple #[.pointer (some ⟨ib, 0, none⟩), .nilIface]) ∧ ItAt w' col' c ib fb db gd cap L D B root k o L1))
set_option maxHeartbeats 1000000 in
set_option maxRecDepth 100000 in
theorem ireset_calls (hb : Blk w ib zic 144) (hib : col ib = c) (hF : Fst w fb db gd cap L D B root) (hfar : col fb = 0 ∧ col db = 0 ∧ col gd = 0 ∧ 0 < c) (hgl : gd < w.heap.size) (hT : Tabs w col) (hD : Done w col T ea) (hL : ∀ p, p ∈ L → p.1.length ≤ 1048576) (hne : ∀ p, p ∈ L → p.1 ≠ []) :
  Calls Tryz.prog 63 #[.pointer (some ⟨ib, 0, none⟩), .pointer (some ⟨fb, 0, none⟩), .slice none 0 0, .slice none 0 0, .nilIface] w fun e w' => ∃ ab col1 X, NxPost X col1 c ib fb ab db gd cap L D B root T ea L e w' ∧ Kp (itc c) col w col1 X := by
 obtain ⟨X, hX⟩ : ∃ X, Hid (X = ((((w.alloc (.cells #[] 187)).setCell ⟨ib, 0, none⟩ (.pointer (some ⟨fb, 0, none⟩))).setCell ⟨ib, 2, none⟩ (.slice none 0 0)).setCell ⟨ib, 3, none⟩ (.slice none 0 0)).setCell ⟨ib, 1, none⟩ (.iface 186 (.pointer (some ⟨w.heap.size, 0, none⟩)))) := ⟨_, Lib.hid rfl⟩
 have hbX : Blk X ib (icells fb w.heap.size fun _ => .slice none 0 0) 144 := by rw [hX.out]; exact ((((hb.alloc _).set 0 _).set 2 _).set 3 _).set 1 _
 have hFX : Fr (fun k => k = ib) w X := by
  rw [hX.out]
  exact (((((Fr.refl (fun k => k = ib) w).alloc _).put1 0 _).put1 2 _).put1 3 _).put1 1 _
 have hK : Kp (itc c) col w (paint w.heap.size c col) X := Kp.of hFX c (fun k _ e => by rw [e, hib]; unfold itc; omega) (by unfold itc; omega)
 obtain ⟨f1, f2, f3, f4⟩ := hfar
 have hpt := point_calls (w := X) (col := paint w.heap.size c col) (c := c) (ib := ib) (ab := w.heap.size) ⟨⟨hbX, (paint_lt hb.lt).trans hib⟩, fun k _ => RowC.nil _ _ _ _ _⟩
  (hF.fr hFX (fun e => by rw [e] at f1; omega) (fun e => by rw [e] at f2; omega) (fun e => by rw [e] at f3; omega)) ⟨(paint_lt hF.fst.lt).trans f1, (paint_lt hF.dec.lt).trans f2, (paint_lt hgl).trans f3, f4⟩ (Nat.lt_of_lt_of_le hgl hFX.size) (hT.kp hK (by unfold itc; omega)) (hD.kp hK (by unfold itc; omega)) hL hne
 have r0 := (hb.alloc (.cells #[] 187)).cell 0 rfl
 have r1 := (hb.alloc (.cells #[] 187)).cell 1 rfl
 have r2 := (hb.alloc (.cells #[] 187)).cell 2 rfl
 have r3 := (hb.alloc (.cells #[] 187)).cell 3 rfl
 have z0 := (hb.alloc (.cells #[] 187)).frz 0
 have z1 := (hb.alloc (.cells #[] 187)).frz 1
 have z2 := (hb.alloc (.cells #[] 187)).frz 2
 have z3 := (hb.alloc (.cells #[] 187)).frz 3
 have HK := Lib.hid hK
 clear hb hib hF hgl hT hD hL hne hbX hFX hK f1 f2 f3 f4
 go_enter Tryz.func63, Tryz.ntmps63
 go_wp2_with fail
 rw [← hX.out]
 refine hpt.mono ?_
 intro e w1 hp
 obtain ⟨x, rfl, HE⟩ : ∃ x, e = .returned x ∧ Hid (NxPost X (paint w.heap.size c col) c ib fb w.heap.size db gd cap L D B root T ea L (.returned x) w1) := by
  obtain ⟨K1, col', v', n', F', sl', P', a', q1, q2, q3⟩ := hp
  rcases q3 with ⟨k, o, L1, e1, rfl, q4⟩ | ⟨e1, rfl, q4⟩
  ·exact ⟨_, rfl, Lib.hid ⟨K1, col', v', n', F', sl', P', a', q1, q2, .inl ⟨k, o, L1, e1, rfl, q4⟩⟩⟩
  ·exact ⟨_, rfl, Lib.hid ⟨K1, col', v', n', F', sl', P', a', q1, q2, .inr ⟨e1, rfl, q4⟩⟩⟩
 clear hp hpt r0 r1 r2 r3 z0 z1 z2 z3
 go_wp2_with fail
 go_ret
 exact ⟨_, _, X, HE.out, HK.out⟩
set_option maxHeartbeats 1000000 in
set_option maxRecDepth 100000 in
theorem newiter_calls (hF : Fst w fb db gd cap L D B root) (hfar : col fb = 0 ∧ col db = 0 ∧ col gd = 0 ∧ 0 < c) (hgl : gd < w.heap.size) (hT : Tabs w col) (hD : Done w col T ea) (hL : ∀ p, p ∈ L → p.1.length ≤ 1048576) (hne : ∀ p, p ∈ L → p.1 ≠ []) :
  Calls Tryz.prog 44 #[.pointer (some ⟨fb, 0, none⟩), .slice none 0 0, .slice none 0 0, .nilIface] w fun e w' => IterPost w col c fb db gd cap L D B root T ea e w' := by
 have hFa : Fr (fun _ => False) w (w.alloc (.cells #[.pointer none, .nilIface, .slice none 0 0, .slice none 0 0, .slice none 0 0, .slice none 0 0, .slice none 0 0, .slice none 0 0, .slice none 0 0, .slice none 0 0, .int .u8 0] 144)) := (Fr.refl _ w).alloc _
 have hbn : Blk (w.alloc (.cells #[.pointer none, .nilIface, .slice none 0 0, .slice none 0 0, .slice none 0 0, .slice none 0 0, .slice none 0 0, .slice none 0 0, .slice none 0 0, .slice none 0 0, .int .u8 0] 144)) w.heap.size zic 144 := Blk.newAt w zic 144 _ rfl
 obtain ⟨f1, f2, f3, f4⟩ := hfar
 have hK : Kp (itc c) col w (paint w.heap.size c col) _ := Kp.news hFa c (by unfold itc; omega)
 have hrs := ireset_calls hbn (paint_ge (Nat.le_refl _)) (hF.fr hFa (fun h => h) (fun h => h) (fun h => h)) ⟨(paint_lt hF.fst.lt).trans f1, (paint_lt hF.dec.lt).trans f2, (paint_lt hgl).trans f3, f4⟩ (Nat.lt_of_lt_of_le hgl hFa.size) (hT.kp hK (by unfold itc; omega)) (hD.kp hK (by unfold itc; omega)) hL hne
 have HK := Lib.hid hK
 clear hF hgl hT hD hL hne hFa hbn hK f1 f2 f3 f4
 go_enter Tryz.func44, Tryz.ntmps44
 go_wp2_with fail
 refine hrs.mono ?_
 rintro e w1 ⟨ab, col1, X, hp, hKX⟩
 have HKX := Lib.hid (HK.out.trans hKX)
 obtain ⟨K1, col', v', n', F', sl', P', a', q1, q2, q3⟩ := hp
 have HQ := Lib.hid (And.intro q1 q2)
 clear hrs hKX q1 q2
 rcases q3 with ⟨k, o, L1, e1, rfl, q4⟩ | ⟨e1, rfl, q4⟩
 ·have HE := Lib.hid (And.intro e1 q4)
  clear e1 q4
  go_wp2_with fail
  go_ret2
  exact ⟨col', HKX.out.trans HQ.out.2, .inr ⟨w.heap.size, k, o, L1, HE.out.1, Nat.le_refl _, rfl, ab, K1, v', n', F', sl', P', a', HQ.out.1, HE.out.2⟩⟩
 ·have HE := Lib.hid (And.intro e1 q4)
  clear e1 q4
  go_wp2_with fail
  go_ret2
  exact ⟨col', HKX.out.trans HQ.out.2, .inl ⟨HE.out.1, rfl⟩⟩
set_option maxHeartbeats 1000000 in
set_option maxRecDepth 100000 in
theorem iter_calls (hF : Fst w fb db gd cap L D B root) (hfar : col fb = 0 ∧ col db = 0 ∧ col gd = 0 ∧ 0 < c) (hgl : gd < w.heap.size) (hT : Tabs w col) (hD : Done w col T ea) (hL : ∀ p, p ∈ L → p.1.length ≤ 1048576) (hne : ∀ p, p ∈ L → p.1 ≠ []) :
  Calls Tryz.prog 28 #[.pointer (some ⟨fb, 0, none⟩), .slice none 0 0, .slice none 0 0] w fun e w' => IterPost w col c fb db gd cap L D B root T ea e w' := by
 have hn := newiter_calls (c := c) hF hfar hgl hT hD hL hne
 clear hF hfar hgl hT hD hL hne
 go_enter Tryz.func28, Tryz.ntmps28
 go_wp2_with fail
 refine hn.mono ?_
 rintro e w1 ⟨col', hK, hp⟩
 have HK := Lib.hid hK
 clear hn hK
 rcases hp with ⟨e1, rfl⟩ | ⟨ib, k, o, L1, e1, e2, rfl, hA⟩
 ·have HE := Lib.hid e1
  clear e1
  go_wp2_with fail
  go_ret2
  exact ⟨col', HK.out, .inl ⟨HE.out, rfl⟩⟩
 ·have HE := Lib.hid (And.intro e1 (And.intro e2 hA))
  clear e1 e2 hA
  go_wp2_with fail
  go_ret2
  exact ⟨col', HK.out, .inr ⟨ib, k, o, L1, HE.out.1, HE.out.2.1, rfl, HE.out.2.2⟩⟩
/-- Where an iterator's key lies. -/
theorem ItAt.cur {k : List Nat} {o : Nat} {L1 : Prs} (h : ItAt w col c ib fb db gd cap L D B root k o L1) (hne : ∀ p, p ∈ L → p.1 ≠ []) (ho : o < 18446744073709551616) :
  ∃ g1 c1, Byts w g1 0 k ∧ col g1 = c + 2 ∧ k.length ≤ c1 ∧ c1 ≤ maxLen ∧ Calls Tryz.prog 128 #[.pointer (some ⟨ib, 0, none⟩)] w fun e w' => e = .returned (.tuple #[.slice (some ⟨g1, 0, none⟩) k.length c1, .int .u64 (o : Int)]) ∧ Fr (fun _ => False) w w' := by
 obtain ⟨ab, K0, v, n, F, sl, P, a, h1, h2, h3, h4, h5⟩ := h
 have hP : 0 < P.length := by
  rcases Nat.eq_zero_or_pos P.length with h0 | h0
  ·have hP := List.length_eq_zero_iff.1 h0
   have hw := h1.way
   rw [hP] at hw
   have hra : root = a := hw
   have := root_fin h1.fst.file hne
   rw [hra, h2] at this
   cases this
  ·exact h0
 obtain ⟨x, hx⟩ : ∃ x, P[0]? = some x := ⟨_, List.getElem?_eq_getElem hP⟩
 obtain ⟨g1, c1, q1, q2, q3, q4, q5, q6, q7⟩ := (h1.ic.row 1 (by decide)).row.at_ (h1.f1 0 x hx)
 have hl : P.length = k.length := by rw [← h3]; simp [wkey]
 have hcol := (h1.ic.row 1 (by decide)).col g1 (by rw [q1]; rfl)
 rw [h1.n1, hl] at q1 q2
 refine ⟨g1, c1, ⟨fun j y hj => ?_⟩, by rw [hcol], q2, q3, ?_⟩
 ·rw [Nat.zero_add]
  rw [← h3] at hj
  unfold wkey at hj
  rw [List.getElem?_map, Option.map_eq_some_iff] at hj
  obtain ⟨z, hz, rfl⟩ := hj
  exact q5.cell j (h1.f1 j z hz)
 ·have hc := cur_some h1 h2 (by rw [h4]; exact ho)
  rw [h4, q1] at hc
  exact hc
theorem ItEnd.cur (h : ItEnd w col c ib fb db gd cap L D B root) (hne : ∀ p, p ∈ L → p.1 ≠ []) :
  Calls Tryz.prog 128 #[.pointer (some ⟨ib, 0, none⟩)] w fun e w' => e = .returned (.tuple #[.slice none 0 0, .int .u64 0]) ∧ Fr (fun _ => False) w w' := by
 obtain ⟨ab, K0, v, n, F, sl, h1⟩ := h
 exact cur_none h1 (root_fin h1.fst.file hne)
/-- What moving on gives. -/
def ItNext (w : World) (col : Col) (c ib fb db gd cap : Nat) (L : Prs) (D B : List Nat) (root : Nat) (T : TypeId) (ea : Addr) (L1 : Prs) (e : Ending) (w' : World) : Prop :=
 ∃ col', Kp (itc c) col w col' w' ∧ ((L1 = [] ∧ e = .returned (.iface T (.pointer (some ea))) ∧ ItEnd w' col' c ib fb db gd cap L D B root) ∨
  (∃ k o L2, L1 = (k, o) :: L2 ∧ e = .returned .nilIface ∧ ItAt w' col' c ib fb db gd cap L D B root k o L2))
set_option maxHeartbeats 1000000 in
set_option maxRecDepth 100000 in
theorem ItAt.next {k : List Nat} {o : Nat} {L1 : Prs} (h : ItAt w col c ib fb db gd cap L D B root k o L1) (hT : Tabs w col) (hD : Done w col T ea) (hL : ∀ p, p ∈ L → p.1.length ≤ 1048576) (hne : ∀ p, p ∈ L → p.1 ≠ []) (hk : ∀ p, p ∈ L1 → klt k p.1) :
  Calls Tryz.prog 130 #[.pointer (some ⟨ib, 0, none⟩)] w fun e w' => ItNext w col c ib fb db gd cap L D B root T ea L1 e w' := by
 obtain ⟨ab, K0, v, n, F, sl, P, a, h1, h2, h3, h4, h5⟩ := h
 have hP0 : P ≠ [] := fun hP => by
  have hw := h1.way
  rw [hP] at hw
  have hra : root = a := hw
  have := root_fin h1.fst.file hne
  rw [hra, h2] at this
  cases this
 have hlen : P.length ≤ 1048576 := by
  have hok := way_ok codesOk (by have := h1.fst.file.len; omega) h1.way h1.fst.file.ok
  have hka : keysAt (getB backN B) a ≠ [] := by
   rw [keys_node _ (getB_down backN B)]
   unfold own
   rw [h2]
   simp
  obtain ⟨kk, oo, hm⟩ := way_keys (getB_down backN B) h1.way hka
  rw [h1.fst.file.keys] at hm
  have := hL _ hm
  simp [wkey] at this
  omega
 have hn := next_calls h1 hT hD hL (by rw [h5, h3]; exact hk) (fun hP => absurd hP hP0) hlen
 rw [h5] at hn
 clear h1 hT hD hL hne hk h2 h3 h4 h5 hP0 hlen
 go_enter Tryz.func130, Tryz.ntmps130
 go_wp2_with fail
 refine hn.mono ?_
 rintro e w1 ⟨K1, col', v', n', F', sl', P', a', q1, q2, q3⟩
 have HQ := Lib.hid (And.intro q1 q2)
 clear hn q1 q2
 rcases q3 with ⟨k', o', L2, e1, rfl, q4⟩ | ⟨e1, rfl, q4⟩
 ·have HE := Lib.hid (And.intro e1 q4)
  clear e1 q4
  go_wp2_with fail
  go_ret
  exact ⟨col', HQ.out.2, .inr ⟨k', o', L2, HE.out.1, rfl, ab, K1, v', n', F', sl', P', a', HQ.out.1, HE.out.2⟩⟩
 ·have HE := Lib.hid (And.intro e1 q4)
  clear e1 q4
  go_wp2_with fail
  go_ret
  refine ⟨col', HQ.out.2, .inl ⟨HE.out.1, rfl, ab, K1, v', n', F', sl', ?_⟩⟩
  have h := HQ.out.1
  have hP := HE.out.2
  have hw := h.way
  rw [hP] at h hw
  have hra : root = a' := hw
  rw [← hra] at h
  exact h
theorem iclose_calls (w : World) (a : Addr) : Calls Tryz.prog 127 #[.pointer (some a)] w fun e w' => e = .returned .nilIface ∧ w' = w := by
 go_enter Tryz.func127, Tryz.ntmps127
 go_wp2_with fail
 go_ret
 exact ⟨rfl, rfl⟩
end
end
section
open Go.RowKit Fmt
set_option maxHeartbeats 1000000 in
set_option maxRecDepth 100000 in
theorem min_calls {w : World} {v : Value} {l : List Nat} (h : NumsV w v l) (h2 : 2 ≤ l.length) (hl : l.length ≤ 1099511627776) (hlt : ∀ x, x ∈ l → x < 2 ^ 64) : Calls Tryz.prog 36 #[v] w fun e w' => e = .returned (.int .u64 (jn 0 l : Int)) ∧ w' = w := by
 rcases h with ⟨b, o, c, rfl, hc, hb, hcap, hcm⟩ | ⟨h1, _⟩
 ·obtain ⟨y, hy⟩ : ∃ y, l[0]? = some y := ⟨_, List.getElem?_eq_getElem (by omega)⟩
  have c0 := hc 0 y hy
  rw [Nat.add_zero] at c0
  have HC := Lib.hid hc
  have HL := Lib.hid hlt
  have HJ : Hid (jn 0 (l.take 1) = y) := Lib.hid (by
   cases l with
   | nil => simp at hy
   | cons a l => simp at hy; subst hy; rfl)
  obtain ⟨n, hn⟩ : ∃ n, Hid (l.length = n) := ⟨_, Lib.hid rfl⟩
  rw [hn.out] at h2 hl hcap ⊢
  have e0 : (0 : Int) < (n : Int) := by omega
  obtain ⟨n1, hn1⟩ : ∃ n1, Hid (n - 1 = n1) := ⟨_, Lib.hid rfl⟩
  have e1 : (1 : Int) ≤ (n : Int) := by omega
  have e2 : ¬ c = 1 := by omega
  have e3 : (n : Int) ≤ (c : Int) := by omega
  have H2 := Lib.hid h2
  clear hc hlt hb hcm hy h2
  go_enter Tryz.func36, Tryz.ntmps36
  go_wp2_with fail
  rw [hn1.out]
  clear c0
  go_loopg [12, 3] n (fun g i u wx => ∃ k : Nat, k + 1 ≤ n ∧ g = n - k ∧ i = .int .i64 (k : Int) ∧ u = .int .u64 (jn 0 (l.take (k + 1)) : Int) ∧ wx = w)
  case atStart => exact ⟨0, by have := H2.out; omega, by omega, rfl, by rw [HJ.out], rfl⟩
  case round =>
   obtain ⟨k, hk, hg, rfl, rfl, rfl⟩ := hrel
   have HG := Lib.hid hg
   clear hg
   by_cases hkn : k + 1 < n
   ·obtain ⟨x, hx⟩ : ∃ x, l[k + 1]? = some x := ⟨_, List.getElem?_eq_getElem (by rw [hn.out]; exact hkn)⟩
    have ck := HC.out (k + 1) x hx
    rw [show o + (k + 1) = o + 1 + k by omega] at ck
    have d1 : (k : Int) < (n1 : Int) := by have := hn1.out; omega
    have e4 : IntKind.i64.wrap ((k : Int) + 1) = ((k + 1 : Nat) : Int) := by rw [IntWalk.i64_in _ (by omega)]; omega
    have hj := jn_take 0 (by omega : 0 < k + 1) hx
    have hlx := HL.out x (List.mem_of_getElem? hx)
    have hlj := jn_lt (how := 0) (l := l.take (k + 1)) (fun y hy => HL.out y (List.mem_of_mem_take hy))
    have HK := Lib.hid hj
    obtain ⟨u, hu⟩ : ∃ u, Hid (jn 0 (l.take (k + 1)) = u) := ⟨_, Lib.hid rfl⟩
    rw [hu.out] at hj hlj ⊢
    unfold jop at hj
    simp only [if_true] at hj
    by_cases hlt : x < u
    ·rw [if_pos hlt] at hj
     have e5 : (x : Int) < (u : Int) := by omega
     have HR := Lib.hid hj
     clear hj hx hlx hlj
     go_wp2_with fail
     go_roundg (n - (k + 1))
     case measure => have := HG.out; omega
     case rel => exact ⟨k + 1, by omega, rfl, by simp, by rw [HR.out], rfl⟩
    ·rw [if_neg hlt] at hj
     have e5 : ¬ (x : Int) < (u : Int) := by omega
     have HR := Lib.hid hj
     clear hj hx hlx hlj
     go_wp2_with fail
     go_roundg (n - (k + 1))
     case measure => have := HG.out; omega
     case rel => exact ⟨k + 1, by omega, rfl, by simp, by rw [HR.out], rfl⟩
   ·have d1 : ¬ (k : Int) < (n1 : Int) := by have := hn1.out; omega
    have HR : Hid (l.take (k + 1) = l) := Lib.hid (List.take_of_length_le (by rw [hn.out]; omega))
    go_wp2_with fail
    go_ret
    refine ⟨?_, rfl⟩
    rw [HR.out]; rfl
 ·subst h1; simp at h2
set_option maxHeartbeats 1000000 in
set_option maxRecDepth 100000 in
theorem max_calls {w : World} {v : Value} {l : List Nat} (h : NumsV w v l) (h2 : 2 ≤ l.length) (hl : l.length ≤ 1099511627776) (hlt : ∀ x, x ∈ l → x < 2 ^ 64) : Calls Tryz.prog 37 #[v] w fun e w' => e = .returned (.int .u64 (jn 1 l : Int)) ∧ w' = w := by
 rcases h with ⟨b, o, c, rfl, hc, hb, hcap, hcm⟩ | ⟨h1, _⟩
 ·obtain ⟨y, hy⟩ : ∃ y, l[0]? = some y := ⟨_, List.getElem?_eq_getElem (by omega)⟩
  have c0 := hc 0 y hy
  rw [Nat.add_zero] at c0
  have HC := Lib.hid hc
  have HL := Lib.hid hlt
  have HJ : Hid (jn 1 (l.take 1) = y) := Lib.hid (by
   cases l with
   | nil => simp at hy
   | cons a l => simp at hy; subst hy; rfl)
  obtain ⟨n, hn⟩ : ∃ n, Hid (l.length = n) := ⟨_, Lib.hid rfl⟩
  rw [hn.out] at h2 hl hcap ⊢
  have e0 : (0 : Int) < (n : Int) := by omega
  obtain ⟨n1, hn1⟩ : ∃ n1, Hid (n - 1 = n1) := ⟨_, Lib.hid rfl⟩
  have e1 : (1 : Int) ≤ (n : Int) := by omega
  have e2 : ¬ c = 1 := by omega
  have e3 : (n : Int) ≤ (c : Int) := by omega
  have H2 := Lib.hid h2
  clear hc hlt hb hcm hy h2
  go_enter Tryz.func37, Tryz.ntmps37
  go_wp2_with fail
  rw [hn1.out]
  clear c0
  go_loopg [12, 3] n (fun g i u wx => ∃ k : Nat, k + 1 ≤ n ∧ g = n - k ∧ i = .int .i64 (k : Int) ∧ u = .int .u64 (jn 1 (l.take (k + 1)) : Int) ∧ wx = w)
  case atStart => exact ⟨0, by have := H2.out; omega, by omega, rfl, by rw [HJ.out], rfl⟩
  case round =>
   obtain ⟨k, hk, hg, rfl, rfl, rfl⟩ := hrel
   have HG := Lib.hid hg
   clear hg
   by_cases hkn : k + 1 < n
   ·obtain ⟨x, hx⟩ : ∃ x, l[k + 1]? = some x := ⟨_, List.getElem?_eq_getElem (by rw [hn.out]; exact hkn)⟩
    have ck := HC.out (k + 1) x hx
    rw [show o + (k + 1) = o + 1 + k by omega] at ck
    have d1 : (k : Int) < (n1 : Int) := by have := hn1.out; omega
    have e4 : IntKind.i64.wrap ((k : Int) + 1) = ((k + 1 : Nat) : Int) := by rw [IntWalk.i64_in _ (by omega)]; omega
    have hj := jn_take 1 (by omega : 0 < k + 1) hx
    have hlx := HL.out x (List.mem_of_getElem? hx)
    have hlj := jn_lt (how := 1) (l := l.take (k + 1)) (fun y hy => HL.out y (List.mem_of_mem_take hy))
    have HK := Lib.hid hj
    obtain ⟨u, hu⟩ : ∃ u, Hid (jn 1 (l.take (k + 1)) = u) := ⟨_, Lib.hid rfl⟩
    rw [hu.out] at hj hlj ⊢
    unfold jop at hj
    rw [if_neg (by decide), if_pos rfl] at hj
    by_cases hlt : u < x
    ·rw [if_pos hlt] at hj
     have e5 : (u : Int) < (x : Int) := by omega
     have HR := Lib.hid hj
     clear hj hx hlx hlj
     go_wp2_with fail
     go_roundg (n - (k + 1))
     case measure => have := HG.out; omega
     case rel => exact ⟨k + 1, by omega, rfl, by simp, by rw [HR.out], rfl⟩
    ·rw [if_neg hlt] at hj
     have e5 : ¬ (u : Int) < (x : Int) := by omega
     have HR := Lib.hid hj
     clear hj hx hlx hlj
     go_wp2_with fail
     go_roundg (n - (k + 1))
     case measure => have := HG.out; omega
     case rel => exact ⟨k + 1, by omega, rfl, by simp, by rw [HR.out], rfl⟩
   ·have d1 : ¬ (k : Int) < (n1 : Int) := by have := hn1.out; omega
    have HR : Hid (l.take (k + 1) = l) := Lib.hid (List.take_of_length_le (by rw [hn.out]; omega))
    go_wp2_with fail
    go_ret
    refine ⟨?_, rfl⟩
    rw [HR.out]; rfl
 ·subst h1; simp at h2
set_option maxHeartbeats 1000000 in
set_option maxRecDepth 100000 in
theorem sum_calls {w : World} {v : Value} {l : List Nat} (h : NumsV w v l) (h2 : 2 ≤ l.length) (hl : l.length ≤ 1099511627776) (hlt : ∀ x, x ∈ l → x < 2 ^ 64) : Calls Tryz.prog 38 #[v] w fun e w' => e = .returned (.int .u64 (jn 2 l : Int)) ∧ w' = w := by
 rcases h with ⟨b, o, c, rfl, hc, hb, hcap, hcm⟩ | ⟨h1, _⟩
 ·obtain ⟨y, hy⟩ : ∃ y, l[0]? = some y := ⟨_, List.getElem?_eq_getElem (by omega)⟩
  have c0 := hc 0 y hy
  rw [Nat.add_zero] at c0
  have HC := Lib.hid hc
  have HL := Lib.hid hlt
  have HJ : Hid (jn 2 (l.take 1) = y) := Lib.hid (by
   cases l with
   | nil => simp at hy
   | cons a l => simp at hy; subst hy; rfl)
  obtain ⟨n, hn⟩ : ∃ n, Hid (l.length = n) := ⟨_, Lib.hid rfl⟩
  rw [hn.out] at h2 hl hcap ⊢
  have e0 : (0 : Int) < (n : Int) := by omega
  obtain ⟨n1, hn1⟩ : ∃ n1, Hid (n - 1 = n1) := ⟨_, Lib.hid rfl⟩
  have e1 : (1 : Int) ≤ (n : Int) := by omega
  have e2 : ¬ c = 1 := by omega
  have e3 : (n : Int) ≤ (c : Int) := by omega
  have H2 := Lib.hid h2
  clear hc hlt hb hcm hy h2
  go_enter Tryz.func38, Tryz.ntmps38
  go_wp2_with fail
  rw [hn1.out]
  clear c0
  go_loopg [12, 3] n (fun g i u wx => ∃ k : Nat, k + 1 ≤ n ∧ g = n - k ∧ i = .int .i64 (k : Int) ∧ u = .int .u64 (jn 2 (l.take (k + 1)) : Int) ∧ wx = w)
  case atStart => exact ⟨0, by have := H2.out; omega, by omega, rfl, by rw [HJ.out], rfl⟩
  case round =>
   obtain ⟨k, hk, hg, rfl, rfl, rfl⟩ := hrel
   have HG := Lib.hid hg
   clear hg
   by_cases hkn : k + 1 < n
   ·obtain ⟨x, hx⟩ : ∃ x, l[k + 1]? = some x := ⟨_, List.getElem?_eq_getElem (by rw [hn.out]; exact hkn)⟩
    have ck := HC.out (k + 1) x hx
    rw [show o + (k + 1) = o + 1 + k by omega] at ck
    have d1 : (k : Int) < (n1 : Int) := by have := hn1.out; omega
    have e4 : IntKind.i64.wrap ((k : Int) + 1) = ((k + 1 : Nat) : Int) := by rw [IntWalk.i64_in _ (by omega)]; omega
    have hj := jn_take 2 (by omega : 0 < k + 1) hx
    have hlx := HL.out x (List.mem_of_getElem? hx)
    have hlj := jn_lt (how := 2) (l := l.take (k + 1)) (fun y hy => HL.out y (List.mem_of_mem_take hy))
    have HK := Lib.hid hj
    obtain ⟨u, hu⟩ : ∃ u, Hid (jn 2 (l.take (k + 1)) = u) := ⟨_, Lib.hid rfl⟩
    rw [hu.out] at hj hlj ⊢
    unfold jop at hj
    rw [if_neg (by decide), if_neg (by decide)] at hj
    obtain ⟨z, hz⟩ : ∃ z, Hid ((u + x) % 18446744073709551616 = z) := ⟨_, Lib.hid rfl⟩
    rw [hz.out] at hj
    have e5 : IntKind.u64.wrap ((u : Int) + (x : Int)) = (z : Int) := by
     have := hz.out
     rw [IntKind.wrap_u64]; omega
    have HR := Lib.hid hj
    clear hj hx hlx hlj
    go_wp2_with fail
    go_roundg (n - (k + 1))
    case measure => have := HG.out; omega
    case rel => exact ⟨k + 1, by omega, rfl, by simp, by rw [HR.out], rfl⟩
   ·have d1 : ¬ (k : Int) < (n1 : Int) := by have := hn1.out; omega
    have HR : Hid (l.take (k + 1) = l) := Lib.hid (List.take_of_length_le (by rw [hn.out]; omega))
    go_wp2_with fail
    go_ret
    refine ⟨?_, rfl⟩
    rw [HR.out]; rfl
 ·subst h1; simp at h2
/-- The function of a way. -/
def fnOf : Nat → FuncId
 | 0 => 36
 | 1 => 37
 | _ => 38
theorem fn_calls {w : World} {how : Nat} (hh : how ≤ 2) {v : Value} {l : List Nat} (h : NumsV w v l) (h2 : 2 ≤ l.length) (hl : l.length ≤ 1099511627776) (hlt : ∀ x, x ∈ l → x < 2 ^ 64) : Calls Tryz.prog (fnOf how) #[v] w fun e w' => e = .returned (.int .u64 (jn how l : Int)) ∧ w' = w := by
 rcases (by omega : how = 0 ∨ how = 1 ∨ how = 2) with rfl | rfl | rfl
 ·exact min_calls h h2 hl hlt
 ·exact max_calls h h2 hl hlt
 ·exact sum_calls h h2 hl hlt
end
section
open Go.RowKit Fmt
/-- Byte 0 has no code: what it is turned back to. -/
theorem decZero_calls {w : World} {col : Col} (h : Tabs w col) : Calls Tryz.prog 57 #[.int .u8 0] w fun e w' => e = .returned (.int .u8 ((invL.getD 255 0 : Nat) : Int)) ∧ w' = w := by
 obtain ⟨b, o, c, g1, g2, g3, -, -⟩ := h.inv.ex
 have hc := g3 255 (by omega)
 clear g3 h
 generalize invL.getD 255 0 = x at *
 go_enter Tryz.func57, Tryz.ntmps57
 go_wp2_with fail
 go_ret
 exact ⟨rfl, rfl⟩
theorem zenc_calls {w : World} {col : Col} (h : Tabs w col) {i : Nat} (hi : i < 256) : Calls Tryz.prog 39 #[.int .u8 (i : Int)] w fun e w' => e = .returned (.int .u8 (codesN i : Int)) ∧ w' = w := by
 have he := encCommon_calls h hi
 clear h
 go_enter Tryz.func39, Tryz.ntmps39
 go_wp2_with fail
 refine he.mono ?_
 rintro e w' ⟨rfl, rfl⟩
 go_wp2_with fail
 go_ret
 exact ⟨rfl, rfl⟩
theorem zdec_calls {w : World} {col : Col} (h : Tabs w col) {k : Nat} (hk : k < 256) : Calls Tryz.prog 40 #[.int .u8 (k : Int)] w fun e w' => (∃ z : Nat, e = .returned (.int .u8 (z : Int)) ∧ (1 ≤ k → z = backN k)) ∧ w' = w := by
 have he : ∃ z : Nat, (1 ≤ k → z = backN k) ∧ Calls Tryz.prog 57 #[.int .u8 (k : Int)] w fun e w' => e = .returned (.int .u8 (z : Int)) ∧ w' = w := by
  rcases Nat.eq_zero_or_pos k with rfl | h0
  ·exact ⟨_, fun h => by omega, decZero_calls h⟩
  ·exact ⟨_, fun _ => rfl, decCommon_calls h h0 hk⟩
 obtain ⟨z, hz, he⟩ := he
 have HZ := Lib.hid hz
 clear h hz
 go_enter Tryz.func40, Tryz.ntmps40
 go_wp2_with fail
 refine he.mono ?_
 rintro e w' ⟨rfl, rfl⟩
 go_wp2_with fail
 go_ret
 exact ⟨⟨z, rfl, HZ.out⟩, rfl⟩
theorem common_calls {w : World} {col : Col} (h : Tabs w col) {i : Nat} (hi : i < 256) : Calls Tryz.prog 21 #[.int .u8 (i : Int)] w fun e w' => (∃ z : Nat, e = .returned (.tuple #[.int .u8 (codesN i : Int), .int .u8 (z : Int)]) ∧ (1 ≤ codesN i → z = i)) ∧ w' = w := by
 have h1 := zenc_calls h hi
 have hc : codesN i < 64 := codesOk.lt i
 have h2 := zdec_calls h (k := codesN i) (by omega)
 have hb : 1 ≤ codesN i → backN (codesN i) = i := fun h0 => codesOk.inv i (by omega)
 have HB := Lib.hid hb
 clear h hb
 generalize codesN i = k at *
 go_enter Tryz.func21, Tryz.ntmps21
 go_wp2_with fail
 refine h1.mono ?_
 rintro e w' ⟨rfl, rfl⟩
 clear h1
 go_wp2_with fail
 refine h2.mono ?_
 rintro e w2 ⟨⟨z, rfl, hz⟩, rfl⟩
 have HZ := Lib.hid hz
 clear h2 hz
 go_wp2_with fail
 go_ret2
 exact ⟨⟨z, rfl, fun h0 => (HZ.out h0).trans (HB.out h0)⟩, rfl⟩
end
end Go.Proofs.YtmhlnijpimjjaaaGreatDoor
