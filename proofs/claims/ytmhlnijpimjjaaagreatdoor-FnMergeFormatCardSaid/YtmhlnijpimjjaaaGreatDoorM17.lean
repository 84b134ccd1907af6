/- A further key and its value: Insert. Condition: keys rise; at most 10^9 bytes. The builder's end: Close. Condition: at most 10^9 bytes. A builder made. No condition. The implementation's Build: pairs inserted, the builder closed, its bytes. Condition: keys of at most 400 bytes, at most 65536 pairs. -/
import Derived.Test.YtmhlnijpimjjaaaGreatDoorM16
import Derived.Lib.ConvBytes
set_option linter.unusedSimpArgs false
set_option linter.unusedVariables false
namespace Go.Proofs.YtmhlnijpimjjaaaGreatDoor
section
open Go.RowKit Fmt
section
variable {w w' : World} {col col' : Col} {I : Ids} {K K' : List (Nat × Nd)} {st st' : List Un} {tab : Nat → Nat × Option Nat} {B key : List Nat} {last cnt : Nat}
/-- A last key as bytes. -/
theorem last_sby {lv : Value} {full : List Value} {k0 : List Nat} (hr : RowC w col 11 5 1 lv k0.length full) (ht : full.take k0.length = u8s k0) : Sby w lv k0 := by
 rcases hr.row with ⟨rfl, h0, rfl⟩ | ⟨g, cap, rfl, hb, h1, h2, h3⟩
 ·exact .inr ⟨List.length_eq_zero_iff.1 h0, 0, rfl⟩
 ·refine .inl ⟨g, 0, cap, rfl, ⟨fun j c hj => ?_⟩⟩
  rw [Nat.zero_add]
  refine hb.cell j ?_
  have hl := (List.getElem?_eq_some_iff.1 hj).1
  rw [← List.getElem?_take_of_lt hl, ht]
  exact u8s_at hj
/-- The builder with a count of its own. -/
theorem Bld.len (h : Bld w col I K st tab B last key cnt) : w.cell? ⟨I.bd, 3, none⟩ = some (.int .i64 (cnt : Int)) ∧ w.frozen? ⟨I.bd, 3, none⟩ = false ∧ ∀ c : Nat, Bld (w.setCell ⟨I.bd, 3, none⟩ (.int .i64 (c : Int))) col I K st tab B last key c ∧ Kp (fun d => d = 12) col w col (w.setCell ⟨I.bd, 3, none⟩ (.int .i64 (c : Int))) := by
 obtain ⟨lv, full, h1, h2, h3⟩ := h.blk
 refine ⟨h1.blk.cell 3 rfl, h1.blk.frz 3, fun c => ?_⟩
 have k : Kp (fun d => d = 12) col w col (w.setCell ⟨I.bd, 3, none⟩ (.int .i64 (c : Int))) := (Kp.refl _ col w).set _ h1.col
 exact ⟨⟨⟨lv, full, ⟨h1.blk.set 3 _, h1.col⟩, h2.kp k (by omega), h3⟩, h.core.kp k (by unfold crc; omega), h.reg.kp k (by omega), h.enc.kp k (by omega) (by omega) (by omega) (by omega) (by omega)⟩, k⟩
/-- The last key was copied. -/
theorem Bld.cpk {lv : Value} {k0 : List Nat} (h : Bld w col I K st tab B last k0 cnt) (hlv : ∃ full, BlkC w col 12 I.bd (bcells I lv cnt last) 113 ∧ RowC w col 11 5 1 lv k0.length full ∧ full.take k0.length = u8s k0) (hp : CpkPost w col I.bd (bcells I lv cnt last) key w') :
  ∃ col', Bld w' col' I K st tab B last key cnt ∧ Kp (fun d => d = 12 ∨ d = 11) col w col' w' := by
 obtain ⟨lv', full', col', h1, h2, h3, k⟩ := hp
 exact ⟨col', ⟨⟨lv', full', h1, h2, h3⟩, h.core.kp k (by unfold crc; omega), h.reg.kp k (by omega), h.enc.kp k (by omega) (by omega) (by omega) (by omega) (by omega)⟩, k⟩
theorem drop_at {key l : List Nat} {c b : Nat} (h : key.drop c = b :: l) : key[c]? = some b := by
 have := congrArg List.head? h
 simpa [List.head?_drop] using this
theorem cpre_len : ∀ (key : List Nat) (o : Nat) (st : List Un), (cpre key o st).2.2.length = st.length
 | [], o, st => by simp [cpre]
 | b :: key, o, [] => by simp [cpre]
 | b :: key, o, [u] => by simp [cpre]
 | b :: key, o, u :: v :: r => by
  simp only [cpre]
  cases hu : u.last with
  | none => rfl
  | some q =>
   obtain ⟨i, lo⟩ := q
   by_cases hi : i = b
   ·simp only [hi, if_true, List.length_cons]
    rw [cpre_len key _ _]; simp
   ·simp only [hi, if_false]
/-- What Insert leaves. -/
def InsPost (w : World) (col : Col) (I : Ids) (M : Nat) (L : List (List Nat × Nat)) (key : List Nat) (val cnt : Nat) (e : Ending) (w' : World) : Prop :=
 e = .returned .nilIface ∧ ∃ (K' R' : List (Nat × Nd)) (st' : List Un) (tab' : Nat → Nat × Option Nat) (B' : List Nat) (last' : Nat) (col' : Col), BS w' col' I (M + 28 * key.length) K' R' st' tab' B' last' key (cnt + 1) ∧ BI codesN backN (M + 28 * key.length) B' last' R' st' (L ++ [(key, val)]) ∧ Rst st' key ∧ Kp bdc col w col' w'
set_option maxHeartbeats 2000000 in
set_option maxRecDepth 100000 in
theorem ins_calls {M : Nat} {R : List (Nat × Nd)} {L : List (List Nat × Nat)} {k0 : List Nat} {kb ko kc n val : Nat} (h : BS w col I M K R st tab B last k0 cnt) (hbi : BI codesN backN M B last R st L) (hr : Rst st k0) (hk : klt k0 key) (hkb : ∀ x, x ∈ key → x < 256) (hkb0 : ∀ x, x ∈ k0 → x < 256) (hv : val < 18446744073709551616)
  (hby : Byts w kb ko key) (hkc : ¬ bdc (col kb)) (hn : key.length = n) (hnc : n ≤ kc) (hkm : kc ≤ maxLen) (hM : M ≤ 900000000) (hk0l : k0.length ≤ 400000) (hkl : n ≤ 400000) (hcnt : cnt ≤ 1000000000) :
  Calls Tryz.prog 32 #[.pointer (some ⟨I.bd, 0, none⟩), .slice (some ⟨kb, ko, none⟩) n kc, .int .u64 (val : Int)] w (InsPost w col I M L key val cnt) := by
 obtain ⟨P, u, r, b, l, c1, c2, c3, hb0, hnext⟩ := ins_plain hbi hr hk hkb (by simpa using hv)
 have hstl := rst_len hbi hr
 obtain ⟨lv, full, hblk, hrow, htk⟩ := h.bld.blk
 have b2 := hblk.blk.cell 2 rfl
 have b0 := hblk.blk.cell 0 rfl
 have hcmp := compare_calls (w := w) (v1 := .slice (some ⟨kb, ko, none⟩) n kc) (v2 := lv) (l1 := key) (l2 := k0) (.inl ⟨kb, ko, kc, by rw [hn], hby⟩) (last_sby hrow htk) hkb hkb0
 rw [(cmpL_swap key k0).2 hk] at hcmp
 have hcrc : ¬ crc (col kb) := fun e => hkc (crc_bdc e)
 have hfcp := fcp_calls (key := key) (kb := kb) (ko := ko) (kc := kc) (o := val) (fun st' => BI codesN backN M B last R st' L) hbi (fun P u v r i lo c h1 h2 h3 => h1.move h2 h3) (fun st u i h1 h2 => bi_bd h1 h2) h.bld.core (by omega) hby hcrc (by omega) hkm hv
 rw [hn] at hfcp
 have hn0 : ¬ ((n : Int) = 0) := by
  have : key ≠ [] := fun e => by rw [e] at c3; simp at c3
  have := List.length_pos_iff.2 this
  omega
 have hPk : P.length ≤ n := by
  have := congrArg List.length c3
  simp only [List.length_drop, List.length_cons] at this
  omega
 obtain ⟨c, hc⟩ : ∃ c, Hid ((cpre key val st).1 = c) := ⟨_, Lib.hid rfl⟩
 obtain ⟨o2, ho2⟩ : ∃ o2, Hid ((cpre key val st).2.1 = o2) := ⟨_, Lib.hid rfl⟩
 rw [hc.out, ho2.out, c1] at hfcp
 rw [hc.out] at c2 c3
 rw [ho2.out] at hnext
 have HH := Lib.hid (And.intro h (And.intro hb0 (And.intro hnext (And.intro c2 (And.intro c3 (And.intro hby (And.intro hkc (And.intro hkm hn))))))))
 have HN := Lib.hid (And.intro hPk hstl)
 have HL : Hid ((P ++ u :: r).length = k0.length + 1) := Lib.hid (by rw [← c1, cpre_len, hstl])
 clear h hbi hr hk hkb hkb0 hstl hblk hrow htk hb0 hnext c1 c2 c3 hby hkc hkm hPk
 go_enter Tryz.func32, Tryz.ntmps32
 go_wp2_with fail
 refine hcmp.mono ?_
 rintro e w1 ⟨rfl, rfl⟩
 go_wp2_with fail
 refine hfcp.mono ?_
 rintro e w2 ⟨rfl, hC2, hK2⟩
 obtain ⟨h, hb0, hnext, c2, c3, hby, hkc, hkm, hn⟩ := HH.out
 have hB2 := h.bld.core' hK2 hC2
 obtain ⟨q3, z3, hset⟩ := hB2.len
 obtain ⟨cn, hcn⟩ : ∃ cn, Hid (cnt + 1 = cn) := ⟨_, Lib.hid rfl⟩
 have ecn : (cnt : Int) + 1 = (cn : Int) := by have := hcn.out; omega
 have ecw : IntKind.i64.wrap (cn : Int) = (cn : Int) := by have := hcn.out; exact IntWalk.i64_in _ (by omega)
 obtain ⟨hB3, hK3⟩ := hset cn
 have hcf := cfrom_calls (w := w2.setCell ⟨I.bd, 3, none⟩ (.int .i64 (cn : Int))) ⟨hB3, h.reg, h.len, h.hd⟩ hb0 (by omega) (by rw [HL.out]; omega)
 rw [c2] at hcf
 have H3 := Lib.hid (And.intro hnext (And.intro c3 (And.intro (hby.kp (kpb hK2 fun d e => crc_bdc e) hkc) (And.intro (kpb hK2 fun d e => crc_bdc e) (And.intro hK3 (And.intro hn (And.intro hkc hkm)))))))
 clear h hb0 hnext c2 c3 hby hkc hkm hn hC2 hK2 hB2 hset hB3 hK3 HH hfcp hcmp b0 b2
 go_wp2_with fail
 refine hcf.mono ?_
 rintro e w4 ⟨rfl, B', last', R', K', tab', u', col4, hBS, hb4, hu, hK4⟩
 obtain ⟨hnext, c3, hby, hK2, hK3, hn, hkc, hkm⟩ := H3.out
 obtain ⟨lv4, full4, hblk4, hrow4, htk4⟩ := hBS.bld.blk
 have hkb2 : kb < w2.heap.size := by
  have h0 := hby.at_ c b (drop_at c3)
  exact World.block_lt_of_cell? w2 _ h0
 have hkc2 : col kb = col kb := rfl
 have hK24 : Kp bdc col w2 col4 w4 := (kpb hK3 fun d e => by unfold bdc; omega).trans hK4
 have hcol4 : ¬ bdc (col4 kb) := by rw [hK24.same kb hkb2]; exact hkc
 have hby4 := hby.kp hK24 hkc
 have hcpk := cpk_calls (key := key) (m := n) (kc := kc) hblk4 (lv := lv4) rfl hrow4 hby4 ⟨fun e => hcol4 (by rw [e]; unfold bdc; omega), fun e => hcol4 (by rw [e]; unfold bdc; omega)⟩ hn (by omega) (by omega) hnc hkm
 have H4 := Lib.hid (And.intro hnext (And.intro c3 (And.intro hby4 (And.intro (hK2.trans hK24) (And.intro hn (And.intro hcol4 (And.intro hkm (And.intro hBS (And.intro hb4 hu)))))))))
 have H4b := Lib.hid (show ∃ full, BlkC w4 col4 12 I.bd (bcells I lv4 cn last') 113 ∧ RowC w4 col4 11 5 1 lv4 k0.length full ∧ full.take k0.length = u8s k0 from ⟨full4, hblk4, hrow4, htk4⟩)
 clear hnext c3 hby hK2 hK3 hn hkc hkm hkb2 hkc2 hK24 hK4 hBS hb4 hu hblk4 hrow4 htk4 hby4 hcol4 H3 hcf
 go_wp2_with fail
 refine hcpk.mono ?_
 rintro e w5 ⟨rfl, hp5⟩
 obtain ⟨hnext, c3, hby4, hK4, hn, hcol4, hkm, hBS, hb4, hu⟩ := H4.out
 obtain ⟨col5, hB5, hK5⟩ := hBS.bld.cpk H4b.out hp5
 have hkb4 : kb < w4.heap.size := by
  have h0 := hby4.at_ c b (drop_at c3)
  exact World.block_lt_of_cell? w4 _ h0
 have hK5b : Kp bdc col4 w4 col5 w5 := kpb hK5 fun d e => by unfold bdc; omega
 have hby5 := hby4.kp hK5b hcol4
 have hcol5 : ¬ crc (col5 kb) := fun e => hcol4 (by rw [← hK5.same kb hkb4]; exact crc_bdc e)
 have d0 := hB5.cell0
 have hdr : Byts w5.drew kb (ko + c) (b :: l) := ⟨fun j x hj => by
  rw [← c3, List.getElem?_drop] at hj
  have := hby5.at_ (c + j) x hj
  rw [← Nat.add_assoc] at this; exact this⟩
 have hnl : n - c = l.length + 1 := by
  have := congrArg List.length c3
  simp only [List.length_drop, List.length_cons] at this
  omega
 have has := addsx_calls (w := w5.drew) (u := u') (o := o2) (kc := kc - c) hB5.core.drew (by have := HN.out.1; omega) hdr hcol5 (by omega) (by omega)
 have ecn2 : (c : Int) ≤ (n : Int) := by omega
 have ecn3 : (c : Int) ≤ (kc : Int) := by omega
 have ekc : ¬ (kc = c) := by omega
 have H5 := Lib.hid (And.intro hnext (And.intro (hK4.trans hK5b) (And.intro hB5 (And.intro hBS (And.intro hb4 (And.intro hu hn))))))
 clear hnext c3 hby4 hK4 hn hcol4 hkm hBS hb4 hu hB5 hK5 hkb4 hK5b hby5 hcol5 hdr H4 H4b hcpk hp5
 go_wp2_with fail
 refine wp_region_seqV (fun W => W.cell? ⟨I.bd, 0, none⟩ = some (.pointer (some ⟨I.ub, 0, none⟩))) (fun i => decide (i ≠ 8)) (fun i => ![3].contains i && decide (i ≠ 8)) (fun i => decide (i = 8)) [0, 1, 2, 3, 4, 5, 6, 7, 8] (by kernel_rfl) (by kernel_rfl) (fun c a d v w h => by cases d <;> exact h) d0 ?_
 iterate 3 (apply seqV_pure (ho := rfl) (hr := rfl) (hg := rfl); (intro w'; go_simp; rfl))
 (apply seqV_read (ho := rfl) (hr := rfl) (hp := rfl) (hg := rfl); (rintro w' q0; go_simp; rfl))
 go_simp
 iterate 3 (apply seqV_pure (ho := rfl) (hr := rfl) (hg := rfl); (intro w'; go_simp; rfl))
 go_simp
 iterate 1 (apply seqV_pure (ho := rfl) (hr := rfl) (hg := rfl); (intro w'; go_simp; rfl))
 refine seqV_do rfl rfl fun K hK => ?_
 go_simp
 refine has.mono ?_
 rintro e w6 ⟨rfl, col6, hC6, hK6⟩
 refine hK _ _ (fun h => by cases h) ?_
 clear hK K
 have HZ := Lib.hid (And.intro hC6 hK6)
 clear hC6 hK6 has
 unfold seqV
 go_simp
 go_wp2_with fail
 go_ret
 obtain ⟨hnext, hK5, hB5, hBS, hb4, hu, hn⟩ := H5.out
 obtain ⟨hC6, hK6⟩ := HZ.out
 obtain ⟨n1, n2⟩ := hnext B' last' R' u' hb4 hu
 have hcn2 := hcn.out
 subst hcn2
 have hB6 : Bld w6 col6 I K' (P ++ ⟨u'.nd, some (b, o2)⟩ :: chain l) tab' B' last' key (cnt + 1) := hB5.core' ((kdrew.mono (fun _ e => e.elim)).trans hK6) hC6
 exact ⟨rfl, K', R', _, tab', B', last', col6, ⟨hB6, hBS.reg, hBS.len, hBS.hd⟩, n1, n2, hK5.trans (kpb ((kdrew.mono (fun _ e => e.elim)).trans hK6 : Kp crc col5 w5 col6 w6) fun d e => crc_bdc e)⟩
end
end
section
open Go.RowKit Fmt
theorem meth_fin (a : Addr) (w : World) : (method 110 193 (.pointer (some a)) "pub-traverser/pub/vellum.finish").run Tryz.prog w = .ok (152, .pointer (some a)) w := by kernel_rfl
theorem nil_fin (a : Addr) (w : World) : (nilAhead 110 193 (.pointer (some a)) "pub-traverser/pub/vellum.finish").run Tryz.prog w = .ok (some false) w := by kernel_rfl
section
variable {w w' : World} {col col' : Col} {I : Ids} {K K' : List (Nat × Nd)} {st st' : List Un} {tab : Nat → Nat × Option Nat} {B key : List Nat} {last cnt : Nat}
/-- What Close leaves: the file's bytes in the buffer. -/
def ClPost (w : World) (col : Col) (I : Ids) (L : List (List Nat × Nat)) (e : Ending) (w' : World) : Prop :=
 e = .returned .nilIface ∧ ∃ (D B : List Nat) (root : Nat) (buf : List Nat) (v : Value) (full : List Value) (col' : Col), File codesN backN D L B root ∧ Bw w' col' 1 I.fb I.rb I.bb D buf 0 D v full ∧ Kp bdc col w col' w'
set_option maxHeartbeats 2000000 in
set_option maxRecDepth 100000 in
theorem close_calls {M : Nat} {R : List (Nat × Nd)} {L : List (List Nat × Nat)} (h : BS w col I M K R st tab B last key cnt) (hbi : BI codesN backN M B last R st L) (hM : M ≤ 900000000) (hst : st.length ≤ 900000) (hcnt : cnt = L.length) (hcl : cnt ≤ 1000000000) :
  Calls Tryz.prog 35 #[.pointer (some ⟨I.bd, 0, none⟩)] w (ClPost w col I L) := by
 have hM60 : M < 2 ^ 60 := by have : (1000000000 : Nat) < 2 ^ 60 := by decide
                              omega
 obtain ⟨u, r, rfl⟩ : ∃ u r, st = u :: r := by
  obtain ⟨Q, v, p1, _⟩ := hbi.shp.parts
  cases st with
  | nil => simp at p1
  | cons u r => exact ⟨u, r, rfl⟩
 have hcf := cfrom_calls (P := []) (u := u) (r := r) (L := L) h hbi (by omega) hst
 have hcf0 : Calls Tryz.prog 50 #[.pointer (some ⟨I.bd, 0, none⟩), .int .i64 0] w (CfPost w col I M [] u r L key cnt) := hcf
 clear h hbi hcf
 go_enter Tryz.func35, Tryz.ntmps35
 go_wp2_with fail
 refine hcf0.mono ?_
 rintro e w1 ⟨rfl, B1, last1, R1, K1, tab1, u1, col1, hB1, hb1, hu1, hk1⟩
 simp only [List.nil_append] at hB1 hb1
 have c0 := hB1.bld.cell0
 have hpr := popr_calls (st := []) (u := u1) (by simpa using hB1.bld.core) (by simp)
 have H1 := Lib.hid (And.intro hB1 (And.intro hb1 hk1))
 clear hB1 hb1 hu1 hk1 hcf0
 go_wp2_with fail
 refine hpr.mono ?_
 rintro e w2 ⟨xn, col2, rfl, hC2, hK2⟩
 obtain ⟨hB1, hb1, hk1⟩ := H1.out
 have hB2 := hB1.bld.core' hK2 hC2
 have hwf := hb1.wf (Q := []) (v := u1)
 obtain ⟨hbl, hll⟩ := bi_blen hb1
 have hcomp := comp_calls hB2 hB1.reg (fun q hq => by
  rcases List.mem_cons.1 hq with e | e
  ·rw [e]; exact hwf.m.len
  ·exact hB1.len q e) hwf (by omega) (by omega)
 have H2 := Lib.hid (And.intro hb1 (And.intro hB1.hd (hk1.trans (kpb hK2 fun d e => crc_bdc e))))
 clear hB1 hb1 hk1 hC2 hK2 hB2 hwf H1 hpr c0
 go_wp2_with fail
 refine hcomp.mono ?_
 rintro e w3 ⟨a, B3, last3, R3, K3, tab3, col3, rfl, hcmp, hB3, hI3, hsub, hK3⟩
 obtain ⟨hb1, hhd, hk2⟩ := H2.out
 have hfile := File.mk' codesOk (by have : (1000000000 : Nat) < 2 ^ 59 := by decide
                                    omega) hb1 hhd (by have : (1000000000 : Nat) < 2 ^ 60 := by decide
                                                       omega) hcmp
 have halt := hfile.ok.lt
 obtain ⟨-, -, -, hBl⟩ := BI.root codesOk hM60 hb1 hcmp
 obtain ⟨lv, full, hblk, hrow, htk⟩ := hB3.blk
 have d5 := hblk.blk.cell 5 rfl
 have d3 := hblk.blk.cell 3 rfl
 have hfin := finish_calls (cnt := cnt) (root := a) hB3.enc.drew (by omega) (by omega) (by omega)
 have H3 := Lib.hid (And.intro hfile (hk2.trans hK3))
 have HCN := Lib.hid hcnt
 have hme := fun w => meth_fin ⟨I.eb, 0, none⟩ w
 have hni := fun w => nil_fin ⟨I.eb, 0, none⟩ w
 clear hcnt hb1 hhd hk2 hcmp hB3 hI3 hsub hK3 hfile hrow htk H2 hcomp
 go_wp2_with fail
 refine wp_region_seqV (fun W => W.cell? ⟨I.bd, 5, none⟩ = some (.iface 193 (.pointer (some ⟨I.eb, 0, none⟩))) ∧ W.cell? ⟨I.bd, 3, none⟩ = some (.int .i64 (cnt : Int))) (fun i => decide (i ≠ 11)) (fun i => ![3, 7].contains i && decide (i ≠ 11)) (fun i => false) [0, 1, 2, 3, 4, 5, 6, 7, 8, 9, 10, 11, 12] (by kernel_rfl) (by kernel_rfl) (fun c a d v w h => by cases d <;> exact h) ⟨d5, d3⟩ ?_
 iterate 3 (apply seqV_pure (ho := rfl) (hr := rfl) (hg := rfl); (intro w'; go_simp; rfl))
 (apply seqV_read (ho := rfl) (hr := rfl) (hp := rfl) (hg := rfl); (rintro w' ⟨q0, q1⟩; go_simp; rfl))
 go_simp
 iterate 3 (apply seqV_pure (ho := rfl) (hr := rfl) (hg := rfl); (intro w'; go_simp; rfl))
 (apply seqV_read (ho := rfl) (hr := rfl) (hp := rfl) (hg := rfl); (rintro w' ⟨q0, q1⟩; go_simp; rfl))
 go_simp
 iterate 3 (apply seqV_pure (ho := rfl) (hr := rfl) (hg := rfl); (intro w'; go_simp; rfl))
 refine seqV_do rfl rfl fun K hK => ?_
 go_simp
 refine hfin.mono ?_
 rintro e w5 ⟨rfl, col5, hK5, hbw⟩
 have hb5 := (hblk.kp ((kdrew.mono (fun _ e => e.elim)).trans hK5 : Kp (fun d => three 1 d ∨ d = 10) col3 w3 col5 w5) (by unfold three; omega)).blk
 refine hK _ _ (fun _ => ⟨hb5.cell 5 rfl, hb5.cell 3 rfl⟩) ?_
 clear hK K hb5
 have HZ := Lib.hid (And.intro hK5 hbw)
 clear hK5 hbw hfin
 iterate 1 (apply seqV_pure (ho := rfl) (hr := rfl) (hg := rfl); (intro w'; go_simp; rfl))
 unfold seqV
 go_simp
 go_wp2_with fail
 go_ret
 obtain ⟨hfile, hk3⟩ := H3.out
 obtain ⟨hK5, buf, v, full, hbw⟩ := HZ.out
 refine ⟨rfl, _, B3, a, buf, v, full, col5, hfile, by rw [← HCN.out]; exact hbw, hk3.trans (kpb ((kdrew.mono (fun _ e => e.elim)).trans hK5 : Kp (fun d => three 1 d ∨ d = 10) col3 w3 col5 w5) fun d e => by unfold three at e; unfold bdc; omega)⟩
end
end
section
open Go.RowKit Fmt
theorem meth_start (a : Addr) (w : World) : (method 373 193 (.pointer (some a)) "pub-traverser/pub/vellum.start").run Tryz.prog w = .ok (154, .pointer (some a)) w := by kernel_rfl
theorem nil_start (a : Addr) (w : World) : (nilAhead 373 193 (.pointer (some a)) "pub-traverser/pub/vellum.start").run Tryz.prog w = .ok (some false) w := by kernel_rfl
/-- The colours of what is made ahead of the encoder. -/
def nbc : Nat → Prop := fun d => 4 ≤ d ∧ d ≤ 12 ∧ d ≠ 9
section
variable {w w' : World} {col col' : Col} {bb : Nat}
/-- What newBuilder yields. -/
def NewPost (w : World) (col : Col) (bb : Nat) (e : Ending) (w' : World) : Prop :=
 ∃ (I : Ids) (col' : Col), e = .returned (.tuple #[.pointer (some ⟨I.bd, 0, none⟩), .nilIface]) ∧ I.bb = bb ∧ BS w' col' I 27 [] [] stack0 (fun _ => (0, none)) header 1 [] 0 ∧ Kp bdc col w col' w'
set_option maxHeartbeats 2000000 in
set_option maxRecDepth 100000 in
theorem newbu_calls (h : Buf0 w col bb) (ht : Tabs w col) :
  Calls Tryz.prog 45 #[.iface 56 (.pointer (some ⟨bb, 0, none⟩)), .pointer none] w (NewPost w col bb) := by
 obtain ⟨ob, hob⟩ : ∃ ob, Hid (w.heap.size = ob) := ⟨_, Lib.hid rfl⟩
 obtain ⟨pb, hpb⟩ : ∃ pb, Hid (ob + 1 = pb) := ⟨_, Lib.hid rfl⟩
 have hF1 : Fr (fun _ => False) w (w.alloc (.cells [.int .i64 1, .int .i64 10000, .int .i64 2].toArray 147)) := (Fr.refl _ w).alloc _
 have hK1 := Kp.news (col := col) (C := fun d => d = 10) hF1 10 rfl
 have hob1 : BlkC (w.alloc (.cells [.int .i64 1, .int .i64 10000, .int .i64 2].toArray 147)) (paint w.heap.size 10 col) 10 ob [.int .i64 1, .int .i64 10000, .int .i64 2] 147 := ⟨Blk.newAt w _ _ _ hob.out, paint_ge (by rw [hob.out]; exact Nat.le_refl _)⟩
 have hF2 : Fr (fun _ => False) (w.alloc (.cells [.int .i64 1, .int .i64 10000, .int .i64 2].toArray 147)) ((w.alloc (.cells [.int .i64 1, .int .i64 10000, .int .i64 2].toArray 147)).alloc (.cells [.pointer none].toArray 149)) := (Fr.refl _ _).alloc _
 have hK2 := Kp.news (col := paint w.heap.size 10 col) (C := fun d => d = 7) hF2 7 rfl
 have hob2 := hob1.kp hK2 (by omega)
 have hP2 : BlkC ((w.alloc (.cells [.int .i64 1, .int .i64 10000, .int .i64 2].toArray 147)).alloc (.cells [.pointer none].toArray 149)) (paint (w.alloc (.cells [.int .i64 1, .int .i64 10000, .int .i64 2].toArray 147)).heap.size 7 (paint w.heap.size 10 col)) 7 pb [.pointer none] 149 := ⟨Blk.newAt (w.alloc (.cells [.int .i64 1, .int .i64 10000, .int .i64 2].toArray 147)) _ _ _ (by rw [← hpb.out, ← hob.out]; simp), paint_ge (by rw [← hpb.out, ← hob.out]; simp)⟩
 have H2 := Lib.hid ((hK1.mono (D := nbc) (fun d e => by unfold nbc; omega)).trans (hK2.mono (D := nbc) fun d e => by unfold nbc; omega))
 have HW := Lib.hid (And.intro h ht)
 obtain ⟨w2, hw2⟩ : ∃ w2, Hid (w2 = (w.alloc (.cells [.int .i64 1, .int .i64 10000, .int .i64 2].toArray 147)).alloc (.cells [.pointer none].toArray 149)) := ⟨_, Lib.hid rfl⟩
 obtain ⟨col2, hcol2⟩ : ∃ col2, Hid (col2 = paint (w.alloc (.cells [.int .i64 1, .int .i64 10000, .int .i64 2].toArray 147)).heap.size 7 (paint w.heap.size 10 col)) := ⟨_, Lib.hid rfl⟩
 rw [← hw2.out, ← hcol2.out] at hob2 hP2 H2
 clear h ht hF1 hK1 hob1 hF2 hK2
 go_enter Tryz.func45, Tryz.ntmps45
 go_wp2_with fail
 rw [hob.out, hpb.out, ← hw2.out]
 have bo1 := hob2.blk.cell 1 rfl
 have bo2 := hob2.blk.cell 2 rfl
 refine wp_region_seqV (fun W => W.cell? ⟨ob, 1, none⟩ = some (.int .i64 10000) ∧ W.cell? ⟨ob, 2, none⟩ = some (.int .i64 2)) (fun i => decide (i ≠ 1 ∧ i ≠ 11 ∧ i ≠ 15)) (fun i => ![6, 10].contains i && decide (i ≠ 1 ∧ i ≠ 11 ∧ i ≠ 15)) (fun i => false) [0, 2, 3, 4, 5, 6, 7, 8, 9, 10, 12, 13, 1, 11, 14, 15, 16] (by kernel_rfl) (by kernel_rfl) (fun c a d v w h => by cases d <;> exact h) ⟨bo1, bo2⟩ ?_
 iterate 3 (apply seqV_pure (ho := rfl) (hr := rfl) (hg := rfl); (intro w'; go_simp; rfl))
 go_simp
 iterate 2 (apply seqV_pure (ho := rfl) (hr := rfl) (hg := rfl); (intro w'; go_simp; rfl))
 (apply seqV_read (ho := rfl) (hr := rfl) (hp := rfl) (hg := rfl); (rintro w' ⟨q0, q1⟩; go_simp; rfl))
 go_simp
 iterate 3 (apply seqV_pure (ho := rfl) (hr := rfl) (hg := rfl); (intro w'; go_simp; rfl))
 (apply seqV_read (ho := rfl) (hr := rfl) (hp := rfl) (hg := rfl); (rintro w' ⟨q0, q1⟩; go_simp; rfl))
 go_simp
 iterate 2 (apply seqV_pure (ho := rfl) (hr := rfl) (hg := rfl); (intro w'; go_simp; rfl))
 refine seqV_do rfl rfl fun K hK => ?_
 go_simp
 refine (newu_calls hP2.drew).mono ?_
 rintro e w3 ⟨ub, cb, col3, rfl, hC3, hK3⟩
 have hob3 := hob2.kp ((kdrew.mono (fun _ e => e.elim)).trans hK3 : Kp crc col2 w2 col3 w3) (by unfold crc; omega)
 refine hK _ _ (fun _ => ⟨hob3.blk.cell 1 rfl, hob3.blk.cell 2 rfl⟩) ?_
 clear hK K bo1 bo2
 have H3 := Lib.hid (And.intro hC3 (And.intro hK3 hob3))
 clear hC3 hK3
 refine seqV_do rfl rfl fun K hK => ?_
 go_simp
 refine (newr_calls (col := col3)).mono ?_
 rintro e w4 ⟨rg, tb, col4, rfl, hR4, hK4⟩
 have hob4 := hob3.kp hK4 (by omega)
 refine hK _ _ (fun _ => ⟨hob4.blk.cell 1 rfl, hob4.blk.cell 2 rfl⟩) ?_
 clear hK K
 have H4 := Lib.hid (And.intro (H3.out.1.kp hK4 (fun d e hd => by unfold crc at hd; omega)) (And.intro hR4 ((H2.out.trans ((kdrew.mono (fun _ e => e.elim)).trans (H3.out.2.1.mono fun d e => by unfold crc at e; unfold nbc; omega))).trans (hK4.mono fun d e => by unfold nbc; omega) : Kp nbc col w col4 w4)))
 clear hR4 hK4
 iterate 1 (apply seqV_pure (ho := rfl) (hr := rfl) (hg := rfl); (intro w'; go_simp; rfl))
 refine seqV_do rfl rfl fun K hK => ?_
 go_simp
 have hF5 : Fr (fun _ => False) w4 (w4.alloc (.cells [.pointer (some ⟨ub, 0, none⟩), .pointer (some ⟨rg, 0, none⟩), .slice none 0 0, .int .i64 0, .int .i64 1, .nilIface, .pointer (some ⟨ob, 0, none⟩), .pointer (some ⟨pb, 0, none⟩)].toArray 113)) := (Fr.refl _ w4).alloc _
 have hob5 := hob4.kp (Kp.news (col := col4) (C := fun d => d = 12) hF5 12 rfl) (by omega)
 refine hK _ _ (fun _ => ⟨hob5.blk.cell 1 rfl, hob5.blk.cell 2 rfl⟩) ?_
 clear hK K
 iterate 1 (apply seqV_pure (ho := rfl) (hr := rfl) (hg := rfl); (intro w'; go_simp; rfl))
 unfold seqV
 go_simp
 obtain ⟨bd, hbd⟩ : ∃ bd, Hid (w4.heap.size = bd) := ⟨_, Lib.hid rfl⟩
 have hbd5 : BlkC (w4.alloc (.cells [.pointer (some ⟨ub, 0, none⟩), .pointer (some ⟨rg, 0, none⟩), .slice none 0 0, .int .i64 0, .int .i64 1, .nilIface, .pointer (some ⟨ob, 0, none⟩), .pointer (some ⟨pb, 0, none⟩)].toArray 113)) (paint w4.heap.size 12 col4) 12 bd [.pointer (some ⟨ub, 0, none⟩), .pointer (some ⟨rg, 0, none⟩), .slice none 0 0, .int .i64 0, .int .i64 1, .nilIface, .pointer (some ⟨ob, 0, none⟩), .pointer (some ⟨pb, 0, none⟩)] 113 := ⟨Blk.newAt w4 _ _ _ hbd.out, paint_ge (by rw [hbd.out]; exact Nat.le_refl _)⟩
 have hk5 : Kp (fun d => d = 12) col4 w4 (paint w4.heap.size 12 col4) (w4.alloc (.cells [.pointer (some ⟨ub, 0, none⟩), .pointer (some ⟨rg, 0, none⟩), .slice none 0 0, .int .i64 0, .int .i64 1, .nilIface, .pointer (some ⟨ob, 0, none⟩), .pointer (some ⟨pb, 0, none⟩)].toArray 113)) := Kp.news hF5 12 rfl
 rw [hbd.out]
 clear hF5
 generalize hw5 : w4.alloc (.cells [.pointer (some ⟨ub, 0, none⟩), .pointer (some ⟨rg, 0, none⟩), .slice none 0 0, .int .i64 0, .int .i64 1, .nilIface, .pointer (some ⟨ob, 0, none⟩), .pointer (some ⟨pb, 0, none⟩)].toArray 113) = w5 at *
 generalize paint w4.heap.size 12 col4 = col5 at *
 have H5 := Lib.hid (And.intro (H4.out.1.kp hk5 (fun d e hd => by unfold crc at hd; omega)) (And.intro (H4.out.2.1.kp hk5 (by omega)) (H4.out.2.2.trans (hk5.mono fun d e => by unfold nbc; omega) : Kp nbc col w col5 w5)))
 have hload := loadenc_calls (HW.out.1.kp H5.out.2.2 (by unfold nbc; omega)) (HW.out.2.kp H5.out.2.2 (by unfold nbc; omega))
 have bo0 := hob5.blk.cell 0 rfl
 have HD := Lib.hid hbd5
 clear hob2 hP2 hob3 hob4 hob5 hk5 hbd5 hw5
 go_wp2_with fail
 refine hload.mono ?_
 rintro e w6 ⟨eb, wb, fb, rb, col6, rfl, hE6, hk6⟩
 have hd6 := HD.out.kp hk6 (by unfold three; omega)
 have d5 := hd6.blk.cell 5 rfl
 have z5 := hd6.blk.frz 5
 have H6 := Lib.hid (And.intro hE6 (And.intro hk6 hd6))
 clear hE6 hk6 hd6 hload bo0
 go_wp2_with fail
 have hk7 := Kp.set (Kp.refl (fun d => d = 12) col6 w6) (p := ⟨bd, 5, none⟩) (.iface 193 (.pointer (some ⟨eb, 0, none⟩))) H6.out.2.2.col
 have hb7 : BlkC (w6.setCell ⟨bd, 5, none⟩ (.iface 193 (.pointer (some ⟨eb, 0, none⟩)))) col6 12 bd [.pointer (some ⟨ub, 0, none⟩), .pointer (some ⟨rg, 0, none⟩), .slice none 0 0, .int .i64 0, .int .i64 1, .iface 193 (.pointer (some ⟨eb, 0, none⟩)), .pointer (some ⟨ob, 0, none⟩), .pointer (some ⟨pb, 0, none⟩)] 113 := ⟨H6.out.2.2.blk.set 5 _, H6.out.2.2.col⟩
 generalize w6.setCell ⟨bd, 5, none⟩ (.iface 193 (.pointer (some ⟨eb, 0, none⟩))) = w7 at *
 have hE7 := H6.out.1.kp hk7 (by omega) (by omega) (by omega) (by omega) (by omega)
 have hs := start_calls hE7
 have e5 := hb7.blk.cell 5 rfl
 have H7 := Lib.hid (And.intro hk7 hb7)
 have hm := meth_start ⟨eb, 0, none⟩
 have hn := nil_start ⟨eb, 0, none⟩
 clear hk7 hb7 hE7 d5 z5
 go_wp2_with fail
 rw [hm]
 go_simp
 refine hs.mono ?_
 rintro e w8 ⟨rfl, col8, hk8, hE8⟩
 have H8 := Lib.hid (And.intro hk8 hE8)
 clear hk8 hE8 hs e5
 go_wp2_with fail
 go_ret2
 obtain ⟨hk8, hE8⟩ := H8.out
 obtain ⟨hk7, hb7⟩ := H7.out
 obtain ⟨hE6, hk6, hd6⟩ := H6.out
 obtain ⟨hC5, hR5, hK5⟩ := H5.out
 have hk68 : Kp (fun d => three 1 d ∨ d = 9 ∨ d = 10 ∨ d = 12) col5 w5 col8 w8 := ((hk6.mono (fun d e => e.elim .inl fun e => .inr (.inl e))).trans (hk7.mono fun d e => .inr (.inr (.inr e)))).trans (hk8.mono fun d e => e.elim .inl fun e => .inr (.inr (.inl e)))
 refine ⟨⟨bd, ub, cb, pb, rg, tb, eb, wb, fb, rb, bb, ob⟩, col8, rfl, rfl, ⟨⟨⟨.slice none 0 0, [], hb7.kp hk8 (by unfold three; omega), RowC.nil _ _ _ _ _, by simp [u8s]⟩, hC5.kp hk68 (fun d e hd => by unfold crc at hd; unfold three at e; omega), hR5.kp hk68 (by unfold three; omega), hE8⟩, ⟨fun i a x hi e => by simp at e, fun i j x hi hj e => by simp at e⟩, fun q hq => by simp at hq, List.take_of_length_le (by rw [header_len]; exact Nat.le_refl _)⟩, (hK5.mono fun d e => by unfold nbc at e; unfold bdc; omega).trans (hk68.mono fun d e => by unfold three at e; unfold bdc; omega)⟩
end
end
section
open Go.RowKit Fmt
def bytesOf (t : ByteArray) : List Nat := t.data.toList.map UInt8.toNat
theorem bytesOf_len (s : ByteArray) : (bytesOf s).length = s.size := by rw [bytesOf, List.length_map, Array.length_toList]; rfl
theorem bytesOf_lt (s : ByteArray) : ∀ x, x ∈ bytesOf s → x < 256 := by
 intro x hx
 simp only [bytesOf, List.mem_map] at hx
 obtain ⟨u, _, rfl⟩ := hx
 exact u.toNat_lt
/-- The world behind []byte(s). -/
theorem conv_fr (w : World) (s : ByteArray) : Fr (fun _ => False) w (Lib.bytesWorld w 5 s) :=
 ⟨rfl, rfl, rfl, by rw [Lib.bytesWorld_size]; omega, fun b hb _ => Lib.bytesWorld_at_old w 5 s b hb⟩
theorem conv_bytes (w : World) (s : ByteArray) : Byts (Lib.bytesWorld w 5 s) w.heap.size 0 (bytesOf s) := by
 refine ⟨fun j c hj => ?_⟩
 have hl : j < s.size := by rw [← bytesOf_len]; exact (List.getElem?_eq_some_iff.1 hj).1
 rw [Nat.zero_add, Lib.bytesWorld_cell w 5 s j hl]
 simp only [bytesOf, List.getElem?_map] at hj
 rw [List.getD]
 cases hd : s.data.toList[j]? with
 | none => rw [hd] at hj; simp at hj
 | some u => rw [hd] at hj; simp at hj; simp [hj]
/-- The pairs of a slice. -/
def PrsAt (w : World) (b o : Nat) (L : Prs) : Prop := ∀ i p, L[i]? = some p → ∃ s, w.cell? ⟨b, o + i * 2, none⟩ = some (.string s) ∧ bytesOf s = p.1 ∧ w.cell? ⟨b, o + i * 2 + 1, none⟩ = some (.int .u64 (p.2 : Int))
theorem PrsAt.fr {w w' : World} {F : Nat → Prop} {b o : Nat} {L : Prs} (h : PrsAt w b o L) (k : Fr F w w') (hb : ¬ F b) : PrsAt w' b o L := fun i p hp => by
 obtain ⟨s, h1, h2, h3⟩ := h i p hp
 exact ⟨s, k.cell h1 hb, h2, k.cell h3 hb⟩
set_option maxHeartbeats 1000000 in
set_option maxRecDepth 100000 in
theorem bufbytes_calls {w : World} {bb g l cap : Nat} {full : List Value} (h : BufA w bb (.slice (some ⟨g, 0, none⟩) l cap) l full) (h0 : 0 < l) :
  Calls Tryz.prog 20 #[.pointer (some ⟨bb, 0, none⟩)] w fun e w' => e = .returned (.slice (some ⟨g, 0, none⟩) l cap) ∧ w' = w.drew := by
 obtain ⟨lr, hb⟩ := h.blk
 have c0 := hb.cell 0 rfl
 have c1 := hb.cell 1 rfl
 have hlc : l ≤ cap := by
  rcases h.row with ⟨e, _⟩ | ⟨g', cap', e, _, h2, _⟩
  ·cases e
  ·cases e; exact h2
 have HH := Lib.hid hlc
 clear h hb hlc
 go_enter Tryz.func20, Tryz.ntmps20
 go_wp2_with fail
 refine wp_region_seqV (fun W => W.cell? ⟨bb, 0, none⟩ = some (.slice (some ⟨g, 0, none⟩) l cap) ∧ W.cell? ⟨bb, 1, none⟩ = some (.int .i64 0)) (fun i => decide (True)) (fun i => ![3, 7].contains i && decide (True)) (fun i => false) [0, 1, 2, 3, 4, 5, 6, 7, 8, 9] (by kernel_rfl) (by kernel_rfl) (fun c a d v w h => by cases d <;> exact h) ⟨c0, c1⟩ ?_
 iterate 3 (apply seqV_pure (ho := rfl) (hr := rfl) (hg := rfl); (intro w'; go_simp; rfl))
 (apply seqV_read (ho := rfl) (hr := rfl) (hp := rfl) (hg := rfl); (rintro w' ⟨q0, q1⟩; go_simp; rfl))
 go_simp
 iterate 3 (apply seqV_pure (ho := rfl) (hr := rfl) (hg := rfl); (intro w'; go_simp; rfl))
 (apply seqV_read (ho := rfl) (hr := rfl) (hp := rfl) (hg := rfl); (rintro w' ⟨q0, q1⟩; go_simp; rfl))
 go_simp
 iterate 2 (apply seqV_pure (ho := rfl) (hr := rfl) (hg := rfl); (intro w'; go_simp; rfl))
 unfold seqV
 go_simp
 go_wp2_with fail
 go_ret
 exact ⟨by simp, rfl⟩
/-- The lengths of all keys. -/
def ksum (L : Prs) : Nat := (L.map fun p => p.1.length).sum
theorem ksum_le {m : Nat} : ∀ {L : Prs}, (∀ p, p ∈ L → p.1.length ≤ m) → ksum L ≤ m * L.length
 | [], _ => by simp [ksum]
 | p :: L, h => by
  have h1 := h p (by simp)
  have h2 := ksum_le (L := L) fun q hq => h q (by simp [hq])
  simp only [ksum, List.map_cons, List.sum_cons, List.length_cons] at *
  rw [Nat.mul_succ]
  omega
theorem ksum_app (L L' : Prs) : ksum (L ++ L') = ksum L + ksum L' := by simp [ksum]
/-- The last key. -/
def klast (L : Prs) : List Nat := (L.getLast?.map fun p => p.1).getD []
theorem klast_app (L : Prs) (p : List Nat × Nat) : klast (L ++ [p]) = p.1 := by simp [klast]
/-- The pairs that a builder takes. -/
structure Fine (L : Prs) : Prop where
 srt : Srt L
 ne : ∀ p, p ∈ L → p.1 ≠ []
 byte : ∀ p, p ∈ L → ∀ x, x ∈ p.1 → x < 256
 len : ∀ p, p ∈ L → p.1.length ≤ 400
 val : ∀ p, p ∈ L → p.2 < 18446744073709551616
 few : L.length ≤ 65536
theorem Fine.next {L X Y : Prs} {p : List Nat × Nat} (h : Fine L) (e : L = X ++ p :: Y) : klt (klast X) p.1 := by
 rcases List.eq_nil_or_concat X with rfl | ⟨X', q, rfl⟩
 ·have := h.ne p (by rw [e]; simp)
  cases hp : p.1 with
  | nil => exact absurd hp this
  | cons a l => simp [klast, klt]
 ·rw [List.concat_eq_append] at e ⊢
  rw [klast_app]
  have hs := h.srt
  unfold Srt at hs
  rw [e, List.append_assoc, List.pairwise_append] at hs
  have := hs.2.1
  simp only [List.singleton_append, List.pairwise_cons] at this
  exact this.1 p (by simp)
theorem klast_in {L X Y : Prs} (h : Fine L) (e : L = X ++ Y) : (klast X).length ≤ 400 ∧ ∀ x, x ∈ klast X → x < 256 := by
 rcases List.eq_nil_or_concat X with rfl | ⟨X', q, rfl⟩
 ·simp [klast]
 ·rw [List.concat_eq_append] at e ⊢
  rw [klast_app]
  have hq : q ∈ L := by rw [e]; simp
  exact ⟨h.len q hq, h.byte q hq⟩
/-- The builder's colours and what its caller makes. -/
def blc : Nat → Prop := fun d => 1 ≤ d ∧ d ≤ 13
/-- A builder that holds pairs, in order. -/
def Has (w : World) (col : Col) (I : Ids) (X : Prs) : Prop :=
 ∃ (K R : List (Nat × Nd)) (st : List Un) (tab : Nat → Nat × Option Nat) (B : List Nat) (last : Nat), BS w col I (27 + 28 * ksum X) K R st tab B last (klast X) X.length ∧ BI codesN backN (27 + 28 * ksum X) B last R st X ∧ Rst st (klast X)
theorem Has.ins {w : World} {col : Col} {I : Ids} {L X Y : Prs} {p : List Nat × Nat} {kb ko kc n : Nat} (h : Has w col I X) (hL : Fine L) (e : L = X ++ p :: Y) (hby : Byts w kb ko p.1) (hkc : ¬ bdc (col kb)) (hn : p.1.length = n) (hnc : n ≤ kc) (hkm : kc ≤ maxLen) :
  Calls Tryz.prog 32 #[.pointer (some ⟨I.bd, 0, none⟩), .slice (some ⟨kb, ko, none⟩) n kc, .int .u64 (p.2 : Int)] w (fun e w' => e = .returned .nilIface ∧ ∃ col', Has w' col' I (X ++ [p]) ∧ Kp bdc col w col' w') := by
 obtain ⟨K, R, st, tab, B, last, h1, h2, h3⟩ := h
 have hp : p ∈ L := by rw [e]; simp
 have hks : ksum L ≤ 400 * L.length := ksum_le hL.len
 have hf := hL.few
 have hkx : ksum X ≤ ksum L := by rw [e, ksum_app]; omega
 have hxl : X.length ≤ L.length := by rw [e]; simp
 have hk := klast_in hL e
 have hl := hL.len p hp
 refine (ins_calls h1 h2 h3 (hL.next e) (hL.byte p hp) hk.2 (hL.val p hp) hby hkc hn hnc hkm (by omega) (by omega) (by omega) (by omega)).mono ?_
 rintro e w' ⟨rfl, K', R', st', tab', B', last', col', a1, a2, a3, a4⟩
 have hm : 27 + 28 * ksum X + 28 * p.1.length = 27 + 28 * ksum (X ++ [p]) := by rw [ksum_app]; simp [ksum]; omega
 rw [hm] at a1 a2
 exact ⟨rfl, col', ⟨K', R', st', tab', B', last', by rw [klast_app, List.length_append]; exact a1, a2, by rw [klast_app]; exact a3⟩, a4⟩
theorem Has.fr {w w' : World} {col col' : Col} {C : Nat → Prop} {I : Ids} {X : Prs} (h : Has w col I X) (k : Kp C col w col' w') (hc : ∀ d, C d → ¬ (d ≤ 12 ∧ d ≠ 10)) : Has w' col' I X := by
 obtain ⟨K, R, st, tab, B, last, h1, h2, h3⟩ := h
 exact ⟨K, R, st, tab, B, last, ⟨h1.bld.kp k hc, h1.reg, h1.len, h1.hd⟩, h2, h3⟩
theorem Has.close {w : World} {col : Col} {I : Ids} {L : Prs} (h : Has w col I L) (hL : Fine L) : Calls Tryz.prog 35 #[.pointer (some ⟨I.bd, 0, none⟩)] w (ClPost w col I L) := by
 obtain ⟨K, R, st, tab, B, last, h1, h2, h3⟩ := h
 have hks : ksum L ≤ 400 * L.length := ksum_le hL.len
 have hf := hL.few
 have hst := rst_len h2 h3
 have hk := (klast_in (X := L) (Y := []) hL (by simp)).1
 exact close_calls h1 h2 (by omega) (by omega) rfl (by omega)
set_option maxHeartbeats 1000000 in
set_option maxRecDepth 100000 in
theorem insert_calls {w : World} {col : Col} {I : Ids} {L : Prs} {b o c : Nat} (h : Has w col I []) (hL : Fine L) (hat : PrsAt w b o L) (hb : ¬ blc (col b)) (hc : L.length ≤ c) (hcm : c ≤ maxLen) :
  Calls Tryz.prog 60 #[.pointer (some ⟨I.bd, 0, none⟩), .slice (some ⟨b, o, none⟩) L.length c] w fun e w' => e = .returned (.int .i64 (-1)) ∧ ∃ col', Has w' col' I L ∧ Kp blc col w col' w' := by
 obtain ⟨n, hn⟩ : ∃ n, Hid (L.length = n) := ⟨_, Lib.hid rfl⟩
 have HH := Lib.hid (And.intro h (And.intro hL (And.intro hat (And.intro hb (And.intro hc hcm)))))
 rw [hn.out] at hc ⊢
 have hn48 : Hid (n ≤ 65536) := Lib.hid (by rw [← hn.out]; exact hL.few)
 obtain ⟨bd, hbd⟩ : ∃ v, Hid (I.bd = v) := ⟨_, Lib.hid rfl⟩
 rw [hbd.out]
 clear h hL hat hb hcm
 go_enter Tryz.func60, Tryz.ntmps60
 go_wp2_with fail
 have H0 := Lib.hid (And.intro HH.out.1 HH.out.2.1)
 go_loopg [9] (n + 1) (fun g a9 wx => ∃ (i : Nat) (X Y : Prs) (col1 : Col), g = n - i + 1 ∧ i ≤ n ∧ a9 = .int .i64 (i : Int) ∧ L = X ++ Y ∧ X.length = i ∧ Has wx col1 I X ∧ Kp blc col w col1 wx)
 case atStart => exact ⟨0, [], L, col, rfl, by omega, rfl, rfl, rfl, H0.out.1, Kp.refl _ _ _⟩
 case round =>
  obtain ⟨i, X, Y, col1, rfl, hi, rfl, hXY, hXl, hX, hK⟩ := hrel
  clear H0
  cases Y with
  | nil =>
   have e1 : ¬ (i : Int) < (n : Int) := by have := hn.out; rw [hXY] at this; simp at this; omega
   have HE := Lib.hid (And.intro hXY (And.intro hX hK))
   clear hXY hX hK hXl HH
   go_wp2_with fail
   go_ret
   obtain ⟨h1, h2, h3⟩ := HE.out
   exact ⟨rfl, col1, by rw [h1]; simpa using h2, h3⟩
  | cons p Y =>
   have hin : i < n := by have := hn.out; rw [hXY] at this; simp at this; omega
   have e1 : (i : Int) < (n : Int) := by omega
   obtain ⟨s, q0, qs, q1⟩ := (HH.out.2.2.1.fr hK.fr HH.out.2.2.2.1) i p (by rw [hXY, ← hXl]; simp)
   have e9 : IntKind.i64.wrap ((i : Int) + 1) = (i : Int) + 1 := IntWalk.i64_in _ (by have := hn48.out; omega)
   obtain ⟨v, hv⟩ : ∃ v, Hid (p.2 = v) := ⟨_, Lib.hid rfl⟩
   rw [hv.out] at q1
   have kc := fun w => Lib.run_convert_string_bytes (P := Tryz.prog) w 9 29 5 s (u := .string) (by kernel_rfl) (by kernel_rfl) (by kernel_rfl)
   have hF1 : Fr (fun _ => False) wr (wr.alloc (.cells [.string s, .int .u64 (v : Int)].toArray 42)) := (Fr.refl _ wr).alloc _
   have hF2 := hF1.trans (conv_fr _ s) (fun _ _ h => h)
   have y1 : (Lib.bytesWorld (wr.alloc (.cells [.string s, .int .u64 (v : Int)].toArray 42)) 5 s).cell? ⟨wr.heap.size, 1, none⟩ = some (.int .u64 (v : Int)) :=
    (conv_fr _ s).cell ((Blk.new wr [.string s, .int .u64 (v : Int)] 42).cell 1 rfl) (fun h => h)
   have hby : Byts (Lib.bytesWorld (wr.alloc (.cells [.string s, .int .u64 (v : Int)].toArray 42)) 5 s) (wr.heap.size + 1) 0 p.1 := by
    have := conv_bytes (wr.alloc (.cells [.string s, .int .u64 (v : Int)].toArray 42)) s
    rw [qs] at this
    simpa using this
   have hK1 : Kp (fun d => d = 13) col1 wr (paint wr.heap.size 13 col1) _ := Kp.news hF2 13 rfl
   obtain ⟨cp, hcp⟩ : ∃ cp, Hid (grownCap (wr.alloc (.cells [.string s, .int .u64 (v : Int)].toArray 42)) s.size 0 5 = cp) := ⟨_, Lib.hid rfl⟩
   have hsz : s.size = p.1.length := by rw [← qs, bytesOf_len]
   have hins := (hX.fr hK1 (by omega)).ins HH.out.2.1 hXY hby (by rw [paint_ge (by omega)]; unfold bdc; omega) (kc := cp) hsz.symm (by rw [← hcp.out]; exact grownCap_ge _ _ _ _) (by
    rw [← hcp.out]
    refine grownCap_le_maxLen _ _ _ _ ?_
    have := HH.out.2.1.len p (by rw [hXY]; simp)
    unfold maxLen
    omega)
   rw [hv.out, hbd.out] at hins
   have HE := Lib.hid (And.intro hXY (And.intro (hK.trans (hK1.mono fun d e => by unfold blc; omega)) hXl))
   clear hXY hX hK hXl qs hF1 hF2 hby hsz
   go_wp2_with fail
   rw [hcp.out]
   refine hins.mono ?_
   rintro e w2 ⟨rfl, col2, hX2, hK2⟩
   have HG := Lib.hid (And.intro hX2 (HE.out.2.1.trans (hK2.mono fun d e => by unfold bdc at e; unfold blc; omega)))
   clear hins hX2 hK2 hK1 y1
   go_wp2_with fail
   go_roundg (n - (i + 1) + 1)
   case measure => omega
   case rel =>
    obtain ⟨h1, h2, h3⟩ := HE.out
    exact ⟨i + 1, X ++ [p], Y, col2, rfl, by omega, by simp, by rw [h1]; simp, by simp [h3], HG.out.1, HG.out.2⟩
set_option maxHeartbeats 1000000 in
set_option maxRecDepth 100000 in
theorem new_calls {w : World} {col : Col} {bb : Nat} (h : Buf0 w col bb) (ht : Tabs w col) :
  Calls Tryz.prog 29 #[.iface 56 (.pointer (some ⟨bb, 0, none⟩)), .pointer none] w (NewPost w col bb) := by
 have hn := newbu_calls h ht
 clear h ht
 go_enter Tryz.func29, Tryz.ntmps29
 go_wp2_with fail
 refine hn.mono ?_
 rintro e w1 ⟨I, col1, rfl, h1⟩
 have HE := Lib.hid h1
 clear h1 hn
 go_wp2_with fail
 go_ret2
 exact ⟨I, col1, rfl, HE.out⟩
/-- The built bytes of pairs, in a row of their own. -/
def Built (w : World) (L : Prs) (v : Value) (w' : World) : Prop :=
 ∃ (g cap : Nat) (D B : List Nat) (root : Nat), v = .slice (some ⟨g, 0, none⟩) D.length cap ∧ File codesN backN D L B root ∧ Byts w' g 0 D ∧ D.length ≤ cap ∧ cap ≤ maxLen ∧ w.heap.size ≤ g ∧ Fr (fun _ => False) w w'
set_option maxHeartbeats 1000000 in
set_option maxRecDepth 100000 in
theorem built_calls {w : World} {col : Col} {I : Ids} {L : Prs} {b o c : Nat} (h : Has w col I []) (hL : Fine L) (hat : PrsAt w b o L) (hb : ¬ blc (col b)) (hc : L.length ≤ c) (hcm : c ≤ maxLen) :
  Calls Tryz.prog 42 #[.pointer (some ⟨I.bb, 0, none⟩), .pointer (some ⟨I.bd, 0, none⟩), .slice (some ⟨b, o, none⟩) L.length c] w fun e w' =>
   ∃ (g cap : Nat) (D B : List Nat) (root : Nat) (col' : Col), e = .returned (.tuple #[.slice (some ⟨g, 0, none⟩) D.length cap, .int .i64 (-1)]) ∧ File codesN backN D L B root ∧ Byts w' g 0 D ∧ D.length ≤ cap ∧ cap ≤ maxLen ∧ col' g = 2 ∧ g < w'.heap.size ∧ Kp blc col w col' w' := by
 have hi := insert_calls h hL hat hb hc hcm
 have HL := Lib.hid hL
 obtain ⟨n, hn⟩ : ∃ n, Hid (L.length = n) := ⟨_, Lib.hid rfl⟩
 rw [hn.out] at hi ⊢
 obtain ⟨bd, hbd⟩ : ∃ v, Hid (I.bd = v) := ⟨_, Lib.hid rfl⟩
 obtain ⟨bb, hbb⟩ : ∃ v, Hid (I.bb = v) := ⟨_, Lib.hid rfl⟩
 rw [hbd.out] at hi
 rw [hbd.out, hbb.out]
 clear h hL hat hb hc hcm
 go_enter Tryz.func42, Tryz.ntmps42
 go_wp2_with fail
 refine hi.mono ?_
 rintro e w1 ⟨rfl, col1, hX1, hK1⟩
 have hcl := hX1.close HL.out
 rw [hbd.out] at hcl
 have HE := Lib.hid hK1
 clear hi hX1 hK1
 go_wp2_with fail
 refine hcl.mono ?_
 rintro e w2 ⟨rfl, D, B, root, buf, v, full, col2, hF, hB, hK2⟩
 have hDl : 32 ≤ D.length := by have := hF.dlen; have := hF.h16; omega
 have hbf := hB.kbb
 rw [hbb.out] at hbf
 obtain ⟨g, cap, rfl, hbg, hle, hcm⟩ : ∃ g cap, v = .slice (some ⟨g, 0, none⟩) D.length cap ∧ Blk w2 g full 5 ∧ D.length ≤ cap ∧ cap ≤ maxLen := by
  rcases hbf.row with ⟨_, e, _⟩ | ⟨g, cap, e1, e2, e3, e4, _⟩
  ·omega
  ·exact ⟨g, cap, e1, e2, e3, e4⟩
 have hby := bufbytes_calls hbf (by omega)
 have hbs : Byts w2 g 0 D := ⟨fun j c hj => by
  rw [Nat.zero_add]
  refine hbg.cell j ?_
  have h1 := u8s_at hj
  rw [← hB.kds] at h1
  have hl := (List.getElem?_eq_some_iff.1 hj).1
  rw [List.getElem?_take_of_lt hl] at h1
  exact h1⟩
 have HG := Lib.hid (And.intro hF (And.intro (⟨hbs.1⟩ : Byts w2.drew g 0 D) (And.intro hle (And.intro hcm (And.intro (hB.cv g rfl) (And.intro hbg.lt (HE.out.trans ((hK2.mono fun d e => by unfold bdc at e; unfold blc; omega).drew))))))))
 clear hF hbs hle hcm hB hbf hbg hK2 hcl hDl
 go_wp2_with fail
 refine hby.mono ?_
 rintro e w3 ⟨rfl, rfl⟩
 clear hby
 go_wp2_with fail
 go_ret2
 exact ⟨g, cap, D, B, root, col2, rfl, HG.out⟩
set_option maxHeartbeats 1000000 in
set_option maxRecDepth 100000 in
theorem build_calls {w : World} {L : Prs} {b o c : Nat} (ht : Tabs w fun _ => 0) (hL : Fine L) (hat : PrsAt w b o L) (hbl : b < w.heap.size) (hc : L.length ≤ c) (hcm : c ≤ maxLen) :
  Calls Tryz.prog 26 #[.slice (some ⟨b, o, none⟩) L.length c] w fun e w' => ∃ v, e = .returned (.tuple #[v, .int .i64 (-1)]) ∧ Built w L v w' := by
 obtain ⟨bb, hbb⟩ : ∃ v, Hid (w.heap.size = v) := ⟨_, Lib.hid rfl⟩
 have hF1 : Fr (fun _ => False) w (w.alloc (.cells [.slice none 0 0, .int .i64 0, .int .i8 0].toArray 52)) := (Fr.refl _ w).alloc _
 have hK1 := Kp.news (col := fun _ => 0) (C := fun d => d = 2) hF1 2 rfl
 have hB0 : Buf0 (w.alloc (.cells [.slice none 0 0, .int .i64 0, .int .i8 0].toArray 52)) (paint w.heap.size 2 fun _ => 0) bb := ⟨Blk.newAt w _ _ _ hbb.out, paint_ge (by rw [hbb.out]; exact Nat.le_refl _)⟩
 have hn := new_calls hB0 (ht.kp hK1 (by omega))
 have HH := Lib.hid (And.intro hL (And.intro (hat.fr hF1 (fun h => h)) (And.intro hbl (And.intro hc (And.intro hcm hK1)))))
 obtain ⟨n, hn'⟩ : ∃ n, Hid (L.length = n) := ⟨_, Lib.hid rfl⟩
 rw [hn'.out]
 clear ht hL hat hbl hc hcm hF1 hK1 hB0
 go_enter Tryz.func26, Tryz.ntmps26
 go_wp2_with fail
 rw [hbb.out]
 refine hn.mono ?_
 rintro e w2 ⟨I, col2, rfl, hIb, hBS, hK2⟩
 have hX : Has w2 col2 I [] := ⟨_, _, _, _, _, _, hBS, BI.init _ _, Rst.init⟩
 obtain ⟨hL, hat, hbl, hc, hcm, hK1⟩ := HH.out
 have hcb : (paint w.heap.size 2 fun _ => 0) b = 0 := paint_lt hbl
 have hbu := built_calls hX hL (hat.fr hK2.fr (by rw [hcb]; unfold bdc; omega)) (by rw [hK2.same b (by simp; omega), hcb]; unfold blc; omega) hc hcm
 rw [hIb, hn'.out] at hbu
 have HE := Lib.hid hK2
 clear hX hBS hK2 hn hL hat hbl hc hcm hK1
 go_wp2_with fail
 refine hbu.mono ?_
 rintro e w3 ⟨g, cap, D, B, root, col3, rfl, h1, h2, h3, h4, h5, h6, h7⟩
 have HG := Lib.hid (And.intro h1 (And.intro h2 (And.intro h3 (And.intro h4 (And.intro h5 (And.intro h6 h7))))))
 clear h1 h2 h3 h4 h5 h6 h7 hbu
 go_wp2_with fail
 go_ret2
 obtain ⟨h1, h2, h3, h4, h5, h6, h7⟩ := HG.out
 obtain ⟨hL, hat, hbl, hc, hcm, hK1⟩ := HH.out
 have hk : Kp blc (fun _ => 0) w col3 w3 := ((hK1.mono fun d e => by unfold blc; omega).trans (HE.out.mono fun d e => by unfold bdc at e; unfold blc; omega)).trans h7
 refine ⟨_, rfl, g, cap, D, B, root, rfl, h1, h2, h3, h4, ?_, hk.fr.mono fun k _ e => by unfold blc at e; omega⟩
 rcases Nat.lt_or_ge g w.heap.size with hg | hg
 ·have := hk.same g hg
  omega
 ·exact hg
end
end Go.Proofs.YtmhlnijpimjjaaaGreatDoor
