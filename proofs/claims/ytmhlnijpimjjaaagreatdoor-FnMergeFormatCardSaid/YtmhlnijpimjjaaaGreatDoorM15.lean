/- Bytes written to the buffered writer: bufio's Write, and the writer's own. Condition: at most 4096 bytes at once. The header and the footer written: the writer's Write, the encoder's start and finish. Condition: at most 2^40 bytes. bytes.Compare: three ways, by the order of keys. No condition. The last key is kept: copyLastKey. Condition: a key has at most 2^40 bytes. A region that draws its order, with several operations of which any may come first. No condition. The open states made: newUnfinishedNodes. No condition. -/
import Derived.Test.YtmhlnijpimjjaaaGreatDoorM14
import Derived.Deep.MidRow
import Derived.Lib.BytesEntry
import Derived.Laws.Externs
set_option linter.unusedSimpArgs false
set_option linter.unusedVariables false
namespace Go.Proofs.YtmhlnijpimjjaaaGreatDoor
section
open Go.RowKit Fmt
/-- Bytes are laid where there is room for them. -/
theorem Bw.puts {w : World} {col : Col} {c fb rb bb : Nat} {bs buf : List Nat} {m : Nat} {ds : List Nat} {v : Value} {full : List Value} (h : Bw w col c fb rb bb bs buf m ds v full) (cs : List Nat) (hm : m + cs.length ≤ 4096) :
  Blk (w.setRow rb ((u8s buf).toArray.toList.take m ++ u8s cs ++ (u8s buf).toArray.toList.drop (m + cs.length)).toArray) fb [.nilIface, .slice (some ⟨rb, 0, none⟩) 4096 4096, .int .i64 (m : Int), .iface 56 (.pointer (some ⟨bb, 0, none⟩))] 232 ∧
  Bw ((w.setRow rb ((u8s buf).toArray.toList.take m ++ u8s cs ++ (u8s buf).toArray.toList.drop (m + cs.length)).toArray).setCell ⟨fb, 2, none⟩ (.int .i64 ((m + cs.length : Nat) : Int))) col c fb rb bb (bs ++ cs) (buf.take m ++ cs ++ buf.drop (m + cs.length)) (m + cs.length) ds v full ∧
  Kp (two c) col w col ((w.setRow rb ((u8s buf).toArray.toList.take m ++ u8s cs ++ (u8s buf).toArray.toList.drop (m + cs.length)).toArray).setCell ⟨fb, 2, none⟩ (.int .i64 ((m + cs.length : Nat) : Int))) := by
 have hrf : rb ≠ fb := fun e => by have := h.krb.blk; rw [e] at this; exact absurd (this.inj h.kfb.blk).2 (by decide)
 have hrb : rb ≠ bb := fun e => by have := h.krb.col; rw [e, h.cb] at this; omega
 have hnf : fb ≠ bb := fun e => by have := h.kfb.col; rw [e, h.cb] at this; omega
 have hl := h.len
 have hg' : Blk (w.setRow rb ((u8s buf).toArray.toList.take m ++ u8s cs ++ (u8s buf).toArray.toList.drop (m + cs.length)).toArray) rb (u8s (buf.take m ++ cs ++ buf.drop (m + cs.length))) 5 := by
  have := setRow_heap w rb (u8s buf).toArray ((u8s buf).toArray.toList.take m ++ u8s cs ++ (u8s buf).toArray.toList.drop (m + cs.length)).toArray 5 (0, 0) h.krb.blk
  unfold Blk
  rw [this, u8s_app, u8s_app, u8s_take, u8s_drop]
 have hF1 : Fr (fun k => k = rb ∨ k = fb) w (w.setRow rb ((u8s buf).toArray.toList.take m ++ u8s cs ++ (u8s buf).toArray.toList.drop (m + cs.length)).toArray) := ⟨rfl, rfl, rfl, by simp, fun k _ hk => setRow_other _ _ _ _ (fun e => hk (.inl (by rw [e])))⟩
 have h1 : Blk (w.setRow rb ((u8s buf).toArray.toList.take m ++ u8s cs ++ (u8s buf).toArray.toList.drop (m + cs.length)).toArray) fb [.nilIface, .slice (some ⟨rb, 0, none⟩) 4096 4096, .int .i64 (m : Int), .iface 56 (.pointer (some ⟨bb, 0, none⟩))] 232 := by
  have := h.kfb.blk
  unfold Blk at this ⊢
  rw [setRow_other _ _ _ _ (Ne.symm hrf)]; exact this
 have hF2 := hF1.setCell (p := ⟨fb, 2, none⟩) (fun _ => .inr rfl) (.int .i64 ((m + cs.length : Nat) : Int))
 have htk : (buf.take m).length = m := by rw [List.length_take]; omega
 refine ⟨h1, ⟨⟨h1.set 2 _, h.kfb.col⟩, ⟨hg'.set_ne (a := ⟨fb, 2, none⟩) hrf _, h.krb.col⟩, ?_, hm, ?_, h.kbb.fr hF2 ?_ ?_, h.kds, h.cb, h.cv⟩, ?_⟩
 ·simp only [List.length_append, htk, List.length_drop]; omega
 ·rw [h.kbs, List.append_assoc]
  congr 1
  rw [List.take_left' (by rw [List.length_append, htk])]
 ·rintro (e | e)
  ·exact hrb e.symm
  ·exact hnf e.symm
 ·rintro k hk (e | e)
  ·have := h.cv k hk; rw [e, h.krb.col] at this; omega
  ·have := h.cv k hk; rw [e, h.kfb.col] at this; omega
 ·refine ⟨hF2.mono (fun k _ e => ?_), fun _ _ => rfl, fun k h1 h2 => ?_⟩
  ·rcases e with rfl | rfl
   ·exact .inl h.krb.col
   ·exact .inl h.kfb.col
  ·simp [World.setCell] at h2; omega
theorem buffered_calls {w : World} {fb m : Nat} (h : w.cell? ⟨fb, 2, none⟩ = some (.int .i64 (m : Int))) :
  Calls Tryz.prog 171 #[.pointer (some ⟨fb, 0, none⟩)] w fun e w' => e = .returned (.int .i64 (m : Int)) ∧ w = w' := by
 go_enter Tryz.func171, Tryz.ntmps171
 go_wp2_with fail
 go_ret
 exact ⟨rfl, rfl⟩
set_option maxHeartbeats 4000000 in
set_option maxRecDepth 100000 in
theorem bwrite_calls {w : World} {col : Col} {c fb rb bb sb so k kc : Nat} {bs ps : List Nat} (h : BwC w col c fb rb bb bs) (hl : bs.length ≤ 1099511620000) (hp : Byts w sb so ps) (hs : ¬ two c (col sb)) (hk : ps.length = k) (hk1 : 1 ≤ k) (hk4 : k ≤ 4096) (hkc : k ≤ kc) (hkm : kc ≤ maxLen) :
  Calls Tryz.prog 167 #[.pointer (some ⟨fb, 0, none⟩), .slice (some ⟨sb, so, none⟩) k kc] w fun e w' => e = .returned (.tuple #[.int .i64 (k : Int), .nilIface]) ∧ ∃ col', Kp (two c) col w col' w' ∧ BwC w' col' c fb rb bb (bs ++ ps) := by
 obtain ⟨buf0, m0, ds0, v0, full0, h⟩ := h
 have HH := Lib.hid (And.intro h hp)
 unfold maxLen at hkm
 clear h hp
 have hp' : ∀ {wx : World} {col1 : Col}, Kp (two c) col w col1 wx → Byts wx sb so ps := fun {wx col1} hK => HH.out.2.kp hK hs
 have hsrc : ∀ {wx : World} {q j : Nat} {u : Value}, Byts wx sb so ps → (u8s (ps.drop q))[j]? = some u → wx.cell? ((⟨sb, so + q, none⟩ : Addr).add j) = some u := fun {wx q j u} hb hj => by
  rw [Addr.add_mid]
  simp only [u8s, List.getElem?_map, List.getElem?_drop, Option.map_eq_some_iff] at hj
  obtain ⟨x, h1, rfl⟩ := hj
  rw [show so + q + j = so + (q + j) by omega]
  exact hb.at_ _ _ h1
 have hinfo : (Tryz.prog.info? 5).map (·.size) = some 1 := by kernel_rfl
 go_enter Tryz.func167, Tryz.ntmps167
 go_wp2_with fail
 go_loopg [1, 4] (if 4096 - m0 < k - 0 then 2 else 1) (fun g p nn wx => ∃ (q m : Nat) (buf ds : List Nat) (v : Value) (full : List Value) (col1 : Col), q < k ∧ Bw wx col1 c fb rb bb (bs ++ ps.take q) buf m ds v full ∧ Kp (two c) col w col1 wx ∧ p = .slice (some ⟨sb, so + q, none⟩) (k - q) (kc - q) ∧ nn = .int .i64 (q : Int) ∧ g = (if 4096 - m < k - q then 2 else 1))
 case atStart => exact ⟨0, m0, buf0, ds0, v0, full0, col, by omega, by simpa using HH.out.1, Kp.refl _ _ _, rfl, rfl, rfl⟩
 case round =>
  obtain ⟨q, m, buf, ds, v, full, col1, hq, hB, hK, rfl, rfl, rfl⟩ := hrel
  have c0 := hB.kfb.blk.cell 0 rfl
  have c1 := hB.kfb.blk.cell 1 rfl
  have c2 := hB.kfb.blk.cell 2 rfl
  have z2 := hB.kfb.blk.frz 2
  have hav := avail_calls hB.kfb.blk hB.mle
  have hm4 := hB.mle
  have hpr : Byts wr sb so ps := hp' hK
  obtain ⟨r, hr⟩ : ∃ r, Hid (k - q = r) := ⟨_, Lib.hid rfl⟩
  obtain ⟨rc, hrc⟩ : ∃ rc, Hid (kc - q = rc) := ⟨_, Lib.hid rfl⟩
  rw [hr.out, hrc.out]
  have hrk : q + r = k := by have := hr.out; omega
  have hrkc : r ≤ rc := by have := hr.out; have := hrc.out; omega
  have hrm : rc ≤ 9223372036854775807 := by have := hrc.out; omega
  have hr1 : 1 ≤ r := by omega
  by_cases hfit : r ≤ 4096 - m
  ·as_aux_lemma =>
   have hcsl : (u8s (ps.drop q)).length = r := by rw [u8s_len, List.length_drop, hk]; omega
   have hcp := run_copy_row (P := Tryz.prog) wr.drew.drew 29 29 3 5 rb m (4096 - m) (4096 - m) ⟨sb, so + q, none⟩ r rc (u8s buf).toArray 5 (u8s (ps.drop q)) Tryz.underlying29 hinfo hB.krb.blk (by rw [hcsl]; simp [Nat.min_def]; omega) (fun j u hj => hsrc (hp' hK.drew.drew) hj) (by rw [hcsl]; simp [u8s_len, hB.len]; omega) (u8s_one _)
   rw [hcsl] at hcp
   have hputs := hB.drew.drew.puts (ps.drop q) (by rw [List.length_drop, hk]; omega)
   have hdl : (ps.drop q).length = r := by rw [List.length_drop, hk]; omega
   have hps : bs ++ ps.take q ++ ps.drop q = bs ++ ps := by rw [List.append_assoc, List.take_append_drop]
   rw [hdl, hps] at hputs
   obtain ⟨hb1, hBw, hKw⟩ := hputs
   have d2 := hb1.cell 2 rfl
   have d1 := hb1.cell 1 rfl
   have y2 := hb1.frz 2
   obtain ⟨W2, hW2⟩ : ∃ W2, Hid (W2 = wr.drew.drew.setRow rb ((u8s buf).toArray.toList.take m ++ u8s (ps.drop q) ++ (u8s buf).toArray.toList.drop (m + r)).toArray) := ⟨_, Lib.hid rfl⟩
   rw [← hW2.out] at hcp d1 d2 y2 hBw hKw
   have HE := Lib.hid (And.intro hBw ((hK.drew.drew).trans hKw))
   have e1 : ¬ ((4096 : Int) - (m : Int) < (r : Int)) := by omega
   have e2 : ¬ (4096 - m = 0) := by omega
   have e3 : (m : Int) ≤ 4096 := by omega
   have e7 : ¬ (4096 = m) := by omega
   have e4 : IntKind.i64.wrap ((m : Int) + (r : Int)) = (m : Int) + (r : Int) := IntWalk.i64_in _ (by omega)
   have e5 : (q : Int) + (r : Int) = (k : Int) := by omega
   have e6 : IntKind.i64.wrap (k : Int) = (k : Int) := IntWalk.i64_in _ (by omega)
   clear hB hK hb1 hBw hKw hpr hW2 hcsl hdl
   go_wp2_with fail
   refine hav.mono ?_
   rintro e w' ⟨rfl, rfl⟩
   go_wp2_with fail
   refine wp_region_seqV (fun W => W.cell? ⟨fb, 1, none⟩ = some (.slice (some ⟨rb, 0, none⟩) 4096 4096) ∧ W.cell? ⟨fb, 2, none⟩ = some (.int .i64 (m : Int))) (fun i => decide (i ≠ 10)) (fun i => ![3, 7].contains i && decide (i ≠ 10)) (fun i => false) [0, 1, 2, 3, 4, 5, 6, 7, 8, 9, 10, 11] (by kernel_rfl) (by kernel_rfl) (fun c a d v w h => by cases d <;> exact h) ⟨c1, c2⟩ ?_
   iterate 3 (apply seqV_pure (ho := rfl) (hr := rfl) (hg := rfl); (intro w'; go_simp; rfl))
   (apply seqV_read (ho := rfl) (hr := rfl) (hp := rfl) (hg := rfl); (rintro w' ⟨q0, q1⟩; go_simp; rfl))
   go_simp
   iterate 3 (apply seqV_pure (ho := rfl) (hr := rfl) (hg := rfl); (intro w'; go_simp; rfl))
   (apply seqV_read (ho := rfl) (hr := rfl) (hp := rfl) (hg := rfl); (rintro w' ⟨q0, q1⟩; go_simp; rfl))
   go_simp
   iterate 2 (apply seqV_pure (ho := rfl) (hr := rfl) (hg := rfl); (intro w'; go_simp; rfl))
   refine seqV_do rfl rfl fun K hK => ?_
   go_simp
   refine hK _ _ (fun _ => ⟨d1, d2⟩) ?_
   clear hK K
   iterate 1 (apply seqV_pure (ho := rfl) (hr := rfl) (hg := rfl); (intro w'; go_simp; rfl))
   unfold seqV
   go_simp
   go_wp2_with fail
   go_ret2
   obtain ⟨hBw, hKK⟩ := HE.out
   exact ⟨rfl, col1, hKK, _, _, _, _, _, hBw⟩
  ·as_aux_lemma =>
   obtain ⟨q2, hq2⟩ : ∃ q2, Hid (4096 - m = q2) := ⟨_, Lib.hid rfl⟩
   have hq2m : m + q2 = 4096 := by have := hq2.out; omega
   have hq2r : q2 < r := by have := hq2.out; omega
   have hcsl : (u8s ((ps.drop q).take q2)).length = q2 := by rw [u8s_len, List.length_take, List.length_drop, hk]; omega
   have hdl : ((ps.drop q).take q2).length = q2 := by rw [u8s_len] at hcsl; exact hcsl
   have hsrc2 : ∀ (j : Nat) (u : Value), (u8s ((ps.drop q).take q2))[j]? = some u → wr.drew.drew.cell? ((⟨sb, so + q, none⟩ : Addr).add j) = some u := fun j u hj => hsrc (hp' hK.drew.drew) (by
    rw [← u8s_take, List.getElem?_take] at hj
    split at hj
    ·exact hj
    ·cases hj)
   have hputs := hB.drew.drew.puts ((ps.drop q).take q2) (by omega)
   have hps : bs ++ ps.take q ++ (ps.drop q).take q2 = bs ++ ps.take (q + q2) := by rw [List.append_assoc, List.take_add]
   rw [hdl, hps, hq2m] at hputs
   obtain ⟨hb1, hBw, hKw⟩ := hputs
   have d1 := hb1.cell 1 rfl
   have d2 := hb1.cell 2 rfl
   have y2 := hb1.frz 2
   have hbuf := buffered_calls (w := wr.drew) (fb := fb) (m := m) c2
   obtain ⟨W2, hW2⟩ : ∃ W2, Hid (W2 = wr.drew.drew.setRow rb ((u8s buf).toArray.toList.take m ++ u8s ((ps.drop q).take q2) ++ (u8s buf).toArray.toList.drop 4096).toArray) := ⟨_, Lib.hid rfl⟩
   have hcp : (Builtin.copy_ #[29, 29] 3 #[.slice (if 4096 = m then some ⟨rb, 0, none⟩ else some ⟨rb, m, none⟩) (4096 - m) (4096 - m), .slice (some ⟨sb, so + q, none⟩) r rc]).run Tryz.prog wr.drew.drew = .ok (goInt q2) W2 := by
    by_cases e : 4096 = m
    ·rw [if_pos e]
     have hq0 : q2 = 0 := by omega
     have h0 := run_copy_row (P := Tryz.prog) wr.drew.drew 29 29 3 5 rb 0 (4096 - m) (4096 - m) ⟨sb, so + q, none⟩ r rc (u8s buf).toArray 5 (u8s ((ps.drop q).take q2)) Tryz.underlying29 hinfo hB.krb.blk (by rw [hcsl]; show q2 = min r (4096 - m); omega) hsrc2 (by rw [hcsl]; simp [u8s_len, hB.len]; omega) (u8s_one _)
     rw [hcsl] at h0
     rw [h0, hW2.out]
     subst hq0
     have hbl : (u8s buf).length = 4096 := by rw [u8s_len, hB.len]
     rw [← e]
     have e1 : (u8s buf).toArray.toList.take 0 ++ u8s ((ps.drop q).take 0) ++ (u8s buf).toArray.toList.drop (0 + 0) = (u8s buf).toArray.toList.take 4096 ++ u8s ((ps.drop q).take 0) ++ (u8s buf).toArray.toList.drop 4096 := by
      simp only [List.take_zero, Nat.add_zero, List.drop_zero, List.nil_append]
      rw [List.take_of_length_le (by omega), List.drop_eq_nil_of_le (by omega)]
      simp [u8s]
     rw [e1]
    ·rw [if_neg e]
     have h0 := run_copy_row (P := Tryz.prog) wr.drew.drew 29 29 3 5 rb m (4096 - m) (4096 - m) ⟨sb, so + q, none⟩ r rc (u8s buf).toArray 5 (u8s ((ps.drop q).take q2)) Tryz.underlying29 hinfo hB.krb.blk (by rw [hcsl]; show q2 = min r (4096 - m); omega) hsrc2 (by rw [hcsl]; simp [u8s_len, hB.len]; omega) (u8s_one _)
     rw [hcsl, hq2m] at h0
     rw [h0, hW2.out]
   rw [← hW2.out] at d1 d2 y2 hBw hKw
   have hfl := flush_calls (w := W2.setCell ⟨fb, 2, none⟩ (.int .i64 4096)) (bs := bs ++ ps.take (q + q2)) ⟨_, _, _, _, _, hBw⟩ (by rw [List.length_append, List.length_take]; omega)
   have HE := Lib.hid ((hK.drew.drew).trans hKw)
   have e1 : (4096 : Int) - (m : Int) < (r : Int) := by omega
   have e2 : ¬ ((m : Int) = 0) := by omega
   have e3 : (m : Int) ≤ 4096 := by omega
   have e4 : (m : Int) + (q2 : Int) = 4096 := by omega
   have e6 : IntKind.i64.wrap ((q : Int) + (q2 : Int)) = (q : Int) + (q2 : Int) := IntWalk.i64_in _ (by omega)
   have e8 : (q2 : Int) ≤ (r : Int) := by omega
   have e9 : ¬ (rc = q2) := by omega
   clear hB hK hb1 hBw hKw hpr hW2 hcsl hdl hsrc2
   go_wp2_with fail
   refine hav.mono ?_
   rintro e w' ⟨rfl, rfl⟩
   go_wp2_with fail
   refine hbuf.mono ?_
   rintro e w' ⟨rfl, hw'⟩
   obtain rfl := hw'.symm
   clear hw'
   go_wp2_with fail
   refine wp_region_seqV (fun W => W.cell? ⟨fb, 1, none⟩ = some (.slice (some ⟨rb, 0, none⟩) 4096 4096) ∧ W.cell? ⟨fb, 2, none⟩ = some (.int .i64 (m : Int))) (fun i => decide (i ≠ 10)) (fun i => ![3, 7].contains i && decide (i ≠ 10)) (fun i => false) [0, 1, 2, 3, 4, 5, 6, 7, 8, 9, 10, 11] (by kernel_rfl) (by kernel_rfl) (fun c a d v w h => by cases d <;> exact h) ⟨c1, c2⟩ ?_
   iterate 3 (apply seqV_pure (ho := rfl) (hr := rfl) (hg := rfl); (intro w'; go_simp; rfl))
   (apply seqV_read (ho := rfl) (hr := rfl) (hp := rfl) (hg := rfl); (rintro w' ⟨q0, q1⟩; go_simp; rfl))
   go_simp
   iterate 3 (apply seqV_pure (ho := rfl) (hr := rfl) (hg := rfl); (intro w'; go_simp; rfl))
   (apply seqV_read (ho := rfl) (hr := rfl) (hp := rfl) (hg := rfl); (rintro w' ⟨q0, q1⟩; go_simp; rfl))
   go_simp
   iterate 2 (apply seqV_pure (ho := rfl) (hr := rfl) (hg := rfl); (intro w'; go_simp; rfl))
   refine seqV_do rfl rfl fun K hK => ?_
   go_simp
   refine hK _ _ (fun _ => ⟨d1, d2⟩) ?_
   clear hK K
   iterate 1 (apply seqV_pure (ho := rfl) (hr := rfl) (hg := rfl); (intro w'; go_simp; rfl))
   unfold seqV
   go_simp
   go_wp2_with fail
   all_goals
    refine hfl.mono ?_
    rintro e w3 ⟨rfl, col3, hk3, buf3, v3, full3, hB3⟩
    have HE3 := Lib.hid (And.intro (HE.out.trans hk3) hB3)
    clear hk3 hB3 HE hfl
    go_wp2_with fail
    go_roundg 1
    case measure => omega
    case rel =>
     obtain ⟨h1, h2⟩ := HE3.out
     refine ⟨q + q2, 0, buf3, _, v3, full3, col3, by omega, h2, h1, ?_, by simp, by rw [if_neg (by omega)]⟩
     have a1 : so + q + q2 = so + (q + q2) := by omega
     have a2 : r - q2 = k - (q + q2) := by have := hr.out; omega
     have a3 : rc - q2 = kc - (q + q2) := by have := hrc.out; omega
     rw [← a1, ← a2, ← a3]
end
section
open Go.RowKit Fmt
theorem two8 (a b : List Nat) (ha : a.length = 8) : (List.take 8 (List.take 0 (List.replicate 16 0) ++ a ++ List.drop (0 + 8) (List.replicate 16 0)) ++ b ++ List.drop (8 + 8) (List.take 0 (List.replicate 16 0) ++ a ++ List.drop (0 + 8) (List.replicate 16 0))) = a ++ b := by
 match a, ha with
 | [a0, a1, a2, a3, a4, a5, a6, a7], _ => simp [List.replicate]
section
variable {w : World} {col : Col} {eb wb fb rb bb : Nat} {bs : List Nat}
set_option maxHeartbeats 1000000 in
set_option maxRecDepth 100000 in
theorem vwrite_calls {c sb so k kc : Nat} {ps : List Nat} (h : Wr w col c wb fb rb bb bs) (hl : bs.length ≤ 1099511620000) (hp : Byts w sb so ps) (hs : ¬ two c (col sb)) (hk : ps.length = k) (hk1 : 1 ≤ k) (hk4 : k ≤ 4096) (hkc : k ≤ kc) (hkm : kc ≤ maxLen) :
  Calls Tryz.prog 159 #[.pointer (some ⟨wb, 0, none⟩), .slice (some ⟨sb, so, none⟩) k kc] w fun e w' => e = .returned (.tuple #[.int .i64 (k : Int), .nilIface]) ∧ ∃ col', Kp (three c) col w col' w' ∧ Wr w' col' c wb fb rb bb (bs ++ ps) := by
 have hb := bwrite_calls h.kbw hl hp hs hk hk1 hk4 hkc hkm
 have c0 := h.kwb.blk.cell 0 rfl
 have HH := Lib.hid h
 have hlk : (bs ++ ps).length = bs.length + k := by rw [List.length_append, hk]
 clear h hp
 go_enter Tryz.func159, Tryz.ntmps159
 go_wp2_with fail
 refine hb.mono ?_
 rintro e w2 ⟨rfl, col2, hk2, hb2⟩
 have c1 := (HH.out.kwb.kp hk2 (two_not c)).blk.cell 1 rfl
 have z1 := (HH.out.kwb.kp hk2 (two_not c)).blk.frz 1
 have e1 : IntKind.i64.wrap ((bs.length : Int) + (k : Int)) = (bs.length : Int) + (k : Int) := IntWalk.i64_in _ (by omega)
 have hst := HH.out.step hk2 hb2 ((bs.length : Int) + (k : Int)) (by rw [hlk]; omega)
 have HE := Lib.hid hst
 clear hk2 hb2 hst hb
 go_wp2_with fail
 go_ret2
 exact ⟨rfl, col2, HE.out.2, HE.out.1⟩
set_option maxHeartbeats 1000000 in
set_option maxRecDepth 100000 in
theorem start_calls (h : En w col eb wb fb rb bb []) :
  Calls Tryz.prog 154 #[.pointer (some ⟨eb, 0, none⟩)] w fun e w' => e = .returned .nilIface ∧ ∃ col', Kp (fun d => three 1 d ∨ d = 10) col w col' w' ∧ En w' col' eb wb fb rb bb header := by
 have hmk : ∀ W : World, (Instr.makeSlice 29 (.int .i64 16) (.int .i64 16)).run Tryz.prog W = .ok (.slice (some ⟨W.heap.size, 0, none⟩) 16 16) (W.alloc (.cells (u8s (List.replicate 16 0)).toArray 5)) := fun W => run_mk_u8 16 16 (by omega) (by omega) .i64 .i64 W
 have HH := Lib.hid h
 clear h
 obtain ⟨b0, hb0⟩ : ∃ b0, Hid (w.heap.size = b0) := ⟨_, Lib.hid rfl⟩
 have hB1 : Blk (w.alloc (.cells (u8s (List.replicate 16 0)).toArray 5)) b0 (u8s (List.replicate 16 0)) 5 := Blk.newAt w _ 5 b0 hb0.out
 have hP1 := put64_calls (o := 0) (n := 16) (c := 16) (v := 1) hB1 (by omega) (by omega) (by simp)
 have hF1 : Fr (fun k => k = b0) w (w.alloc (.cells (u8s (List.replicate 16 0)).toArray 5)) := (Fr.refl _ w).alloc _
 go_enter Tryz.func154, Tryz.ntmps154
 go_wp2_with fail
 rw [hb0.out]
 refine hP1.mono ?_
 rintro e w2 ⟨rfl, hB2, hF2⟩
 clear hP1 hB1
 go_wp2_with fail
 refine wp_region_seqV (fun W => True) (fun i => decide (i ≠ 3)) (fun i => ![0].contains i && decide (i ≠ 3)) (fun i => false) [0, 1, 2, 3] (by kernel_rfl) (by kernel_rfl) (fun c a d v w h => by cases d <;> exact h) trivial ?_
 (apply seqV_read (ho := rfl) (hr := rfl) (hp := rfl) (hg := rfl); (rintro w' q0; go_simp; rfl))
 go_simp
 iterate 2 (apply seqV_pure (ho := rfl) (hr := rfl) (hg := rfl); (intro w'; go_simp; rfl))
 refine seqV_do rfl rfl fun K hK => ?_
 go_simp
 have hP2 := put64_calls (w := w2.drew) (o := 8) (n := 8) (c := 8) (v := 0) hB2 (by omega) (by omega) (by simp [pk_len])
 refine hP2.mono ?_
 rintro e w3 ⟨rfl, hB3, hF3⟩
 refine hK _ _ (fun _ => trivial) ?_
 clear hK K hP2
 unfold seqV
 go_simp
 have hL := two8 (pk 1 8) (pk 0 8) (pk_len _ _)
 rw [hL] at hB3
 have hF := (hF1.trans hF2 (fun _ _ e => e)).drew.trans hF3 (fun _ _ e => e)
 have K10 : Kp (fun d => d = 10) col w (paint w.heap.size 10 col) w3 := Kp.of hF 10 (fun k hk e => by rw [e, ← hb0.out] at hk; omega) rfl
 have hE3 := HH.out.kp K10 (by omega) (by omega) (by omega) (by omega) (by omega)
 have hby : Byts w3 b0 0 header := ⟨fun j c hj => by rw [Nat.zero_add]; exact hB3.cell j (u8s_at hj)⟩
 have hb10 : paint w.heap.size 10 col b0 = 10 := paint_ge (by rw [hb0.out]; exact Nat.le_refl _)
 have hwr := vwrite_calls (k := 16) (kc := 16) hE3.wr (by simp) hby (by rw [hb10]; unfold two; omega) header_len (by omega) (by omega) (by omega) (by decide)
 have y0 := hE3.eb.blk.cell 0 rfl
 have HE := Lib.hid (And.intro hE3 K10)
 clear hE3 hF hF1 hF2 hF3 hB2 hB3 hby hL hb10 K10
 go_wp2_with fail
 refine hwr.mono ?_
 rintro e w4 ⟨rfl, col4, hk4, hw4⟩
 have HG := Lib.hid (And.intro (HE.out.1.next hk4 hw4) ((HE.out.2.mono (fun _ e => .inr e)).trans (hk4.mono fun _ e => .inl e) : Kp (fun d => three 1 d ∨ d = 10) col w col4 w4))
 clear hk4 hw4 HE
 go_wp2_with fail
 go_ret
 exact ⟨rfl, col4, HG.out.2, by simpa using HG.out.1⟩
set_option maxHeartbeats 1000000 in
set_option maxRecDepth 100000 in
theorem finish_calls {cnt root : Nat} (h : En w col eb wb fb rb bb bs) (hl : bs.length ≤ 1099511600000) (hc : cnt < 1099511627776) (hr : root < 1099511627776) :
  Calls Tryz.prog 152 #[.pointer (some ⟨eb, 0, none⟩), .int .i64 (cnt : Int), .int .i64 (root : Int)] w fun e w' => e = .returned .nilIface ∧ ∃ col', Kp (fun d => three 1 d ∨ d = 10) col w col' w' ∧ ∃ buf v full, Bw w' col' 1 fb rb bb (bs ++ (pk cnt 8 ++ pk root 8)) buf 0 (bs ++ (pk cnt 8 ++ pk root 8)) v full := by
 have hmk : ∀ W : World, (Instr.makeSlice 29 (.int .i64 16) (.int .i64 16)).run Tryz.prog W = .ok (.slice (some ⟨W.heap.size, 0, none⟩) 16 16) (W.alloc (.cells (u8s (List.replicate 16 0)).toArray 5)) := fun W => run_mk_u8 16 16 (by omega) (by omega) .i64 .i64 W
 have HH := Lib.hid h
 clear h
 obtain ⟨b0, hb0⟩ : ∃ b0, Hid (w.heap.size = b0) := ⟨_, Lib.hid rfl⟩
 have hB1 : Blk (w.alloc (.cells (u8s (List.replicate 16 0)).toArray 5)) b0 (u8s (List.replicate 16 0)) 5 := Blk.newAt w _ 5 b0 hb0.out
 have hP1 := put64_calls (o := 0) (n := 16) (c := 16) (v := cnt) hB1 (by omega) (by omega) (by simp)
 have hF1 : Fr (fun k => k = b0) w (w.alloc (.cells (u8s (List.replicate 16 0)).toArray 5)) := (Fr.refl _ w).alloc _
 have ec : IntKind.u64.wrap (cnt : Int) = (cnt : Int) := IntWalk.u64_in _ (by omega)
 have er : IntKind.u64.wrap (root : Int) = (root : Int) := IntWalk.u64_in _ (by omega)
 go_enter Tryz.func152, Tryz.ntmps152
 go_wp2_with fail
 rw [hb0.out]
 refine hP1.mono ?_
 rintro e w2 ⟨rfl, hB2, hF2⟩
 clear hP1 hB1
 go_wp2_with fail
 refine wp_region_seqV (fun W => True) (fun i => decide (i ≠ 5)) (fun i => ![0].contains i && decide (i ≠ 5)) (fun i => false) [0, 1, 2, 3, 4, 5] (by kernel_rfl) (by kernel_rfl) (fun c a d v w h => by cases d <;> exact h) trivial ?_
 (apply seqV_read (ho := rfl) (hr := rfl) (hp := rfl) (hg := rfl); (rintro w' q0; go_simp; rfl))
 go_simp
 iterate 3 (apply seqV_pure (ho := rfl) (hr := rfl) (hg := rfl); (intro w'; go_simp; rfl))
 go_simp
 iterate 1 (apply seqV_pure (ho := rfl) (hr := rfl) (hg := rfl); (intro w'; go_simp; rfl))
 refine seqV_do rfl rfl fun K hK => ?_
 go_simp
 have hP2 := put64_calls (w := w2.drew) (o := 8) (n := 8) (c := 8) (v := root) hB2 (by omega) (by omega) (by simp [pk_len])
 refine hP2.mono ?_
 rintro e w3 ⟨rfl, hB3, hF3⟩
 refine hK _ _ (fun _ => trivial) ?_
 clear hK K hP2
 unfold seqV
 go_simp
 have hL := two8 (pk cnt 8) (pk root 8) (pk_len _ _)
 rw [hL] at hB3
 have hF := (hF1.trans hF2 (fun _ _ e => e)).drew.trans hF3 (fun _ _ e => e)
 have K10 : Kp (fun d => d = 10) col w (paint w.heap.size 10 col) w3 := Kp.of hF 10 (fun k hk e => by rw [e, ← hb0.out] at hk; omega) rfl
 have hE3 := HH.out.kp K10 (by omega) (by omega) (by omega) (by omega) (by omega)
 obtain ⟨ft, hft⟩ : ∃ ft, Hid (pk cnt 8 ++ pk root 8 = ft) := ⟨_, Lib.hid rfl⟩
 have hftl : ft.length = 16 := by rw [← hft.out]; simp [pk_len]
 rw [hft.out] at hB3
 have hby : Byts w3 b0 0 ft := ⟨fun j c hj => by rw [Nat.zero_add]; exact hB3.cell j (u8s_at hj)⟩
 have hb10 : paint w.heap.size 10 col b0 = 10 := paint_ge (by rw [hb0.out]; exact Nat.le_refl _)
 have hwr := vwrite_calls (k := 16) (kc := 16) hE3.wr (by omega) hby (by rw [hb10]; unfold two; omega) hftl (by omega) (by omega) (by omega) (by decide)
 have y0 := hE3.eb.blk.cell 0 rfl
 have HE := Lib.hid (And.intro hE3 K10)
 clear hE3 hF hF1 hF2 hF3 hB2 hB3 hby hL hb10 K10
 go_wp2_with fail
 refine hwr.mono ?_
 rintro e w4 ⟨rfl, col4, hk4, hw4⟩
 have hE4 := HE.out.1.next hk4 hw4
 have hfl := vwflush_calls hE4.wr (by rw [List.length_append]; omega)
 have y4 := hE4.eb.blk.cell 0 rfl
 have HG := Lib.hid ((HE.out.2.mono (fun _ e => .inr e)).trans (hk4.mono fun _ e => .inl e) : Kp (fun d => three 1 d ∨ d = 10) col w col4 w4)
 clear hk4 hw4 HE hE4
 go_wp2_with fail
 refine hfl.mono ?_
 rintro e w5 ⟨rfl, col5, hk5, hbw⟩
 have HJ := Lib.hid (And.intro (HG.out.trans (hk5.mono fun _ e => .inl e)) hbw)
 clear hk5 hbw HG hfl
 go_wp2_with fail
 go_ret
 rw [hft.out]
 exact ⟨rfl, col5, HJ.out⟩
end
end
section
open Go.RowKit Fmt
/-- Two rows of numbers compared. -/
def cmpL : List Nat → List Nat → Int
 | [], [] => 0
 | [], _ :: _ => -1
 | _ :: _, [] => 1
 | a :: x, b :: y => if a < b then -1 else if b < a then 1 else cmpL x y
theorem cmpL_klt : ∀ x y : List Nat, cmpL x y = -1 ↔ klt x y
 | [], [] => by simp [cmpL, klt]
 | [], _ :: _ => by simp [cmpL, klt]
 | _ :: _, [] => by simp [cmpL, klt]
 | a :: x, b :: y => by
  have ih := cmpL_klt x y
  rw [cmpL, klt]
  by_cases h : a < b
  ·rw [if_pos h]; exact ⟨fun _ => .inl h, fun _ => rfl⟩
  ·rw [if_neg h]
   by_cases h2 : b < a
   ·rw [if_pos h2]; constructor
    ·intro e; omega
    ·rintro (e | e)
     ·omega
     ·omega
   ·rw [if_neg h2, ih]
    constructor
    ·intro e; exact .inr ⟨by omega, e⟩
    ·rintro (e | e)
     ·exact absurd e h
     ·exact e.2
theorem cmpL_eq : ∀ x y : List Nat, cmpL x y = 0 ↔ x = y
 | [], [] => by simp [cmpL]
 | [], _ :: _ => by simp [cmpL]
 | _ :: _, [] => by simp [cmpL]
 | a :: x, b :: y => by
  have ih := cmpL_eq x y
  simp only [cmpL]
  by_cases h : a < b
  ·simp only [h, if_true]; constructor
   ·intro e; omega
   ·intro e; injection e with e _; omega
  ·by_cases h2 : b < a
   ·simp only [h, h2, if_true, if_false]; constructor
    ·intro e; omega
    ·intro e; injection e with e _; omega
   ·simp only [h, h2, if_false]
    rw [ih]
    have : a = b := by omega
    subst this
    simp
theorem cmpL_swap : ∀ x y : List Nat, cmpL x y = 1 ↔ klt y x
 | [], [] => by simp [cmpL, klt]
 | [], _ :: _ => by simp [cmpL, klt]
 | _ :: _, [] => by simp [cmpL, klt]
 | a :: x, b :: y => by
  have ih := cmpL_swap x y
  rw [cmpL, klt]
  by_cases h : a < b
  ·rw [if_pos h]; constructor
   ·intro e; omega
   ·rintro (e | e)
    ·omega
    ·omega
  ·rw [if_neg h]
   by_cases h2 : b < a
   ·rw [if_pos h2]; exact ⟨fun _ => .inl h2, fun _ => rfl⟩
   ·rw [if_neg h2, ih]
    constructor
    ·intro e; exact .inr ⟨by omega, e⟩
    ·rintro (e | e)
     ·exact absurd e h2
     ·exact e.2
def toB (l : List Nat) : List UInt8 := l.map UInt8.ofNat
theorem ba_get (x : List UInt8) (i : Nat) : (⟨x.toArray⟩ : ByteArray)[i]! = x[i]?.getD default := by
 by_cases h : i < x.length
 ·rw [getElem!_pos (⟨x.toArray⟩ : ByteArray) i (by simpa [ByteArray.size] using h), List.getElem?_eq_getElem h]
  rfl
 ·rw [getElem!_neg (⟨x.toArray⟩ : ByteArray) i (by simpa [ByteArray.size] using h), List.getElem?_eq_none (by omega)]
  rfl
theorem find_succ {p : Nat → Bool} (k : Nat) : (List.range (k + 1)).find? p = if p 0 then some 0 else ((List.range k).find? fun i => p (i + 1)).map (· + 1) := by
 rw [List.range_succ_eq_map, List.find?_cons]
 cases p 0
 ·simp [List.find?_map, Function.comp_def]
 ·rfl
theorem u8_lt {a b : Nat} (ha : a < 256) (hb : b < 256) : (UInt8.ofNat a < UInt8.ofNat b ↔ a < b) ∧ (UInt8.ofNat a = UInt8.ofNat b ↔ a = b) := by
 constructor
 ·rw [UInt8.lt_iff_toNat_lt]; simp [Nat.mod_eq_of_lt ha, Nat.mod_eq_of_lt hb]
 ·constructor
  ·intro e
   have := congrArg UInt8.toNat e
   simpa [Nat.mod_eq_of_lt ha, Nat.mod_eq_of_lt hb] using this
  ·intro e; rw [e]
theorem cmp_eq : ∀ (x y : List Nat), (∀ a, a ∈ x → a < 256) → (∀ a, a ∈ y → a < 256) → Extern.BytealgCompare.cmp ⟨(toB x).toArray⟩ ⟨(toB y).toArray⟩ = cmpL x y
 | [], [], _, _ => rfl
 | [], b :: y, _, _ => by
  unfold Extern.BytealgCompare.cmp
  have e1 : (⟨(toB []).toArray⟩ : ByteArray).size = 0 := rfl
  have e2 : (⟨(toB (b :: y)).toArray⟩ : ByteArray).size = (toB y).length + 1 := by simp [toB, ByteArray.size]
  rw [e1, e2, Nat.zero_min]
  simp [cmpL]
 | a :: x, [], _, _ => by
  unfold Extern.BytealgCompare.cmp
  have e1 : (⟨(toB []).toArray⟩ : ByteArray).size = 0 := rfl
  have e2 : (⟨(toB (a :: x)).toArray⟩ : ByteArray).size = (toB x).length + 1 := by simp [toB, ByteArray.size]
  rw [e1, e2, Nat.min_zero]
  simp [cmpL]
 | a :: x, b :: y, hx, hy => by
  have ih := cmp_eq x y (fun c hc => hx c (by simp [hc])) (fun c hc => hy c (by simp [hc]))
  have ha := hx a (by simp)
  have hb := hy b (by simp)
  obtain ⟨u1, u2⟩ := u8_lt ha hb
  have e0 : ∀ (c : Nat) (z : List Nat), (⟨(toB (c :: z)).toArray⟩ : ByteArray)[0]! = UInt8.ofNat c := fun c z => by rw [ba_get]; rfl
  have e1 : ∀ (c : Nat) (z : List Nat) (i : Nat), (⟨(toB (c :: z)).toArray⟩ : ByteArray)[i + 1]! = (⟨(toB z).toArray⟩ : ByteArray)[i]! := fun c z i => by rw [ba_get, ba_get]; simp [toB]
  have es : ∀ (c : Nat) (z : List Nat), (⟨(toB (c :: z)).toArray⟩ : ByteArray).size = (⟨(toB z).toArray⟩ : ByteArray).size + 1 := fun c z => by simp [toB, ByteArray.size]
  unfold Extern.BytealgCompare.cmp at ih ⊢
  rw [es, es, show min ((⟨(toB x).toArray⟩ : ByteArray).size + 1) ((⟨(toB y).toArray⟩ : ByteArray).size + 1) = min (⟨(toB x).toArray⟩ : ByteArray).size (⟨(toB y).toArray⟩ : ByteArray).size + 1 by omega, find_succ]
  simp only [e0, e1]
  by_cases hab : a = b
  ·subst hab
   simp only [bne_self_eq_false, Bool.false_eq_true, if_false]
   rw [show cmpL (a :: x) (a :: y) = cmpL x y by simp [cmpL], ← ih]
   cases (List.range (min (⟨(toB x).toArray⟩ : ByteArray).size (⟨(toB y).toArray⟩ : ByteArray).size)).find? (fun i => (⟨(toB x).toArray⟩ : ByteArray)[i]! != (⟨(toB y).toArray⟩ : ByteArray)[i]!) with
   | none => simp
   | some i => simp [e1]
  ·have hne : (UInt8.ofNat a != UInt8.ofNat b) = true := by
    rw [bne_iff_ne]; exact fun e => hab (u2.1 e)
   rw [hne]
   simp only [if_true, e0]
   by_cases h : a < b
   ·rw [if_pos (u1.2 h)]; simp [cmpL, h]
   ·rw [if_neg (fun e => h (u1.1 e))]
    have : b < a := by omega
    simp [cmpL, h, this]
/-- A slice of bytes: in memory, or none. -/
def Sby (w : World) (v : Value) (l : List Nat) : Prop := (∃ b o c, v = .slice (some ⟨b, o, none⟩) l.length c ∧ Byts w b o l) ∨ (l = [] ∧ ∃ c, v = .slice none 0 c)
theorem Sby.load {w : World} {v : Value} {l : List Nat} (h : Sby w v l) : (Extern.Bytes.bytesOf v).run Tryz.prog w = .ok ⟨(toB l).toArray⟩ w := by
 rcases h with ⟨b, o, c, rfl, hb⟩ | ⟨rfl, c, rfl⟩
 ·have h := Lib.run_loadBytesX (P := Tryz.prog) (w := w) (l.map fun x : Nat => (x : Int)) ⟨b, o, none⟩ .empty (fun j x hj => by
   simp only [List.getElem?_map, Option.map_eq_some_iff] at hj
   obtain ⟨y, h1, rfl⟩ := hj
   rw [Addr.add_mid]; exact hb.at_ j y h1)
  rw [List.length_map] at h
  show (Extern.Bytes.loadBytes ⟨b, o, none⟩ l.length .empty).run Tryz.prog w = _
  rw [h]
  congr 1
  simp [ByteArray.empty, Lib.bytesOf, toB, ByteArray.emptyWithCapacity]
  rfl
 ·rfl
set_option maxHeartbeats 1000000 in
set_option maxRecDepth 100000 in
theorem compare_calls {w : World} {v1 v2 : Value} {l1 l2 : List Nat} (h1 : Sby w v1 l1) (h2 : Sby w v2 l2) (hb1 : ∀ a, a ∈ l1 → a < 256) (hb2 : ∀ a, a ∈ l2 → a < 256) :
  Calls Tryz.prog 47 #[v1, v2] w fun e w' => e = .returned (.int .i64 (cmpL l1 l2)) ∧ w' = w := by
 have hr : (Extern.BytealgCompare.compare #[v1, v2]).run Tryz.prog w = .ok (.int .i64 (cmpL l1 l2)) w := by
  show (do pure (goInt (Extern.BytealgCompare.cmp (← Extern.Bytes.bytesOf v1) (← Extern.Bytes.bytesOf v2))) : Sem Value).run Tryz.prog w = _
  simp only [Sem.run_bind, h1.load, h2.load, Result.andThen_ok, Sem.run_pure]
  rw [cmp_eq l1 l2 hb1 hb2]; rfl
 clear h1 h2
 go_enter Tryz.func47, Tryz.ntmps47
 go_wp2_with fail
 rw [run_callFunc_extern Tryz.func67 (by kernel_rfl) (by kernel_rfl) (by kernel_rfl) (e := Extern.BytealgCompare.compare) (by kernel_rfl), hr]
 simp only [Result.andThen]
 rw [Oper.upon_value]
 go_wp2_with fail
 go_ret
 exact ⟨rfl, rfl⟩
end
section
open Go.RowKit Fmt
section
variable {w : World} {col : Col} {bd kb ko kc m n0 : Nat} {cs : List Value} {lv : Value} {full : List Value} {key : List Nat}
/-- What copyLastKey leaves. -/
def CpkPost (w : World) (col : Col) (bd : Nat) (cs : List Value) (key : List Nat) (w' : World) : Prop :=
 ∃ lv' full' col', BlkC w' col' 12 bd (cs.set 2 lv') 113 ∧ RowC w' col' 11 5 1 lv' key.length full' ∧ full'.take key.length = u8s key ∧ Kp (fun d => d = 12 ∨ d = 11) col w col' w'
/-- The end: a row with the key, its slice stored. -/
theorem cpk_end {w1 w2 : World} {col1 : Col} {v1 v2 : Value} {full1 full2 : List Value} (hb : BlkC w1 col1 12 bd cs 113) (hr : RowC w1 col1 11 5 1 v1 0 full1) (k1 : Kp (fun d => d = 12 ∨ d = 11) col w col1 w1) (h2 : RowF w2 5 1 v2 key.length full2) (hF : Fr (fun k => v1.ownBlock = some k) w1 w2)
  (hc : (v2.ownBlock = v1.ownBlock ∧ full2 = full1.take (0 * 1) ++ u8s key ++ full1.drop (key.length * 1)) ∨ (v2.ownBlock = some w1.heap.size ∧ ∃ k, full2 = full1.take (0 * 1) ++ u8s key ++ zeros #[.int .u8 0] k)) :
  CpkPost w col bd cs key (w2.setCell ⟨bd, 2, none⟩ v2) := by
 have hK : Kp (fun d => d = 11) col1 w1 (paint w1.heap.size 11 col1) w2 := Kp.of hF 11 (fun k _ e => hr.col k e) rfl
 have hb2 := hb.kp hK (by omega)
 have hK2 : Kp (fun d => d = 12 ∨ d = 11) col1 w1 (paint w1.heap.size 11 col1) (w2.setCell ⟨bd, 2, none⟩ v2) := (hK.mono fun _ e => .inr e).set (p := ⟨bd, 2, none⟩) _ (.inl hb2.col)
 have htk : full2.take key.length = u8s key := by
  have e : ∀ T, (full1.take (0 * 1) ++ u8s key ++ T).take key.length = u8s key := fun T => by
   rw [Nat.zero_mul, List.take_zero, List.nil_append, List.take_left' (u8s_len _)]
  rcases hc with ⟨_, e2⟩ | ⟨_, k, e2⟩
  ·rw [e2]; exact e _
  ·rw [e2]; exact e _
 refine ⟨v2, full2, _, ⟨hb2.blk.set 2 v2, hb2.col⟩, ⟨?_, fun k hk => ?_⟩, htk, k1.trans hK2⟩
 ·refine h2.fr (F := fun k => k = bd) (Fr.setCell (F := fun k => k = bd) (p := ⟨bd, 2, none⟩) (Fr.refl _ w2) (fun _ => rfl) _) fun b hb3 e => ?_
  exact rowf_ne h2 hb2.blk (by decide) (by rw [← e]; exact hb3)
 ·rcases hc with ⟨e, _⟩ | ⟨e, _⟩
  ·rw [e] at hk; exact (paint_lt (hr.row.lt hk)).trans (hr.col k hk)
  ·rw [e] at hk; injection hk with hk; subst hk; exact paint_ge (Nat.le_refl _)
theorem nil_none (W : World) : (binOp .eql 29 (.slice none 0 0) (.slice none 0 0)).run Tryz.prog W = .ok (.bool true) W := Lib.run_eql_slice_nil_nil W 0 0 Tryz.underlying29
set_option maxHeartbeats 1000000 in
set_option maxRecDepth 100000 in
theorem cpk_calls (hb : BlkC w col 12 bd cs 113) (hcs : cs[2]? = some lv) (hr : RowC w col 11 5 1 lv n0 full) (hk : Byts w kb ko key) (hkc : col kb ≠ 12 ∧ col kb ≠ 11) (hkm : key.length = m) (hm1 : 1 ≤ m) (hml : m ≤ 1099511627776) (hkl : m ≤ kc) (hkx : kc ≤ maxLen) :
  Calls Tryz.prog 51 #[.pointer (some ⟨bd, 0, none⟩), .slice (some ⟨kb, ko, none⟩) m kc] w fun e w' => e = .returned (.tuple #[]) ∧ CpkPost w col bd cs key w' := by
 have c2 := hb.blk.cell 2 hcs
 have z2 := hb.blk.frz 2
 have hkb : kb < w.heap.size := World.block_lt_of_cell? w _ (hk.at_ 0 _ (List.getElem?_eq_getElem (by omega)))
 have hsrc : ∀ {w1 : World}, w1.heap[kb]? = w.heap[kb]? → ∀ (j : Nat) (u : Value), (u8s key)[j]? = some u → w1.cell? ((⟨kb, ko, none⟩ : Addr).add j) = some u := fun {w1} he j u hj => by
  rw [Addr.add_mid]
  simp only [u8s, List.getElem?_map, Option.map_eq_some_iff] at hj
  obtain ⟨x, h1, rfl⟩ := hj
  exact (World.cell?_of_block (w := w) he).trans (hk.at_ _ _ h1)
 have HH := Lib.hid (And.intro hb (And.intro hr @hsrc))
 obtain ⟨Z, hZ⟩ : ∃ Z : List Nat, Hid (List.replicate 64 0 = Z) := ⟨_, Lib.hid rfl⟩
 have hZl : Z.length = 64 := by rw [← hZ.out]; simp
 have hmk : ∀ W : World, (Instr.makeSlice 29 (.int .i64 0) (.int .i64 64)).run Tryz.prog W = .ok (.slice (some ⟨W.heap.size, 0, none⟩) 0 64) (W.alloc (.cells (u8s Z).toArray 5)) := fun W => by rw [← hZ.out]; exact run_mk_u8 0 64 (by omega) (by omega) .i64 .i64 W
 have hcg : ∀ v : Value, (cs.set 2 v)[2]? = some v := fun v => List.getElem?_set_self (List.getElem?_eq_some_iff.1 hcs).1
 have hnb : bd ≠ w.heap.size := by have := hb.lt; omega
 rcases hr.row with ⟨rfl, rfl, rfl⟩ | ⟨g, cap, rfl, hg, hc1, hc2, hc3⟩
 ·as_aux_lemma =>
  obtain ⟨N, hN⟩ : ∃ N, Hid (w.heap.size = N) := ⟨_, Lib.hid rfl⟩
  have hF1 : Fr (fun _ => False) w (w.alloc (.cells (u8s Z).toArray 5)) := (Fr.refl _ w).alloc _
  have K1 : Kp (fun d => d = 12 ∨ d = 11) col w (paint w.heap.size 11 col) (w.alloc (.cells (u8s Z).toArray 5)) := Kp.news hF1 11 (.inr rfl)
  have hb1 : BlkC (w.alloc (.cells (u8s Z).toArray 5)) (paint w.heap.size 11 col) 12 bd cs 113 := ⟨hb.blk.alloc _, (paint_lt hb.lt).trans hb.col⟩
  have hb2 : BlkC ((w.alloc (.cells (u8s Z).toArray 5)).setCell ⟨bd, 2, none⟩ (.slice (some ⟨N, 0, none⟩) 0 64)) (paint w.heap.size 11 col) 12 bd (cs.set 2 (.slice (some ⟨N, 0, none⟩) 0 64)) 113 := ⟨hb1.blk.set 2 _, hb1.col⟩
  have hg1 : Blk ((w.alloc (.cells (u8s Z).toArray 5)).setCell ⟨bd, 2, none⟩ (.slice (some ⟨N, 0, none⟩) 0 64)) N (u8s Z) 5 := (Blk.newAt w _ 5 N hN.out).set_ne (by rw [← hN.out]; exact Ne.symm hnb) _
  have hr1 : RowC ((w.alloc (.cells (u8s Z).toArray 5)).setCell ⟨bd, 2, none⟩ (.slice (some ⟨N, 0, none⟩) 0 64)) (paint w.heap.size 11 col) 11 5 1 (.slice (some ⟨N, 0, none⟩) 0 64) 0 (u8s Z) :=
   ⟨.inr ⟨N, 64, rfl, hg1, by omega, by decide, by rw [u8s_len, hZl]⟩, fun k e => by simp [Value.ownBlock] at e; subst e; exact paint_ge (by rw [hN.out]; exact Nat.le_refl _)⟩
  have K2 : Kp (fun d => d = 12 ∨ d = 11) col w (paint w.heap.size 11 col) ((w.alloc (.cells (u8s Z).toArray 5)).setCell ⟨bd, 2, none⟩ (.slice (some ⟨N, 0, none⟩) 0 64)) := K1.set (p := ⟨bd, 2, none⟩) _ (.inl hb1.col)
  have d2 := hb1.blk.cell 2 hcs
  have y2 := hb1.blk.frz 2
  obtain ⟨W2, hW2⟩ : ∃ W2, Hid (W2 = (w.alloc (.cells (u8s Z).toArray 5)).setCell ⟨bd, 2, none⟩ (.slice (some ⟨N, 0, none⟩) 0 64)) := ⟨_, Lib.hid rfl⟩
  have hrow := hr1.row
  have hs2 := hsrc (w1 := (w.alloc (.cells (u8s Z).toArray 5)).setCell ⟨bd, 2, none⟩ (.slice (some ⟨N, 0, none⟩) 0 64)) (by
   rw [Below.heap_setCell _ _ _ _ (fun e => by have := hb.col; simp only at e; rw [← e] at this; exact hkc.1 this)]
   exact Below.heap_alloc _ _ _ hkb)
  rw [← hW2.out] at hb2 hr1 K2 hrow hs2
  have H2 := Lib.hid (And.intro hb2 (And.intro hr1 K2))
  clear hb hr hb1 hb2 hg1 hr1 K1 K2 hF1 hk HH hcs hsrc
  have hnn := nil_none
  go_enter Tryz.func51, Tryz.ntmps51
  go_wp2_with (at_builtin; (rw [hN.out, ← hW2.out]; refine wpList_append_full W2 rfl _ _ 29 rfl 5 (.int .u8 0) 1 1 (by kernel_rfl) (by kernel_rfl) rfl (.slice (some ⟨N, 0, none⟩) 0 64) 0 (u8s Z) rfl hrow ⟨kb, ko, none⟩ m kc (u8s key) rfl (by rw [u8s_len, hkm, Nat.mul_one]) hs2 (u8s_one key) hm1 (by simp only [maxLen]; omega) (by omega) ?_); intro v2 w5 full2 hr5 hF5 hc5; obtain ⟨A', cap', rfl⟩ := rowv hr5; have u5 := H2.out.1.blk.fr hF5 (rowf_ne hrow H2.out.1.blk (by decide)); have d5 := u5.cell 2 (hcg _); have e5 := u5.frz 2)
  simp only [Nat.zero_add] at hr5 hc5 ⊢
  go_end0
  obtain ⟨h1, h2, h3⟩ := H2.out
  have he := cpk_end (cs := cs.set 2 (.slice (some ⟨N, 0, none⟩) 0 64)) (key := key) h1 h2 h3 (by rw [hkm]; exact hr5) hF5 (by rw [hkm]; exact hc5)
  unfold CpkPost at he ⊢
  simp only [List.set_set] at he
  exact ⟨rfl, he⟩
 ·as_aux_lemma =>
  have hF0 : Fr (fun k => k = bd) w (w.setCell ⟨bd, 2, none⟩ (.slice (some ⟨g, 0, none⟩) 0 cap)) := Fr.setCell (F := fun k => k = bd) (p := ⟨bd, 2, none⟩) (Fr.refl _ w) (fun _ => rfl) _
  have hb2 : BlkC (w.setCell ⟨bd, 2, none⟩ (.slice (some ⟨g, 0, none⟩) 0 cap)) col 12 bd (cs.set 2 (.slice (some ⟨g, 0, none⟩) 0 cap)) 113 := ⟨hb.blk.set 2 _, hb.col⟩
  have hr1 : RowC (w.setCell ⟨bd, 2, none⟩ (.slice (some ⟨g, 0, none⟩) 0 cap)) col 11 5 1 (.slice (some ⟨g, 0, none⟩) 0 cap) 0 full :=
   ⟨(hr.row.cut (m := 0) (by omega) _ _ rfl).fr hF0 (fun k e => by simp [Value.ownBlock] at e; subst e; exact Ne.symm (blk_ne hb.blk hg (by decide))), fun k e => hr.col k e⟩
  have K2 : Kp (fun d => d = 12 ∨ d = 11) col w col (w.setCell ⟨bd, 2, none⟩ (.slice (some ⟨g, 0, none⟩) 0 cap)) := (Kp.refl _ col w).set (p := ⟨bd, 2, none⟩) _ (.inl hb.col)
  obtain ⟨W2, hW2⟩ : ∃ W2, Hid (W2 = w.setCell ⟨bd, 2, none⟩ (.slice (some ⟨g, 0, none⟩) 0 cap)) := ⟨_, Lib.hid rfl⟩
  have hrow := hr1.row
  have hs2 := hsrc (w1 := w.setCell ⟨bd, 2, none⟩ (.slice (some ⟨g, 0, none⟩) 0 cap)) (Below.heap_setCell _ _ _ _ (fun e => by have := hb.col; simp only at e; rw [← e] at this; exact hkc.1 this))
  rw [← hW2.out] at hb2 hr1 K2 hrow hs2
  have H2 := Lib.hid (And.intro hb2 (And.intro hr1 K2))
  clear hb hr hb2 hr1 K2 hF0 hk HH hcs hsrc hg
  have hnn := nil_some
  have ecap : (0 : Int) ≤ (cap : Int) := by omega
  go_enter Tryz.func51, Tryz.ntmps51
  go_wp2_with (at_builtin; (rw [← hW2.out]; refine wpList_append_full W2 rfl _ _ 29 rfl 5 (.int .u8 0) 1 1 (by kernel_rfl) (by kernel_rfl) rfl (.slice (some ⟨g, 0, none⟩) 0 cap) 0 full rfl hrow ⟨kb, ko, none⟩ m kc (u8s key) rfl (by rw [u8s_len, hkm, Nat.mul_one]) hs2 (u8s_one key) hm1 (by simp only [maxLen]; omega) (by omega) ?_); intro v2 w5 full2 hr5 hF5 hc5; obtain ⟨A', cap', rfl⟩ := rowv hr5; have u5 := H2.out.1.blk.fr hF5 (rowf_ne hrow H2.out.1.blk (by decide)); have d5 := u5.cell 2 (hcg _); have e5 := u5.frz 2)
  simp only [Nat.zero_add] at hr5 hc5 ⊢
  go_end0
  obtain ⟨h1, h2, h3⟩ := H2.out
  have he := cpk_end (cs := cs.set 2 (.slice (some ⟨g, 0, none⟩) 0 cap)) (key := key) h1 h2 h3 (by rw [hkm]; exact hr5) hF5 (by rw [hkm]; exact hc5)
  unfold CpkPost at he ⊢
  simp only [List.set_set] at he
  exact ⟨rfl, he⟩
end
end
section
open Go
section
variable {P : Program} {ops : Array Oper} {Q : Exit → Act → World → Prop} {md : Region.Mode} {pu : Nat → Bool}
/-- Pure readers first, then T. -/
def preV (P : Program) (ops : Array Oper) : List Nat → (Act → World → Prop) → Act → World → Prop
 | [], T, a, w => T a w
 | i :: r, T, a, w => match ops[i]? with
  | none => False
  | some o => ∃ v, YieldsIf P ops (fun _ => True) o v a ∧ preV P ops r T (a.put o.dst v) w
def preOk (md : Region.Mode) (ops : Array Oper) : List Nat → Array Bool → Option (Array Bool)
 | [], l => some l
 | i :: r, l => if (Region.ready md ops l).contains i && Region.free md ops l i then preOk md ops r (l.setIfInBounds i true) else none
abbrev anyF (P : Program) (md : Region.Mode) (ops : Array Oper) (Q : Exit → Act → World → Prop) : Nat → Array Bool → Act → World → Prop := anyV P md ops Q (fun _ => True) (fun _ => false) (fun _ => false)
theorem anyF_pre {T : Act → World → Prop} {n : Nat} {l' : Array Bool} (hsel : Region.noSelect ops = true) (hQ : ∀ c a d v w, Q (.panic c) (a.put d v) w → Q (.panic c) a w) (hT : ∀ a w, T a w → anyF P md ops Q n l' a w) :
  ∀ (pre : List Nat) (l : Array Bool) (a : Act) (w : World), preOk md ops pre l = some l' → preV P ops pre T a w → anyF P md ops Q (pre.length + n) l a w
 | [], l, a, w, hk, h => by
  simp only [preOk, Option.some.injEq] at hk
  subst hk
  rw [List.length_nil, Nat.zero_add]
  exact hT a w h
 | i :: r, l, a, w, hk, h => by
  simp only [preOk] at hk
  split at hk
  ·rename_i hc
   simp only [Bool.and_eq_true] at hc
   simp only [preV] at h
   cases ho : ops[i]? with
   | none => rw [ho] at h; exact h.elim
   | some o =>
    rw [ho] at h
    simp only at h
    obtain ⟨v, hy, hr⟩ := h
    rw [show (i :: r).length + n = r.length + n + 1 by simp; omega]
    exact anyV_first ho hsel (fun c a w => hQ c a _ v w) (fun _ => True) (fun _ _ => by unfold clm; simp) (fun _ _ _ _ _ _ _ => .inl trivial) _ l a w (Region.free_spec ho hc.2) (by simpa using hc.1) hy trivial (anyF_pre hsel hQ hT r _ _ _ hk hr)
  ·cases hk
theorem anyF_fork {n i : Nat} {L : List Nat} {l : Array Bool} {a : Act} {w : World} (hr : Region.ready md ops l = i :: L) (h : ∀ j, j ∈ i :: L → wpOp P ops Q j (fun a' w' => anyF P md ops Q n (l.setIfInBounds j true) a' w') a w) : anyF P md ops Q (n + 1) l a w := by
 refine ⟨fun e => (by rw [hr] at e; cases e), fun j hj => ?_⟩
 rw [hr] at hj
 exact wpOp_mono (fun a' w' h' => ⟨by unfold clm; simp, h'⟩) (h j hj)
theorem anyF_end {l : Array Bool} {a : Act} {w : World} (hr : Region.ready md ops l = []) (h : Q .normal a w) : anyF P md ops Q 0 l a w := ⟨hr, h⟩
theorem wp_region_fork {id : Nat} {a : Act} {w : World} (hm : P.follows .mixedOrders = true) (h : anyF P .any ops Q ops.size (Array.replicate ops.size false) a w.drew) : (Code.region id ops true).wp P Q a w :=
 wp_region_any hm (anyV_any _ _ _ _ h)
theorem wpOp_run {j : Nat} {o : Oper} {a : Act} {w : World} {K : Act → World → Prop} (ho : ops[j]? = some o) (h : if Region.wanted o (yielded ops a.tmps) = true then o.wp P a w K Q else K (a.put o.dst undef) w) : wpOp P ops Q j K a w := by
 unfold wpOp
 simp only [ho]
 split
 ·rename_i hw; rw [if_pos hw] at h; exact .inl h
 ·rename_i hw; rw [if_neg hw] at h; exact h
theorem preV_pure {T : Act → World → Prop} {i : Nat} {o : Oper} {r : List Nat} {a : Act} {w : World} {v : Value} (hv : ∀ w', (execOp a.eval o).run P w' = .ok (.value v) w') (h : preV P ops r T (a.put o.dst v) w) (ho : ops[i]? = some o) (hg : o.guard = none) : preV P ops (i :: r) T a w := by
 simp only [preV, ho]
 exact ⟨v, .inl ⟨by simp [Region.wanted, hg], fun w' _ => hv w'⟩, h⟩
end
end
section
open Go.RowKit Fmt
theorem made4 (a b c d : Value) : ∀ n, (madeCells #[a, b, c, d] (n * 4)).toList = rng4 (fun _ => [a, b, c, d]) n
 | 0 => by simp [madeCells, rng4]
 | n + 1 => by
  rw [rng4_succ, ← made4 a b c d n]
  unfold madeCells
  simp only [Array.toList_map, Array.toList_range]
  rw [show (n + 1) * 4 = n * 4 + 1 + 1 + 1 + 1 by omega, List.range_succ, List.range_succ, List.range_succ, List.range_succ]
  have h1 : n * 4 % 4 = 0 := by omega
  have h2 : (n * 4 + 1) % 4 = 1 := by omega
  have h3 : (n * 4 + 1 + 1) % 4 = 2 := by omega
  have h4 : (n * 4 + 1 + 1 + 1) % 4 = 3 := by omega
  simp [h1, h2, h3, h4]
theorem run_mk_cache (W : World) : (Instr.makeSlice 161 (.int .i64 64) (.int .i64 64)).run Tryz.prog W = .ok (.slice (some ⟨W.heap.size, 0, none⟩) 64 64) (W.alloc (.cells (rng4 (cpart []) 64).toArray 158)) := by
 obtain ⟨i0, hi, hzz⟩ := Option.map_eq_some_iff.1 (show (Tryz.prog.info? 158).map (fun i => (i.zero, i.size, i.bytes)) = some (some (.agg #[.pointer none, .int .u64 0, .int .u8 0, .bool false]), 4, 24) by kernel_rfl)
 simp only [Prod.mk.injEq] at hzz
 obtain ⟨hz0, hs, hb⟩ := hzz
 have h := run_make (P := Tryz.prog) W 161 158 i0 _ (by kernel_rfl) hi hz0 .i64 .i64 64 64 (by omega) (by omega) (by rw [hb]; omega) (by omega)
 rw [h, hs]
 have e : madeCells (Value.agg #[.pointer none, .int .u64 0, .int .u8 0, .bool false]).cells ((64 : Int).toNat * 4) = (rng4 (cpart []) 64).toArray := by
  apply Array.ext'
  have := made4 (.pointer none) (.int .u64 0) (.int .u8 0) (.bool false) 64
  rw [show (Value.agg #[.pointer none, .int .u64 0, .int .u8 0, .bool false]).cells = #[.pointer none, .int .u64 0, .int .u8 0, .bool false] from rfl, show (64 : Int).toNat * 4 = 64 * 4 from rfl, this]
  exact rng4_congr fun i _ => rfl
 rw [e]; rfl
theorem cr_init {w1 : World} {col1 : Col} {ub cb pb gS : Nat} {Z Y : List Value} (hZ : List.replicate 64 (Value.pointer none) = Z) (hY : rng4 (cpart []) 64 = Y) (h1 : BlkC w1 col1 6 ub [.slice (some ⟨gS, 0, none⟩) 0 64, .slice (some ⟨cb, 0, none⟩) 64 64, .pointer (some ⟨pb, 0, none⟩)] 163) (h2 : BlkC w1 col1 6 cb Y 158)
  (h3 : BlkC w1 col1 6 gS Z 159) (hP : BlkC w1 col1 7 pb [.pointer none] 149) : Cr w1 col1 ub cb pb [] [] := by
 subst hZ hY
 refine ⟨.slice (some ⟨gS, 0, none⟩) 0 64, List.replicate 64 (Value.pointer none), fun _ => 0, [], [], [], [], fun _ => nd0, fun _ => .slice none 0 0, fun _ => none, ⟨h1, h2, fun i u hi hu => by simp at hu, fun i hi h => by simp at h, fun i j _ _ h => by simp at h, ⟨.inr ⟨gS, 64, rfl, h3.blk, by simp, by decide, by simp⟩, fun k hk => by simp [Value.ownBlock] at hk; subst hk; exact h3.col⟩, fun i hi => by simp at hi, by simp⟩,
  Rep.nil _, ⟨List.nodup_nil, fun x hx => by simp at hx, fun x hx => by simp at hx⟩, ⟨hP, fun i x hx => by simp at hx, fun x hx => by simp at hx⟩, fun x hx => by simp at hx, by simp, fun q hq => by simp at hq⟩
set_option maxHeartbeats 1000000 in
set_option maxRecDepth 100000 in
theorem newu_calls {w : World} {col : Col} {pb : Nat} (hP : BlkC w col 7 pb [.pointer none] 149) :
  Calls Tryz.prog 64 #[.pointer (some ⟨pb, 0, none⟩)] w fun e w' => ∃ ub cb col', e = .returned (.pointer (some ⟨ub, 0, none⟩)) ∧ Cr w' col' ub cb pb [] [⟨⟨false, 0, []⟩, none⟩] ∧ Kp crc col w col' w' := by
 have hmk1 : ∀ W : World, (Instr.makeSlice 160 (.int .i64 0) (.int .i64 64)).run Tryz.prog W = .ok (.slice (some ⟨W.heap.size, 0, none⟩) 0 64) (W.alloc (.cells (List.replicate 64 (Value.pointer none)).toArray 159)) := fun W => run_mk 160 159 (.pointer none) 8 (by kernel_rfl) (by kernel_rfl) rfl .i64 .i64 0 64 (by omega) (by omega) (by omega) W
 obtain ⟨Z, hZ⟩ : ∃ Z, Hid (List.replicate 64 (Value.pointer none) = Z) := ⟨_, Lib.hid rfl⟩
 obtain ⟨Y, hY⟩ : ∃ Y, Hid (rng4 (cpart []) 64 = Y) := ⟨_, Lib.hid rfl⟩
 have hmk2 := run_mk_cache
 rw [hZ.out] at hmk1
 rw [hY.out] at hmk2
 have HP := Lib.hid hP
 clear hP
 go_enter Tryz.func64, Tryz.ntmps64
 go_wp2_with fail
 refine wp_region_fork (by kernel_rfl) ?_
 refine anyF_pre (n := 5) (l' := #[false, false, true, false, false, false]) (T := fun a w => anyF Tryz.prog .any _ _ 5 #[false, false, true, false, false, false] a w) (by kernel_rfl) (fun c a d v w h => by cases d <;> exact h) (fun _ _ h => h) [2] _ _ _ (by kernel_rfl) ?_
 apply preV_pure (ho := rfl) (hg := rfl); (intro w'; go_simp; rfl)
 unfold preV
 go_simp
 refine anyF_fork (i := 0) (L := [1]) (by kernel_rfl) ?_
 intro j hj
 have hj' : j = 0 ∨ j = 1 := by simpa using hj
 clear hj
 rcases hj' with rfl | rfl
 ·refine wpOp_run rfl ?_
  go_simp
  refine anyF_fork (i := 1) (L := []) (by kernel_rfl) ?_
  intro j hj
  obtain rfl : j = 1 := by simpa using hj
  refine wpOp_run rfl ?_
  go_simp
  refine anyF_fork (i := 3) (L := []) (by kernel_rfl) ?_
  intro j hj
  obtain rfl : j = 3 := by simpa using hj
  refine wpOp_run rfl ?_
  go_simp
  refine anyF_fork (i := 4) (L := []) (by kernel_rfl) ?_
  intro j hj
  obtain rfl : j = 4 := by simpa using hj
  refine wpOp_run rfl ?_
  go_simp
  refine anyF_fork (i := 5) (L := []) (by kernel_rfl) ?_
  intro j hj
  obtain rfl : j = 5 := by simpa using hj
  refine wpOp_run rfl ?_
  go_simp
  refine anyF_end (by kernel_rfl) ?_
  go_wp2_with fail
  have hF : Fr (fun _ => False) w (((w.alloc (.cells Z.toArray 159)).alloc (.cells Y.toArray 158)).alloc (.cells [.slice (some ⟨w.heap.size, 0, none⟩) 0 64, .slice (some ⟨(w.heap.size + 1), 0, none⟩) 64 64, .pointer (some ⟨pb, 0, none⟩)].toArray 163)).drew := ((((Fr.refl _ w).alloc _).alloc _).alloc _).drew
  have K1 : Kp (fun d => d = 6) col w (paint w.heap.size 6 col) (((w.alloc (.cells Z.toArray 159)).alloc (.cells Y.toArray 158)).alloc (.cells [.slice (some ⟨w.heap.size, 0, none⟩) 0 64, .slice (some ⟨(w.heap.size + 1), 0, none⟩) 64 64, .pointer (some ⟨pb, 0, none⟩)].toArray 163)).drew := Kp.news hF 6 rfl
  have x1 : BlkC (((w.alloc (.cells Z.toArray 159)).alloc (.cells Y.toArray 158)).alloc (.cells [.slice (some ⟨w.heap.size, 0, none⟩) 0 64, .slice (some ⟨(w.heap.size + 1), 0, none⟩) 64 64, .pointer (some ⟨pb, 0, none⟩)].toArray 163)).drew (paint w.heap.size 6 col) 6 w.heap.size Z 159 := ⟨(((Blk.new w _ _).alloc _).alloc _).drew, paint_ge (Nat.le_refl _)⟩
  have x2 : BlkC (((w.alloc (.cells Z.toArray 159)).alloc (.cells Y.toArray 158)).alloc (.cells [.slice (some ⟨w.heap.size, 0, none⟩) 0 64, .slice (some ⟨(w.heap.size + 1), 0, none⟩) 64 64, .pointer (some ⟨pb, 0, none⟩)].toArray 163)).drew (paint w.heap.size 6 col) 6 (w.heap.size + 1) Y 158 := ⟨((Blk.newAt (w.alloc (.cells Z.toArray 159)) _ _ _ (by simp)).alloc _).drew, paint_ge (by omega)⟩
  have x3 : BlkC (((w.alloc (.cells Z.toArray 159)).alloc (.cells Y.toArray 158)).alloc (.cells [.slice (some ⟨w.heap.size, 0, none⟩) 0 64, .slice (some ⟨(w.heap.size + 1), 0, none⟩) 64 64, .pointer (some ⟨pb, 0, none⟩)].toArray 163)).drew (paint w.heap.size 6 col) 6 (w.heap.size + 1 + 1) [.slice (some ⟨w.heap.size, 0, none⟩) 0 64, .slice (some ⟨(w.heap.size + 1), 0, none⟩) 64 64, .pointer (some ⟨pb, 0, none⟩)] 163 := ⟨(Blk.newAt ((w.alloc (.cells Z.toArray 159)).alloc (.cells Y.toArray 158)) _ _ _ (by simp)).drew, paint_ge (by omega)⟩
  have hcr := cr_init hZ.out hY.out x3 x2 x1 (HP.out.kp K1 (by omega))
  have hpe := pushe_calls hcr (by simp) false
  have HE := Lib.hid K1
  clear hF K1 x1 x2 x3 hcr
  refine hpe.mono ?_
  rintro e w9 ⟨rfl, col9, hC9, hK9⟩
  have HG := Lib.hid (And.intro hC9 ((kp6 HE.out).trans hK9))
  clear hC9 hK9 hpe HE
  go_wp2_with fail
  go_ret
  exact ⟨_, _, col9, rfl, HG.out⟩
 ·refine wpOp_run rfl ?_
  go_simp
  refine anyF_fork (i := 0) (L := []) (by kernel_rfl) ?_
  intro j hj
  obtain rfl : j = 0 := by simpa using hj
  refine wpOp_run rfl ?_
  go_simp
  refine anyF_fork (i := 3) (L := []) (by kernel_rfl) ?_
  intro j hj
  obtain rfl : j = 3 := by simpa using hj
  refine wpOp_run rfl ?_
  go_simp
  refine anyF_fork (i := 4) (L := []) (by kernel_rfl) ?_
  intro j hj
  obtain rfl : j = 4 := by simpa using hj
  refine wpOp_run rfl ?_
  go_simp
  refine anyF_fork (i := 5) (L := []) (by kernel_rfl) ?_
  intro j hj
  obtain rfl : j = 5 := by simpa using hj
  refine wpOp_run rfl ?_
  go_simp
  refine anyF_end (by kernel_rfl) ?_
  go_wp2_with fail
  have hF : Fr (fun _ => False) w (((w.alloc (.cells Y.toArray 158)).alloc (.cells Z.toArray 159)).alloc (.cells [.slice (some ⟨(w.heap.size + 1), 0, none⟩) 0 64, .slice (some ⟨w.heap.size, 0, none⟩) 64 64, .pointer (some ⟨pb, 0, none⟩)].toArray 163)).drew := ((((Fr.refl _ w).alloc _).alloc _).alloc _).drew
  have K1 : Kp (fun d => d = 6) col w (paint w.heap.size 6 col) (((w.alloc (.cells Y.toArray 158)).alloc (.cells Z.toArray 159)).alloc (.cells [.slice (some ⟨(w.heap.size + 1), 0, none⟩) 0 64, .slice (some ⟨w.heap.size, 0, none⟩) 64 64, .pointer (some ⟨pb, 0, none⟩)].toArray 163)).drew := Kp.news hF 6 rfl
  have x1 : BlkC (((w.alloc (.cells Y.toArray 158)).alloc (.cells Z.toArray 159)).alloc (.cells [.slice (some ⟨(w.heap.size + 1), 0, none⟩) 0 64, .slice (some ⟨w.heap.size, 0, none⟩) 64 64, .pointer (some ⟨pb, 0, none⟩)].toArray 163)).drew (paint w.heap.size 6 col) 6 w.heap.size Y 158 := ⟨(((Blk.new w _ _).alloc _).alloc _).drew, paint_ge (Nat.le_refl _)⟩
  have x2 : BlkC (((w.alloc (.cells Y.toArray 158)).alloc (.cells Z.toArray 159)).alloc (.cells [.slice (some ⟨(w.heap.size + 1), 0, none⟩) 0 64, .slice (some ⟨w.heap.size, 0, none⟩) 64 64, .pointer (some ⟨pb, 0, none⟩)].toArray 163)).drew (paint w.heap.size 6 col) 6 (w.heap.size + 1) Z 159 := ⟨((Blk.newAt (w.alloc (.cells Y.toArray 158)) _ _ _ (by simp)).alloc _).drew, paint_ge (by omega)⟩
  have x3 : BlkC (((w.alloc (.cells Y.toArray 158)).alloc (.cells Z.toArray 159)).alloc (.cells [.slice (some ⟨(w.heap.size + 1), 0, none⟩) 0 64, .slice (some ⟨w.heap.size, 0, none⟩) 64 64, .pointer (some ⟨pb, 0, none⟩)].toArray 163)).drew (paint w.heap.size 6 col) 6 (w.heap.size + 1 + 1) [.slice (some ⟨(w.heap.size + 1), 0, none⟩) 0 64, .slice (some ⟨w.heap.size, 0, none⟩) 64 64, .pointer (some ⟨pb, 0, none⟩)] 163 := ⟨(Blk.newAt ((w.alloc (.cells Y.toArray 158)).alloc (.cells Z.toArray 159)) _ _ _ (by simp)).drew, paint_ge (by omega)⟩
  have hcr := cr_init hZ.out hY.out x3 x1 x2 (HP.out.kp K1 (by omega))
  have hpe := pushe_calls hcr (by simp) false
  have HE := Lib.hid K1
  clear hF K1 x1 x2 x3 hcr
  refine hpe.mono ?_
  rintro e w9 ⟨rfl, col9, hC9, hK9⟩
  have HG := Lib.hid (And.intro hC9 ((kp6 HE.out).trans hK9))
  clear hC9 hK9 hpe HE
  go_wp2_with fail
  go_ret
  exact ⟨_, _, col9, rfl, HG.out⟩
end
end Go.Proofs.YtmhlnijpimjjaaaGreatDoor
