/- WriteByte of package bufio and of the writer of package vellum. Condition: at most 2^40 bytes. The writer of package vellum: WriteByte, WritePackedUintIn, Flush. Condition: at most 2^40 bytes. The small functions of package vellum's encoder: sizes, distances, short codes. No condition. Masks of bits in plain numbers. Condition: runes below 2^21, bytes below 256. A state in memory, and the encoder with its writer; the last part of a state of one transition, written. Condition: at most 2^40 bytes. A state of one transition, written: encodeStateOne. Condition: at most 2^40 bytes, the transition leads down. The bytes of a state of many transitions, put together from their parts. No condition. -/
import Derived.Test.YtmhlnijpimjjaaaGreatDoorM08
import Derived.Test.YtmhlnijpimjjaaaGreatDoorM02
import Derived.Test.YtmhlnijpimjjaaaGreatDoorRows
set_option linter.unusedSimpArgs false
set_option linter.unusedVariables false
namespace Go.Proofs.YtmhlnijpimjjaaaGreatDoor
section
open Go.RowKit

set_option maxHeartbeats 400000 in
set_option maxRecDepth 100000 in
theorem avail_calls {w : World} {fb : Nat} {e3 : Value} {rb m : Nat} {e0 : Value} (hb : Blk w fb [e0, .slice (some ⟨rb, 0, none⟩) 4096 4096, .int .i64 (m : Int), e3] 232) (hm : m ≤ 4096) :
  Calls Tryz.prog 170 #[.pointer (some ⟨fb, 0, none⟩)] w fun e w' => e = .returned (.int .i64 ((4096 : Int) - m)) ∧ w' = w.drew := by
 have c1 := hb.cell 1 rfl
 have c2 := hb.cell 2 rfl
 have e1 : IntKind.i64.wrap ((4096 : Int) - m) = (4096 : Int) - m := IntWalk.i64_in _ (by omega)
 clear hb
 go_enter Tryz.func170, Tryz.ntmps170
 go_wp2_with fail
 refine wp_region_seqV (fun w' => w'.cell? ⟨fb, 1, none⟩ = some (.slice (some ⟨rb, 0, none⟩) 4096 4096) ∧ w'.cell? ⟨fb, 2, none⟩ = some (.int .i64 (m : Int))) (fun i => true) (fun i => ![3, 8].contains i) (fun i => false) [0, 1, 2, 3, 4, 5, 6, 7, 8, 9, 10] (by kernel_rfl) (by kernel_rfl) (fun c a d v w h => by cases d <;> exact h) ⟨c1, c2⟩ ?_
 iterate 3 (apply seqV_pure (ho := rfl) (hr := rfl) (hg := rfl); (intro w'; go_simp; rfl))
 (apply seqV_read (ho := rfl) (hr := rfl) (hp := rfl) (hg := rfl); (rintro w' ⟨q1, q2⟩; go_simp; rfl))
 iterate 4 (apply seqV_pure (ho := rfl) (hr := rfl) (hg := rfl); (intro w'; go_simp; rfl))
 (apply seqV_read (ho := rfl) (hr := rfl) (hp := rfl) (hg := rfl); (rintro w' ⟨q1, q2⟩; go_simp; rfl))
 iterate 2 (apply seqV_pure (ho := rfl) (hr := rfl) (hg := rfl); (intro w'; go_simp; rfl))
 unfold seqV
 go_simp
 go_wp2_with fail
 go_ret
 exact ⟨rfl, rfl⟩

theorem Bw.drew {w : World} {col : Col} {c fb rb bb : Nat} {bs buf : List Nat} {m : Nat} {ds : List Nat} {v : Value} {full : List Value} (h : Bw w col c fb rb bb bs buf m ds v full) : Bw w.drew col c fb rb bb bs buf m ds v full :=
 ⟨h.kfb.drew, h.krb.drew, h.len, h.mle, h.kbs, h.kbb.fr ((Fr.refl (fun _ => False) w).drew) (fun h => h) (fun _ _ h => h), h.kds, h.cb, h.cv⟩
/-- A byte is laid where there is room. -/
theorem Bw.put {w : World} {col : Col} {c fb rb bb : Nat} {bs buf : List Nat} {m : Nat} {ds : List Nat} {v : Value} {full : List Value} (h : Bw w col c fb rb bb bs buf m ds v full) (hm : m < 4096) (x : Nat) :
  Blk (w.setCell ⟨rb, m, none⟩ (.int .u8 (x : Int))) fb [.nilIface, .slice (some ⟨rb, 0, none⟩) 4096 4096, .int .i64 (m : Int), .iface 56 (.pointer (some ⟨bb, 0, none⟩))] 232 ∧
  Bw ((w.setCell ⟨rb, m, none⟩ (.int .u8 (x : Int))).setCell ⟨fb, 2, none⟩ (.int .i64 ((m + 1 : Nat) : Int))) col c fb rb bb (bs ++ [x]) (buf.set m x) (m + 1) ds v full ∧
  Kp (two c) col w col ((w.setCell ⟨rb, m, none⟩ (.int .u8 (x : Int))).setCell ⟨fb, 2, none⟩ (.int .i64 ((m + 1 : Nat) : Int))) := by
 have hrf : rb ≠ fb := fun e => by have := h.krb.blk; rw [e] at this; exact absurd (this.inj h.kfb.blk).2 (by decide)
 have hrb : rb ≠ bb := fun e => by have := h.krb.col; rw [e, h.cb] at this; omega
 have hnf : fb ≠ bb := fun e => by have := h.kfb.col; rw [e, h.cb] at this; omega
 have h1 := h.kfb.blk.set_ne (a := ⟨rb, m, none⟩) (Ne.symm hrf) (.int .u8 (x : Int))
 have h2 := h.krb.blk.set m (.int .u8 (x : Int))
 rw [u8s_set] at h2
 have hF1 : Fr (fun k => k = rb ∨ k = fb) w (w.setCell ⟨rb, m, none⟩ (.int .u8 (x : Int))) := Fr.setCell (F := fun k => k = rb ∨ k = fb) (p := ⟨rb, m, none⟩) (Fr.refl _ w) (fun _ => .inl rfl) _
 have hF2 := hF1.setCell (p := ⟨fb, 2, none⟩) (fun _ => .inr rfl) (.int .i64 ((m + 1 : Nat) : Int))
 refine ⟨h1, ⟨⟨h1.set 2 _, h.kfb.col⟩, ⟨h2.set_ne (a := ⟨fb, 2, none⟩) hrf _, h.krb.col⟩, by simp [h.len], by omega, ?_, h.kbb.fr hF2 ?_ ?_, h.kds, h.cb, h.cv⟩, ?_⟩
 ·rw [h.kbs, List.append_assoc, List.take_add_one, List.take_set, List.getElem?_set_self (by rw [h.len]; exact hm), List.set_eq_of_length_le (by rw [List.length_take]; omega)]
  rfl
 ·rintro (e | e)
  ·exact hrb e.symm
  ·exact hnf e.symm
 ·rintro k hk (e | e)
  ·have := h.cv k hk; rw [e, h.krb.col] at this; omega
  ·have := h.cv k hk; rw [e, h.kfb.col] at this; omega
 ·refine ⟨hF2.mono (fun k _ e => ?_), fun _ _ => rfl, fun k h1 h2 => ?_⟩
  ·rcases e with rfl | rfl
   ·exact .inl h.krb.col
   ·exact .inl h.kfb.col
  ·simp [World.setCell] at h2; omega

set_option maxHeartbeats 4000000 in
set_option maxRecDepth 100000 in
theorem wbyte_calls {w : World} {col : Col} {c fb rb bb : Nat} {bs : List Nat} (h : BwC w col c fb rb bb bs) (hl : bs.length ≤ 1099511627776) (x : Nat) :
  Calls Tryz.prog 169 #[.pointer (some ⟨fb, 0, none⟩), .int .u8 (x : Int)] w fun e w' => e = .returned .nilIface ∧ ∃ col', Kp (two c) col w col' w' ∧ BwC w' col' c fb rb bb (bs ++ [x]) := by
 obtain ⟨buf, m, ds, v, full, h⟩ := h
 have c0 := h.kfb.blk.cell 0 rfl
 have hav := avail_calls h.kfb.blk h.mle
 have hmle := h.mle
 have e8 : ((m + 1 : Nat) : Int) = (m : Int) + 1 := by omega
 by_cases hm : m < 4096
 ·have e1 : ¬ ((4096 : Int) - m ≤ 0) := by omega
  have HH := Lib.hid h
  clear h
  go_enter Tryz.func169, Tryz.ntmps169
  go_wp2_with (first | (go_at_call 170; refine hav.mono ?_; rintro e w' ⟨rfl, rfl⟩) | fail)
  have h := HH.out
  have hput := h.put hm x
  rw [e8] at hput
  have c1 := h.kfb.blk.cell 1 rfl
  have c2 := h.kfb.blk.cell 2 rfl
  have r1 : w.cell? ⟨rb, m, none⟩ = some (.int .u8 ((buf.getD m 0 : Nat) : Int)) := h.krb.blk.cell m (by rw [u8s_at (x := buf.getD m 0) (by rw [List.getD_eq_getElem?_getD, List.getElem?_eq_getElem (by rw [h.len]; exact hm)]; rfl)])
  have zr := h.krb.blk.frz m
  have p1 := hput.1.cell 1 rfl
  have p2 := hput.1.cell 2 rfl
  have pz := hput.1.frz 2
  have HP := Lib.hid hput
  have e4 : ((m : Int)) < 4096 := by omega
  clear hput h
  refine wp_region_seqV (fun w' => w'.cell? ⟨fb, 1, none⟩ = some (.slice (some ⟨rb, 0, none⟩) 4096 4096) ∧ w'.cell? ⟨fb, 2, none⟩ = some (.int .i64 (m : Int))) (fun i => decide (i ≠ 10)) (fun i => ![3, 7].contains i && decide (i ≠ 10)) (fun i => false) [0, 1, 2, 3, 4, 5, 6, 7, 8, 9, 10] (by kernel_rfl) (by kernel_rfl) (fun c a d v w h => by cases d <;> exact h) ⟨c1, c2⟩ ?_
  iterate 3 (apply seqV_pure (ho := rfl) (hr := rfl) (hg := rfl); (intro w'; go_simp; rfl))
  (apply seqV_read (ho := rfl) (hr := rfl) (hp := rfl) (hg := rfl); (rintro w' ⟨q1, q2⟩; go_simp; rfl))
  iterate 3 (apply seqV_pure (ho := rfl) (hr := rfl) (hg := rfl); (intro w'; go_simp; rfl))
  (apply seqV_read (ho := rfl) (hr := rfl) (hp := rfl) (hg := rfl); (rintro w' ⟨q1, q2⟩; go_simp; rfl))
  iterate 2 (apply seqV_pure (ho := rfl) (hr := rfl) (hg := rfl); (intro w'; go_simp; rfl))
  refine seqV_do rfl rfl fun K hK => ?_
  go_simp
  refine hK _ _ (fun _ => ⟨p1, p2⟩) ?_
  clear hK K
  unfold seqV
  go_simp
  go_wp2_with fail
  go_ret
  obtain ⟨-, hb, hk⟩ := HP.out
  exact ⟨rfl, col, hk.drew.drew, _, _, _, _, _, hb.drew.drew⟩
 ·obtain rfl : m = 4096 := by omega
  have hfl := flush_calls (w := w.drew) ⟨buf, 4096, ds, v, full, h.drew⟩ hl
  have e1 : ((4096 : Int) - ((4096 : Nat) : Int)) ≤ 0 := by omega
  clear h
  go_enter Tryz.func169, Tryz.ntmps169
  go_wp2_with (first | (go_at_call 170; refine hav.mono ?_; rintro e w' ⟨rfl, rfl⟩) | fail)
  refine hfl.mono ?_
  rintro e w1 ⟨rfl, col1, hk1, buf1, v1, full1, h⟩
  have hm : 0 < 4096 := by omega
  clear hfl hav c0
  go_wp2_with fail
  have e8 : ((0 + 1 : Nat) : Int) = 1 := rfl
  have hput := h.put hm x
  rw [e8] at hput
  have c1 := h.kfb.blk.cell 1 rfl
  have c2 := h.kfb.blk.cell 2 rfl
  have r1 : w1.cell? ⟨rb, 0, none⟩ = some (.int .u8 ((buf1.getD 0 0 : Nat) : Int)) := h.krb.blk.cell 0 (by rw [u8s_at (x := buf1.getD 0 0) (by rw [List.getD_eq_getElem?_getD, List.getElem?_eq_getElem (by rw [h.len]; exact hm)]; rfl)])
  have zr := h.krb.blk.frz 0
  have p1 := hput.1.cell 1 rfl
  have p2 := hput.1.cell 2 rfl
  have pz := hput.1.frz 2
  have HP := Lib.hid hput
  clear hput h
  refine wp_region_seqV (fun w' => w'.cell? ⟨fb, 1, none⟩ = some (.slice (some ⟨rb, 0, none⟩) 4096 4096) ∧ w'.cell? ⟨fb, 2, none⟩ = some (.int .i64 0)) (fun i => decide (i ≠ 10)) (fun i => ![3, 7].contains i && decide (i ≠ 10)) (fun i => false) [0, 1, 2, 3, 4, 5, 6, 7, 8, 9, 10] (by kernel_rfl) (by kernel_rfl) (fun c a d v w h => by cases d <;> exact h) ⟨c1, c2⟩ ?_
  iterate 3 (apply seqV_pure (ho := rfl) (hr := rfl) (hg := rfl); (intro w'; go_simp; rfl))
  (apply seqV_read (ho := rfl) (hr := rfl) (hp := rfl) (hg := rfl); (rintro w' ⟨q1, q2⟩; go_simp; rfl))
  iterate 3 (apply seqV_pure (ho := rfl) (hr := rfl) (hg := rfl); (intro w'; go_simp; rfl))
  (apply seqV_read (ho := rfl) (hr := rfl) (hp := rfl) (hg := rfl); (rintro w' ⟨q1, q2⟩; go_simp; rfl))
  iterate 2 (apply seqV_pure (ho := rfl) (hr := rfl) (hg := rfl); (intro w'; go_simp; rfl))
  refine seqV_do rfl rfl fun K hK => ?_
  go_simp
  refine hK _ _ (fun _ => ⟨p1, p2⟩) ?_
  clear hK K
  unfold seqV
  go_simp
  go_wp2_with fail
  go_ret
  obtain ⟨-, hb, hk⟩ := HP.out
  exact ⟨rfl, col1, (Kp.trans ((Kp.refl _ _ _).drew) (hk1.trans hk)).drew, _, _, _, _, _, hb.drew⟩
end
section
open Go.RowKit Fmt

/-- A writer of package vellum that has been given bs; its own block has colour c + 2. -/
structure Wr (w : World) (col : Col) (c wb fb rb bb : Nat) (bs : List Nat) : Prop where
 kwb : BlkC w col (c + 2) wb [.pointer (some ⟨fb, 0, none⟩), .int .i64 (bs.length : Int)] 227
 kbw : BwC w col c fb rb bb bs
def three (c : Nat) : Nat → Prop := fun d => d = c ∨ d = c + 1 ∨ d = c + 2
theorem two_three {c d : Nat} (h : two c d) : three c d := h.elim .inl (fun h => .inr (.inl h))
theorem two_not (c : Nat) : ¬ two c (c + 2) := by unfold two; omega
theorem Wr.kp {w w' : World} {col col' : Col} {C : Nat → Prop} {c wb fb rb bb : Nat} {bs : List Nat} (h : Wr w col c wb fb rb bb bs) (k : Kp C col w col' w') (h1 : ∀ d, three c d → ¬ C d) : Wr w' col' c wb fb rb bb bs :=
 ⟨h.kwb.kp k (h1 _ (.inr (.inr rfl))), h.kbw.kp k (h1 _ (.inl rfl)) (h1 _ (.inr (.inl rfl)))⟩
theorem BwC.drew {w : World} {col : Col} {c fb rb bb : Nat} {bs : List Nat} (h : BwC w col c fb rb bb bs) : BwC w.drew col c fb rb bb bs := by
 obtain ⟨buf, m, ds, v, full, h⟩ := h
 exact ⟨buf, m, ds, v, full, h.drew⟩
theorem Wr.drew {w : World} {col : Col} {c wb fb rb bb : Nat} {bs : List Nat} (h : Wr w col c wb fb rb bb bs) : Wr w.drew col c wb fb rb bb bs := ⟨h.kwb.drew, h.kbw.drew⟩
/-- A block of another colour is written. -/
theorem kp_set {w : World} {col : Col} {d b : Nat} (hc : col b = d) (i : Nat) (x : Value) : Kp (fun e => e = d) col w col (w.setCell ⟨b, i, none⟩ x) := (Kp.refl _ col w).set (p := ⟨b, i, none⟩) x hc
/-- The counter goes on. -/
theorem Wr.step {w w1 : World} {col col1 : Col} {c wb fb rb bb : Nat} {bs bs' : List Nat} (h : Wr w col c wb fb rb bb bs) (k : Kp (two c) col w col1 w1) (hb : BwC w1 col1 c fb rb bb bs') (n : Int) (hn : n = (bs'.length : Int)) :
  Wr (w1.setCell ⟨wb, 1, none⟩ (.int .i64 n)) col1 c wb fb rb bb bs' ∧ Kp (three c) col w col1 (w1.setCell ⟨wb, 1, none⟩ (.int .i64 n)) := by
 subst hn
 have hw := h.kwb.kp k (two_not c)
 have hs := kp_set hw.col 1 (.int .i64 (bs'.length : Int)) (w := w1)
 refine ⟨⟨⟨hw.blk.set 1 _, hw.col⟩, hb.kp hs (by omega) (by omega)⟩, (k.mono (fun _ h => two_three h)).trans (hs.mono (fun d hd => .inr (.inr hd)))⟩

set_option maxHeartbeats 1000000 in
set_option maxRecDepth 100000 in
theorem vwbyte_calls {w : World} {col : Col} {c wb fb rb bb : Nat} {bs : List Nat} (h : Wr w col c wb fb rb bb bs) (hl : bs.length ≤ 1099511627776) (x : Nat) :
  Calls Tryz.prog 164 #[.pointer (some ⟨wb, 0, none⟩), .int .u8 (x : Int)] w fun e w' => e = .returned .nilIface ∧ ∃ col', Kp (three c) col w col' w' ∧ Wr w' col' c wb fb rb bb (bs ++ [x]) := by
 have hb := wbyte_calls h.kbw hl x
 have c0 := h.kwb.blk.cell 0 rfl
 have HH := Lib.hid h
 clear h
 go_enter Tryz.func164, Tryz.ntmps164
 go_wp2_with fail
 refine hb.mono ?_
 rintro e w1 ⟨rfl, col1, hk, hbw⟩
 have hw1 := HH.out.kwb.kp hk (two_not c)
 have q0 := hw1.blk.cell 0 rfl
 have q1 := hw1.blk.cell 1 rfl
 have z1 := hw1.blk.frz 1
 have hst := HH.out.step hk hbw ((bs.length : Int) + 1) (by simp)
 have HE := Lib.hid hst
 have e1 : IntKind.i64.wrap ((bs.length : Int) + 1) = (bs.length : Int) + 1 := IntWalk.i64_in _ (by omega)
 clear hst hw1 hk hbw hb
 go_wp2_with fail
 go_ret
 exact ⟨rfl, col1, HE.out.2, HE.out.1⟩
set_option maxHeartbeats 1000000 in
set_option maxRecDepth 100000 in
theorem vwflush_calls {w : World} {col : Col} {c wb fb rb bb : Nat} {bs : List Nat} (h : Wr w col c wb fb rb bb bs) (hl : bs.length ≤ 1099511627776) :
  Calls Tryz.prog 160 #[.pointer (some ⟨wb, 0, none⟩)] w fun e w' => e = .returned .nilIface ∧ ∃ col', Kp (three c) col w col' w' ∧ ∃ buf v full, Bw w' col' c fb rb bb bs buf 0 bs v full := by
 have hb := flush_calls h.kbw hl
 have c0 := h.kwb.blk.cell 0 rfl
 clear h
 go_enter Tryz.func160, Tryz.ntmps160
 go_wp2_with fail
 refine hb.mono ?_
 rintro e w1 ⟨rfl, col1, hk, hbw⟩
 clear hb
 go_wp2_with fail
 go_ret
 exact ⟨rfl, col1, hk.mono (fun _ h => two_three h), hbw⟩

/-- A number's bytes, one by one. -/
theorem pk_snoc (v : Nat) : ∀ n, pk v (n + 1) = pk v n ++ [v / 256 ^ n % 256] := by
 intro n
 induction n generalizing v with
 | zero => simp [pk]
 | succ n ih =>
  rw [show pk v (n + 1 + 1) = v % 256 :: pk (v / 256) (n + 1) from rfl, ih]
  simp only [pk, List.cons_append]
  rw [Nat.pow_succ, Nat.div_div_eq_div_mul, Nat.mul_comm 256]

set_option maxHeartbeats 4000000 in
set_option maxRecDepth 100000 in
theorem wpack_calls {w : World} {col : Col} {c wb fb rb bb : Nat} {bs : List Nat} (h : Wr w col c wb fb rb bb bs) (v n : Nat) (hv : v < 18446744073709551616) (hn : n ≤ 8) (hl : bs.length ≤ 1099511627000) :
  Calls Tryz.prog 163 #[.pointer (some ⟨wb, 0, none⟩), .int .u64 (v : Int), .int .i64 (n : Int)] w fun e w' => e = .returned .nilIface ∧ ∃ col', Kp (three c) col w col' w' ∧ Wr w' col' c wb fb rb bb (bs ++ pk v n) := by
 have e1 : IntKind.i64.wrap ((n : Int) * 8) = (n : Int) * 8 := IntWalk.i64_in _ (by omega)
 have e2 : IntKind.u64.wrap ((n : Int) * 8) = (n : Int) * 8 := IntWalk.u64_in _ (by omega)
 have HH := Lib.hid h
 clear h
 go_enter Tryz.func163, Tryz.ntmps163
 go_wp2_with fail
 go_loopg [7] (n + 1) (fun g i wr => ∃ k : Nat, k ≤ n ∧ g = n - k + 1 ∧ i = .int .u64 ((8 * k : Nat) : Int) ∧ ∃ col', Kp (three c) col w col' wr ∧ Wr wr col' c wb fb rb bb (bs ++ pk v k))
 case atStart => exact ⟨0, by omega, by omega, rfl, col, Kp.refl _ _ _, by simpa [pk] using HH.out⟩
 case round =>
  obtain ⟨k, hk, rfl, rfl, col1, hkp, hw⟩ := hrel
  by_cases hlt : k < n
  ·have hput := vwbyte_calls hw (by rw [List.length_append, pk_len]; omega) (v / 256 ^ k % 256)
   rw [List.append_assoc, ← pk_snoc] at hput
   have e3 : ((8 * k : Nat) : Int) < (n : Int) * 8 := by omega
   have e4 : IntKind.u64.wrap (((8 * k : Nat) : Int) + 8) = ((8 * (k + 1) : Nat) : Int) := by rw [IntWalk.u64_in _ (by omega)]; omega
   have hk8 : k < 8 := by omega
   have HK := Lib.hid hkp
   clear hw hkp
   rcases (by omega : k = 0 ∨ k = 1 ∨ k = 2 ∨ k = 3 ∨ k = 4 ∨ k = 5 ∨ k = 6 ∨ k = 7) with rfl | rfl | rfl | rfl | rfl | rfl | rfl | rfl
   ·have ek : ((v / 256 ^ 0 % 256 : Nat) : Int) = (v : Int) % 256 := by
     rw [show (256 : Nat) ^ 0 = 1 from rfl]; omega
    rw [ek] at hput
    go_wp2_with fail
    refine hput.mono ?_
    rintro e w2 ⟨rfl, col2, hk2, hw2⟩
    have HE := Lib.hid (And.intro (HK.out.trans hk2) hw2)
    clear hput hk2 hw2
    go_wp2_with fail
    go_roundg (n - (0 + 1) + 1)
    case measure => omega
    case rel => exact ⟨0 + 1, by omega, rfl, by simp, col2, HE.out.1, HE.out.2⟩
   ·have ek : ((v / 256 ^ 1 % 256 : Nat) : Int) = (v : Int) / 256 % 256 := by
     rw [show (256 : Nat) ^ 1 = 256 from rfl]; omega
    rw [ek] at hput
    go_wp2_with fail
    refine hput.mono ?_
    rintro e w2 ⟨rfl, col2, hk2, hw2⟩
    have HE := Lib.hid (And.intro (HK.out.trans hk2) hw2)
    clear hput hk2 hw2
    go_wp2_with fail
    go_roundg (n - (1 + 1) + 1)
    case measure => omega
    case rel => exact ⟨1 + 1, by omega, rfl, by simp, col2, HE.out.1, HE.out.2⟩
   ·have ek : ((v / 256 ^ 2 % 256 : Nat) : Int) = (v : Int) / 65536 % 256 := by
     rw [show (256 : Nat) ^ 2 = 65536 from rfl]; omega
    rw [ek] at hput
    go_wp2_with fail
    refine hput.mono ?_
    rintro e w2 ⟨rfl, col2, hk2, hw2⟩
    have HE := Lib.hid (And.intro (HK.out.trans hk2) hw2)
    clear hput hk2 hw2
    go_wp2_with fail
    go_roundg (n - (2 + 1) + 1)
    case measure => omega
    case rel => exact ⟨2 + 1, by omega, rfl, by simp, col2, HE.out.1, HE.out.2⟩
   ·have ek : ((v / 256 ^ 3 % 256 : Nat) : Int) = (v : Int) / 16777216 % 256 := by
     rw [show (256 : Nat) ^ 3 = 16777216 from rfl]; omega
    rw [ek] at hput
    go_wp2_with fail
    refine hput.mono ?_
    rintro e w2 ⟨rfl, col2, hk2, hw2⟩
    have HE := Lib.hid (And.intro (HK.out.trans hk2) hw2)
    clear hput hk2 hw2
    go_wp2_with fail
    go_roundg (n - (3 + 1) + 1)
    case measure => omega
    case rel => exact ⟨3 + 1, by omega, rfl, by simp, col2, HE.out.1, HE.out.2⟩
   ·have ek : ((v / 256 ^ 4 % 256 : Nat) : Int) = (v : Int) / 4294967296 % 256 := by
     rw [show (256 : Nat) ^ 4 = 4294967296 from rfl]; omega
    rw [ek] at hput
    go_wp2_with fail
    refine hput.mono ?_
    rintro e w2 ⟨rfl, col2, hk2, hw2⟩
    have HE := Lib.hid (And.intro (HK.out.trans hk2) hw2)
    clear hput hk2 hw2
    go_wp2_with fail
    go_roundg (n - (4 + 1) + 1)
    case measure => omega
    case rel => exact ⟨4 + 1, by omega, rfl, by simp, col2, HE.out.1, HE.out.2⟩
   ·have ek : ((v / 256 ^ 5 % 256 : Nat) : Int) = (v : Int) / 1099511627776 % 256 := by
     rw [show (256 : Nat) ^ 5 = 1099511627776 from rfl]; omega
    rw [ek] at hput
    go_wp2_with fail
    refine hput.mono ?_
    rintro e w2 ⟨rfl, col2, hk2, hw2⟩
    have HE := Lib.hid (And.intro (HK.out.trans hk2) hw2)
    clear hput hk2 hw2
    go_wp2_with fail
    go_roundg (n - (5 + 1) + 1)
    case measure => omega
    case rel => exact ⟨5 + 1, by omega, rfl, by simp, col2, HE.out.1, HE.out.2⟩
   ·have ek : ((v / 256 ^ 6 % 256 : Nat) : Int) = (v : Int) / 281474976710656 % 256 := by
     rw [show (256 : Nat) ^ 6 = 281474976710656 from rfl]; omega
    rw [ek] at hput
    go_wp2_with fail
    refine hput.mono ?_
    rintro e w2 ⟨rfl, col2, hk2, hw2⟩
    have HE := Lib.hid (And.intro (HK.out.trans hk2) hw2)
    clear hput hk2 hw2
    go_wp2_with fail
    go_roundg (n - (6 + 1) + 1)
    case measure => omega
    case rel => exact ⟨6 + 1, by omega, rfl, by simp, col2, HE.out.1, HE.out.2⟩
   ·have ek : ((v / 256 ^ 7 % 256 : Nat) : Int) = (v : Int) / 72057594037927936 := by
     rw [show (256 : Nat) ^ 7 = 72057594037927936 from rfl]; omega
    rw [ek] at hput
    go_wp2_with fail
    refine hput.mono ?_
    rintro e w2 ⟨rfl, col2, hk2, hw2⟩
    have HE := Lib.hid (And.intro (HK.out.trans hk2) hw2)
    clear hput hk2 hw2
    go_wp2_with fail
    go_roundg (n - (7 + 1) + 1)
    case measure => omega
    case rel => exact ⟨7 + 1, by omega, rfl, by simp, col2, HE.out.1, HE.out.2⟩
  ·obtain rfl : k = n := by omega
   have e3 : ¬ (((8 * k : Nat) : Int) < (k : Int) * 8) := by omega
   have HK := Lib.hid (And.intro hkp hw)
   clear hkp hw
   go_wp2_with fail
   go_ret
   exact ⟨rfl, col1, HK.out.1, HK.out.2⟩
end
section
open Go.RowKit Fmt

/-- The table of short codes less one, by byte, and the table the other way. -/
def litN : DataW Unit → Nat
 | .lit (.int _ x) => x.toNat
 | _ => 0
def rowN : DataW Unit → List Nat
 | .slice es _ => es.map litN
 | _ => []
def inL : List Nat := rowN Rows.laid_pub_traverser_pub_vellum_commonInputs
def invL : List Nat := rowN Rows.laid_pub_traverser_pub_vellum_commonInputsInv
def codesN (i : Nat) : Nat := if i < 256 then (if 63 < (inL.getD i 0 + 1) % 256 then 0 else (inL.getD i 0 + 1) % 256) else 0
def backN (k : Nat) : Nat := invL.getD (k - 1) 0
theorem codes_inv : ∀ i, i < 256 → codesN i ≠ 0 → backN (codesN i) = i := by decide +kernel
theorem inL_lt : ∀ i, i < 256 → inL.getD i 0 < 256 := by decide +kernel
theorem codesOk : Codes codesN backN := by
 refine ⟨fun i => ?_, fun i h => ?_⟩
 ·unfold codesN
  split
  ·split <;> omega
  ·omega
 ·refine codes_inv i ?_ h
  unfold codesN at h
  by_cases hi : i < 256
  ·exact hi
  ·simp [hi] at h
/-- A table of 256 bytes in a variable; its blocks have colour 0. -/
structure TabC (w : World) (col : Col) (g : Nat) (L : List Nat) : Prop where
 ex : ∃ b o c, w.cell? ⟨g, 0, none⟩ = some (.slice (some ⟨b, o, none⟩) 256 c) ∧ 256 ≤ c ∧ (∀ i, i < 256 → w.cell? ⟨b, o + i, none⟩ = some (.int .u8 ((L.getD i 0 : Nat) : Int))) ∧ col g = 0 ∧ col b = 0
theorem TabC.kp {w w' : World} {col col' : Col} {C : Nat → Prop} {g : Nat} {L : List Nat} (h : TabC w col g L) (k : Kp C col w col' w') (h0 : ¬ C 0) : TabC w' col' g L := by
 obtain ⟨b, o, c, h1, h2, h3, h4, h5⟩ := h.ex
 have hg := World.block_lt_of_cell? w _ h1
 have hb := World.block_lt_of_cell? w _ (h3 0 (by omega))
 exact ⟨b, o, c, k.fr.cell h1 (by rw [h4]; exact h0), h2, fun i hi => k.fr.cell (h3 i hi) (by rw [h5]; exact h0), (k.same g hg).trans h4, (k.same b hb).trans h5⟩
/-- Both tables. -/
structure Tabs (w : World) (col : Col) : Prop where
 inp : TabC w col 2 inL
 inv : TabC w col 3 invL
theorem Tabs.kp {w w' : World} {col col' : Col} {C : Nat → Prop} (h : Tabs w col) (k : Kp C col w col' w') (h0 : ¬ C 0) : Tabs w' col' := ⟨h.inp.kp k h0, h.inv.kp k h0⟩

set_option maxRecDepth 100000 in
theorem encCommon_calls {w : World} {col : Col} (h : Tabs w col) {i : Nat} (hi : i < 256) : Calls Tryz.prog 56 #[.int .u8 (i : Int)] w fun e w' => e = .returned (.int .u8 (codesN i : Int)) ∧ w' = w := by
 obtain ⟨b, o, c, h1, h2, h3, -, -⟩ := h.inp.ex
 have hc := h3 i hi
 have hx := inL_lt i hi
 have e0 : codesN i = if 63 < (inL.getD i 0 + 1) % 256 then 0 else (inL.getD i 0 + 1) % 256 := by unfold codesN; rw [if_pos hi]
 have E := Lib.hid e0
 clear h3 e0 h
 generalize inL.getD i 0 = x at *
 have e1 : (i : Int) < 256 := by omega
 by_cases hx2 : x = 255
 ·subst hx2
  go_enter Tryz.func56, Tryz.ntmps56
  go_wp2_with fail
  go_ret
  refine ⟨?_, rfl⟩
  rw [E.out]; rfl
 ·have e3 : IntKind.i64.wrap ((x : Int) + 1) = (x : Int) + 1 := IntWalk.i64_in _ (by omega)
  have e4 : ((x : Int) + 1).tmod 256 = (x : Int) + 1 := by rw [Int.tmod_eq_emod_of_nonneg (by omega)]; omega
  by_cases hx3 : 63 < x + 1
  ·have e5 : (63 : Int) < (x : Int) + 1 := by omega
   go_enter Tryz.func56, Tryz.ntmps56
   go_wp2_with fail
   go_ret
   refine ⟨?_, rfl⟩
   rw [E.out, if_pos (by omega)]; rfl
  ·have e5 : ¬ ((63 : Int) < (x : Int) + 1) := by omega
   go_enter Tryz.func56, Tryz.ntmps56
   go_wp2_with fail
   go_ret
   refine ⟨?_, rfl⟩
   rw [E.out, if_neg (by omega), Nat.mod_eq_of_lt (by omega)]
   simp
set_option maxRecDepth 100000 in
theorem decCommon_calls {w : World} {col : Col} (h : Tabs w col) {k : Nat} (h1 : 1 ≤ k) (hk : k < 256) : Calls Tryz.prog 57 #[.int .u8 (k : Int)] w fun e w' => e = .returned (.int .u8 (backN k : Int)) ∧ w' = w := by
 obtain ⟨b, o, c, g1, g2, g3, -, -⟩ := h.inv.ex
 have hc := g3 (k - 1) (by omega)
 have e0 : backN k = invL.getD (k - 1) 0 := rfl
 have E := Lib.hid e0
 clear g3 e0 h
 generalize invL.getD (k - 1) 0 = x at *
 have e1 : IntKind.u8.wrap ((k : Int) - 1) = ((k - 1 : Nat) : Int) := by rw [IntKind.wrap_u8]; omega
 have e2 : ((k - 1 : Nat) : Int) < 256 := by omega
 generalize k - 1 = j at *
 go_enter Tryz.func57, Tryz.ntmps57
 go_wp2_with fail
 go_ret
 exact ⟨by rw [E.out]; rfl, rfl⟩
set_option maxRecDepth 100000 in
theorem psz_calls (w : World) (v : Nat) (hv : v < 18446744073709551616) : Calls Tryz.prog 161 #[.int .u64 (v : Int)] w fun e w' => e = .returned (.int .i64 (psz v : Int)) ∧ w' = w := by
 rcases (by omega : v < 256 ∨ 256 ≤ v ∧ v < 65536 ∨ 65536 ≤ v ∧ v < 16777216 ∨ 16777216 ≤ v ∧ v < 4294967296 ∨ 4294967296 ≤ v ∧ v < 1099511627776 ∨ 1099511627776 ≤ v ∧ v < 281474976710656 ∨ 281474976710656 ≤ v ∧ v < 72057594037927936 ∨ 72057594037927936 ≤ v) with h | h | h | h | h | h | h | h
 ·have E : psz v = 1 := by unfold psz; simp only [Nat.reducePow]; (repeat' split) <;> omega
  rw [E]
  have a1 : (v : Int) < 256 := by omega
  clear hv h E
  generalize (v : Int) = z at *
  go_enter Tryz.func161, Tryz.ntmps161
  go_wp2_with fail
  go_ret
  exact ⟨rfl, rfl⟩
 ·have E : psz v = 2 := by unfold psz; simp only [Nat.reducePow]; (repeat' split) <;> omega
  rw [E]
  have a1 : ¬ ((v : Int) < 256) := by omega
  have a2 : (v : Int) < 65536 := by omega
  clear hv h E
  generalize (v : Int) = z at *
  go_enter Tryz.func161, Tryz.ntmps161
  go_wp2_with fail
  go_ret
  exact ⟨rfl, rfl⟩
 ·have E : psz v = 3 := by unfold psz; simp only [Nat.reducePow]; (repeat' split) <;> omega
  rw [E]
  have a1 : ¬ ((v : Int) < 256) := by omega
  have a2 : ¬ ((v : Int) < 65536) := by omega
  have a3 : (v : Int) < 16777216 := by omega
  clear hv h E
  generalize (v : Int) = z at *
  go_enter Tryz.func161, Tryz.ntmps161
  go_wp2_with fail
  go_ret
  exact ⟨rfl, rfl⟩
 ·have E : psz v = 4 := by unfold psz; simp only [Nat.reducePow]; (repeat' split) <;> omega
  rw [E]
  have a1 : ¬ ((v : Int) < 256) := by omega
  have a2 : ¬ ((v : Int) < 65536) := by omega
  have a3 : ¬ ((v : Int) < 16777216) := by omega
  have a4 : (v : Int) < 4294967296 := by omega
  clear hv h E
  generalize (v : Int) = z at *
  go_enter Tryz.func161, Tryz.ntmps161
  go_wp2_with fail
  go_ret
  exact ⟨rfl, rfl⟩
 ·have E : psz v = 5 := by unfold psz; simp only [Nat.reducePow]; (repeat' split) <;> omega
  rw [E]
  have a1 : ¬ ((v : Int) < 256) := by omega
  have a2 : ¬ ((v : Int) < 65536) := by omega
  have a3 : ¬ ((v : Int) < 16777216) := by omega
  have a4 : ¬ ((v : Int) < 4294967296) := by omega
  have a5 : (v : Int) < 1099511627776 := by omega
  clear hv h E
  generalize (v : Int) = z at *
  go_enter Tryz.func161, Tryz.ntmps161
  go_wp2_with fail
  go_ret
  exact ⟨rfl, rfl⟩
 ·have E : psz v = 6 := by unfold psz; simp only [Nat.reducePow]; (repeat' split) <;> omega
  rw [E]
  have a1 : ¬ ((v : Int) < 256) := by omega
  have a2 : ¬ ((v : Int) < 65536) := by omega
  have a3 : ¬ ((v : Int) < 16777216) := by omega
  have a4 : ¬ ((v : Int) < 4294967296) := by omega
  have a5 : ¬ ((v : Int) < 1099511627776) := by omega
  have a6 : (v : Int) < 281474976710656 := by omega
  clear hv h E
  generalize (v : Int) = z at *
  go_enter Tryz.func161, Tryz.ntmps161
  go_wp2_with fail
  go_ret
  exact ⟨rfl, rfl⟩
 ·have E : psz v = 7 := by unfold psz; simp only [Nat.reducePow]; (repeat' split) <;> omega
  rw [E]
  have a1 : ¬ ((v : Int) < 256) := by omega
  have a2 : ¬ ((v : Int) < 65536) := by omega
  have a3 : ¬ ((v : Int) < 16777216) := by omega
  have a4 : ¬ ((v : Int) < 4294967296) := by omega
  have a5 : ¬ ((v : Int) < 1099511627776) := by omega
  have a6 : ¬ ((v : Int) < 281474976710656) := by omega
  have a7 : (v : Int) < 72057594037927936 := by omega
  clear hv h E
  generalize (v : Int) = z at *
  go_enter Tryz.func161, Tryz.ntmps161
  go_wp2_with fail
  go_ret
  exact ⟨rfl, rfl⟩
 ·have E : psz v = 8 := by unfold psz; simp only [Nat.reducePow]; (repeat' split) <;> omega
  rw [E]
  have a1 : ¬ ((v : Int) < 256) := by omega
  have a2 : ¬ ((v : Int) < 65536) := by omega
  have a3 : ¬ ((v : Int) < 16777216) := by omega
  have a4 : ¬ ((v : Int) < 4294967296) := by omega
  have a5 : ¬ ((v : Int) < 1099511627776) := by omega
  have a6 : ¬ ((v : Int) < 281474976710656) := by omega
  have a7 : ¬ ((v : Int) < 72057594037927936) := by omega
  clear hv h E
  generalize (v : Int) = z at *
  go_enter Tryz.func161, Tryz.ntmps161
  go_wp2_with fail
  go_ret
  exact ⟨rfl, rfl⟩
theorem delta_calls (w : World) (s a : Nat) (hs : s < 18446744073709551616) (ha : a ≤ s) : Calls Tryz.prog 162 #[.int .u64 (s : Int), .int .u64 (a : Int)] w fun e w' => e = .returned (.int .u64 (delta s a : Int)) ∧ w' = w := by
 have E : Hid (delta s a = if a = 0 then 0 else s - a) := Lib.hid rfl
 by_cases h0 : a = 0
 ·subst h0
  go_enter Tryz.func162, Tryz.ntmps162
  go_wp2_with fail
  go_ret
  exact ⟨by rw [E.out]; rfl, rfl⟩
 ·have e1 : ¬ ((a : Int) = 0) := by omega
  have e2 : IntKind.u64.wrap ((s : Int) - (a : Int)) = ((s - a : Nat) : Int) := by rw [IntWalk.u64_in _ (by omega)]; omega
  generalize s - a = d at *
  go_enter Tryz.func162, Tryz.ntmps162
  go_wp2_with fail
  go_ret
  exact ⟨by rw [E.out, if_neg h0]; rfl, rfl⟩
theorem pks_calls (w : World) (t u : Nat) (ht : t ≤ 8) (hu : u ≤ 8) : Calls Tryz.prog 165 #[.int .i64 (t : Int), .int .i64 (u : Int)] w fun e w' => e = .returned (.int .u8 ((t * 16 + u : Nat) : Int)) ∧ w' = w := by
 have key : ∀ t u : Nat, t < 9 → u < 9 → Calls Tryz.prog 165 #[.int .i64 (t : Int), .int .i64 (u : Int)] w fun e w' => e = .returned (.int .u8 ((t * 16 + u : Nat) : Int)) ∧ w' = w := by
  intro t u ht hu
  rcases (by omega : t = 0 ∨ t = 1 ∨ t = 2 ∨ t = 3 ∨ t = 4 ∨ t = 5 ∨ t = 6 ∨ t = 7 ∨ t = 8) with rfl | rfl | rfl | rfl | rfl | rfl | rfl | rfl | rfl
  all_goals (rcases (by omega : u = 0 ∨ u = 1 ∨ u = 2 ∨ u = 3 ∨ u = 4 ∨ u = 5 ∨ u = 6 ∨ u = 7 ∨ u = 8) with rfl | rfl | rfl | rfl | rfl | rfl | rfl | rfl | rfl)
  all_goals
   go_enter Tryz.func165, Tryz.ntmps165
   go_wp2_with fail
   go_ret
   exact ⟨rfl, rfl⟩
 exact key t u (by omega) (by omega)
theorem ntr_calls (w : World) (n : Nat) (hn : n ≤ 256) : Calls Tryz.prog 166 #[.int .i64 (n : Int)] w fun e w' => e = .returned (.int .u8 ((if 63 < n then 0 else n : Nat) : Int)) ∧ w' = w := by
 by_cases h : 63 < n
 ·have e1 : ¬ ((n : Int) ≤ 63) := by omega
  rw [if_pos h]
  go_enter Tryz.func166, Tryz.ntmps166
  go_wp2_with fail
  go_ret
  exact ⟨rfl, rfl⟩
 ·have e1 : (n : Int) ≤ 63 := by omega
  rw [if_neg h]
  go_enter Tryz.func166, Tryz.ntmps166
  go_wp2_with fail
  go_ret
  exact ⟨rfl, rfl⟩
end
section
open Go.RowKit

theorem bv_nat {w : Nat} {a : Nat} (h : a < 2 ^ w) : (BitVec.ofInt w (a : Int)).toNat = a := by
 rw [BitVec.toNat_ofInt]
 have : ((a : Int) % (2 ^ w : Nat)).toNat = a % 2 ^ w := by rw [← Int.natCast_emod]; rfl
 rw [this, Nat.mod_eq_of_lt h]

theorem u8_wrap {n : Nat} (h : n < 256) : IntKind.u8.wrap (n : Int) = (n : Int) := by rw [IntKind.wrap_u8]; omega

theorem or_u8 {k q x : Nat} (hx : x < 2 ^ k) (h : 2 ^ k * q + x < 256) : bits .or .u8 ((2 ^ k * q : Nat) : Int) (x : Int) = ((2 ^ k * q + x : Nat) : Int) := by
 have h1 : (BitVec.ofInt 8 ((2 ^ k * q : Nat) : Int)).toNat = 2 ^ k * q := bv_nat (by omega)
 have h2 : (BitVec.ofInt 8 (x : Int)).toNat = x := bv_nat (by omega)
 show IntKind.u8.wrap (((BitVec.ofInt 8 ((2 ^ k * q : Nat) : Int)) ||| (BitVec.ofInt 8 (x : Int))).toNat : Int) = _
 rw [BitVec.toNat_or, h1, h2, ← Nat.two_pow_add_eq_or_of_lt hx]
 exact u8_wrap h
theorem and_u8 {x : Nat} (hx : x < 256) : bits .and .u8 (x : Int) 63 = ((x % 64 : Nat) : Int) := by
 have h1 : (BitVec.ofInt 8 (x : Int)).toNat = x := bv_nat (by omega)
 show IntKind.u8.wrap (((BitVec.ofInt 8 (x : Int)) &&& (BitVec.ofInt 8 63)).toNat : Int) = _
 rw [BitVec.toNat_and, h1, show (BitVec.ofInt 8 63).toNat = 2 ^ 6 - 1 from rfl, Nat.and_two_pow_sub_one_eq_mod]
 exact u8_wrap (by omega)
end
section
open Go.RowKit Fmt

def arcCells (t : Nat × Nat × Nat) : List Value := [.int .u64 (t.2.1 : Int), .int .i64 (t.2.2 : Int), .int .u8 (t.1 : Int)]
def ptrN (y : Option Nat) : Value := .pointer (y.map fun y => ⟨y, 0, none⟩)
theorem flat3_at {α : Type} (f : α → List Value) (k : Nat) (hf : ∀ a, (f a).length = k) : ∀ (l : List α) (i j : Nat) (a : α) (v : Value), l[i]? = some a → (f a)[j]? = some v → (l.flatMap f)[k * i + j]? = some v
 | [], i, j, a, v, h, _ => by simp at h
 | b :: l, 0, j, a, v, h, hv => by
  simp only [List.getElem?_cons_zero, Option.some.injEq] at h
  subst h
  have hj := (List.getElem?_eq_some_iff.1 hv).1
  rw [List.flatMap_cons, Nat.mul_zero, Nat.zero_add, List.getElem?_append_left hj]; exact hv
 | b :: l, i + 1, j, a, v, h, hv => by
  simp only [List.getElem?_cons_succ] at h
  rw [List.flatMap_cons, List.getElem?_append_right (by rw [hf, Nat.mul_add]; omega), hf, show k * (i + 1) + j - k = k * i + j by rw [Nat.mul_add]; omega]
  exact flat3_at f k hf l i j a v h hv
/-- A builderNode: its own block has colour 4, its row of transitions colour 5. -/
structure NodeC (w : World) (col : Col) (x : Nat) (nd : Nd) (tv : Value) (nx : Option Nat) : Prop where
 blk : BlkC w col 4 x [.int .u64 (nd.fout : Int), tv, .bool nd.fin, ptrN nx] 156
 row : OwnC w col 5 196 3 tv nd.arcs.length (nd.arcs.flatMap arcCells)
theorem NodeC.kp {w w' : World} {col col' : Col} {C : Nat → Prop} {x : Nat} {nd : Nd} {tv : Value} {nx : Option Nat} (h : NodeC w col x nd tv nx) (k : Kp C col w col' w') (h4 : ¬ C 4) (h5 : ¬ C 5) : NodeC w' col' x nd tv nx := ⟨h.blk.kp k h4, h.row.kp k h5⟩
theorem NodeC.drew {w : World} {col : Col} {x : Nat} {nd : Nd} {tv : Value} {nx : Option Nat} (h : NodeC w col x nd tv nx) : NodeC w.drew col x nd tv nx := ⟨h.blk.drew, h.row.drew⟩
/-- The slice of transitions. -/
theorem NodeC.slc {w : World} {col : Col} {x : Nat} {nd : Nd} {tv : Value} {nx : Option Nat} (h : NodeC w col x nd tv nx) : ∃ A c, tv = .slice A nd.arcs.length c ∧ nd.arcs.length ≤ c ∧ c ≤ maxLen := by
 rcases h.row.own.2 with ⟨rfl, h0⟩ | ⟨g, cap, cur, rfl, _, _, h1, h2, _⟩
 ·exact ⟨none, 0, by rw [h0], by omega, by decide⟩
 ·exact ⟨_, cap, rfl, h1, h2⟩
/-- A transition. -/
theorem NodeC.arc {w : World} {col : Col} {x : Nat} {nd : Nd} {tv : Value} {nx : Option Nat} (h : NodeC w col x nd tv nx) {i : Nat} {t : Nat × Nat × Nat} (hi : nd.arcs[i]? = some t) :
  ∃ g c, tv = .slice (some ⟨g, 0, none⟩) nd.arcs.length c ∧ nd.arcs.length ≤ c ∧ c ≤ maxLen ∧ w.cell? ⟨g, 3 * i, none⟩ = some (.int .u64 (t.2.1 : Int)) ∧ w.cell? ⟨g, 3 * i + 1, none⟩ = some (.int .i64 (t.2.2 : Int)) ∧ w.cell? ⟨g, 3 * i + 2, none⟩ = some (.int .u8 (t.1 : Int)) ∧ col g = 5 := by
 obtain ⟨g, c, e, h1, h2, h3, _⟩ := own_cell h.row.own (flat3_at arcCells 3 (fun _ => rfl) nd.arcs i 0 t _ hi rfl)
 obtain ⟨g1, c1, e1, _, _, h4, _⟩ := own_cell h.row.own (flat3_at arcCells 3 (fun _ => rfl) nd.arcs i 1 t _ hi rfl)
 obtain ⟨g2, c2, e2, _, _, h5, _⟩ := own_cell h.row.own (flat3_at arcCells 3 (fun _ => rfl) nd.arcs i 2 t _ hi rfl)
 have e1' := e.symm.trans e1
 have e2' := e.symm.trans e2
 injection e1' with e1' _ _; injection e1' with e1'; injection e1' with e1' _; subst e1'
 injection e2' with e2' _ _; injection e2' with e2'; injection e2' with e2' _; subst e2'
 exact ⟨g, c, e, h1, h2, h3, h4, h5, h.row.col g (by rw [e]; rfl)⟩

/-- The encoder: its block has colour 9, its writer the colours 1, 2, 3. -/
structure En (w : World) (col : Col) (eb wb fb rb bb : Nat) (bs : List Nat) : Prop where
 eb : BlkC w col 9 eb [.pointer (some ⟨wb, 0, none⟩)] 218
 wr : Wr w col 1 wb fb rb bb bs
 tabs : Tabs w col
theorem three_not {d : Nat} (h : 4 ≤ d) : ¬ three 1 d := by unfold three; omega
theorem three_zero : ¬ three 1 0 := by unfold three; omega
theorem En.next {w w' : World} {col col' : Col} {eb wb fb rb bb : Nat} {bs bs' : List Nat} (h : En w col eb wb fb rb bb bs) (k : Kp (three 1) col w col' w') (hw : Wr w' col' 1 wb fb rb bb bs') : En w' col' eb wb fb rb bb bs' :=
 ⟨h.eb.kp k (three_not (by omega)), hw, h.tabs.kp k three_zero⟩
theorem En.drew {w : World} {col : Col} {eb wb fb rb bb : Nat} {bs : List Nat} (h : En w col eb wb fb rb bb bs) : En w.drew col eb wb fb rb bb bs :=
 ⟨h.eb.drew, h.wr.drew, h.tabs.kp (C := fun _ => False) ((Kp.refl _ _ _).drew) (fun h => h)⟩
theorem En.kp {w w' : World} {col col' : Col} {C : Nat → Prop} {eb wb fb rb bb : Nat} {bs : List Nat} (h : En w col eb wb fb rb bb bs) (k : Kp C col w col' w') (h0 : ¬ C 0) (h1 : ¬ C 1) (h2 : ¬ C 2) (h3 : ¬ C 3) (h9 : ¬ C 9) : En w' col' eb wb fb rb bb bs :=
 ⟨h.eb.kp k h9, h.wr.kp k (fun d hd => by rcases hd with rfl | rfl | rfl <;> assumption), h.tabs.kp k h0⟩

/-- The last bytes of a state of one transition. -/
def tailOne (i nxt : Nat) : List Nat := (if codesN i = 0 then [i] else []) ++ [128 + nxt + codesN i]
theorem or1 (nxt : Nat) (h : nxt = 0 ∨ nxt = 64) : bits .or .u8 128 (nxt : Int) = ((128 + nxt : Nat) : Int) := by
 rcases h with rfl | rfl <;> rfl
theorem or2 (nxt k : Nat) (h : nxt = 0 ∨ nxt = 64) (hk : k < 64) : bits .or .u8 ((128 + nxt : Nat) : Int) (k : Int) = ((128 + nxt + k : Nat) : Int) := by
 rcases h with rfl | rfl
 ·exact or_u8 (k := 6) (q := 2) hk (by omega)
 ·exact or_u8 (k := 6) (q := 3) hk (by omega)

theorem tailOne_len (i nxt : Nat) : (tailOne i nxt).length ≤ 2 := by
 unfold tailOne
 split <;> simp
set_option maxHeartbeats 400000 in
set_option maxRecDepth 100000 in
theorem oneFinish_calls {w : World} {col : Col} {eb wb fb rb bb x i o a : Nat} {bs : List Nat} {fn : Bool} {fo : Nat} {tv : Value} {nx : Option Nat} (h : En w col eb wb fb rb bb bs) (hn : NodeC w col x ⟨fn, fo, [(i, o, a)]⟩ tv nx) (hi : i < 256) (nxt : Nat) (hx : nxt = 0 ∨ nxt = 64) (hl : bs.length ≤ 1099511627000) :
  Calls Tryz.prog 156 #[.pointer (some ⟨eb, 0, none⟩), .pointer (some ⟨x, 0, none⟩), .int .u8 (nxt : Int)] w fun e w' => e = .returned (.tuple #[.int .i64 ((bs.length + (tailOne i nxt).length - 1 : Nat) : Int), .nilIface]) ∧ ∃ col', Kp (three 1) col w col' w' ∧ En w' col' eb wb fb rb bb (bs ++ tailOne i nxt) := by
 obtain ⟨g, c, rfl, hgc, hgm, c0, c1, c2, hg5⟩ := hn.arc (i := 0) (t := (i, o, a)) rfl
 simp only [List.length_cons, List.length_nil, Nat.zero_add, Nat.mul_zero] at hn hgc c0 c1 c2
 have b1 := hn.blk.blk.cell 1 rfl
 have y0 := h.eb.blk.cell 0 rfl
 have hec := encCommon_calls h.tabs hi
 have hcl := codesOk.lt i
 have htl := tailOne_len i nxt
 obtain ⟨TL, hTL⟩ : ∃ TL, Hid (tailOne i nxt = TL) := ⟨_, Lib.hid rfl⟩
 have hTL2 : Hid (TL = (if codesN i = 0 then [i] else []) ++ [128 + nxt + codesN i]) := Lib.hid (by rw [← hTL.out]; rfl)
 rw [hTL.out] at htl ⊢
 clear hTL
 generalize codesN i = q at *
 have ho1 : bits .or .u8 128 (nxt : Int) = 128 + (nxt : Int) := by rw [or1 nxt hx]; omega
 have ho2 := or2 nxt q hx hcl
 rw [show ((128 + nxt : Nat) : Int) = 128 + (nxt : Int) by omega] at ho2
 have hr256 : 128 + nxt + q < 256 := by rcases hx with rfl | rfl <;> omega
 generalize 128 + nxt + q = r at *
 by_cases h0 : q = 0
 ·have hput := vwbyte_calls h.wr.drew (by omega) i
  have HC := Lib.hid (show (if q = 0 then [i] else []) = [i] from if_pos h0)
  have HH := Lib.hid (And.intro h hn)
  have hz : (q : Int) = 0 := by rw [h0]; rfl
  rw [hz] at ho2 hec
  clear hz h0 hcl
  clear h hn
  go_enter Tryz.func156, Tryz.ntmps156
  go_wp2_with (first | (go_at_call 56; refine hec.mono ?_; rintro e w' ⟨rfl, rfl⟩) | fail)
  refine wp_region_seqV (fun W => W.cell? ⟨eb, 0, none⟩ = some (.pointer (some ⟨wb, 0, none⟩)) ∧ W.cell? ⟨x, 1, none⟩ = some (.slice (some ⟨g, 0, none⟩) 1 c) ∧ W.cell? ⟨g, 2, none⟩ = some (.int .u8 (i : Int))) (fun i => decide (i ≠ 11)) (fun i => ![3, 7, 10].contains i && decide (i ≠ 11)) (fun i => false) [0, 1, 2, 3, 4, 5, 6, 7, 8, 9, 10, 11, 12] (by kernel_rfl) (by kernel_rfl) (fun c a d v w h => by cases d <;> exact h) ⟨y0, b1, c2⟩ ?_
  iterate 3 (apply seqV_pure (ho := rfl) (hr := rfl) (hg := rfl); (intro w'; go_simp; rfl))
  (apply seqV_read (ho := rfl) (hr := rfl) (hp := rfl) (hg := rfl); (rintro w' ⟨q1, q2, q3⟩; go_simp; rfl))
  iterate 3 (apply seqV_pure (ho := rfl) (hr := rfl) (hg := rfl); (intro w'; go_simp; rfl))
  (apply seqV_read (ho := rfl) (hr := rfl) (hp := rfl) (hg := rfl); (rintro w' ⟨q1, q2, q3⟩; go_simp; rfl))
  iterate 2 (apply seqV_pure (ho := rfl) (hr := rfl) (hg := rfl); (intro w'; go_simp; rfl))
  (apply seqV_read (ho := rfl) (hr := rfl) (hp := rfl) (hg := rfl); (rintro w' ⟨q1, q2, q3⟩; go_simp; rfl))
  refine seqV_do rfl rfl fun K hK => ?_
  go_simp
  refine hput.mono ?_
  rintro e w2 ⟨rfl, col2, hk2, hw2⟩
  have hE2 := HH.out.1.drew.next hk2 hw2
  have hN2 := HH.out.2.drew.kp hk2 (three_not (by omega)) (three_not (by omega))
  have k2 : w2.cell? ⟨g, 2, none⟩ = some (.int .u8 (i : Int)) := by
   obtain ⟨g', c', hgg, _, _, _, _, k2, _⟩ := hN2.arc (i := 0) (t := (i, o, a)) rfl
   injection hgg with hgg _ _; injection hgg with hgg; injection hgg with hgg _; subst hgg
   exact k2
  refine hK _ _ (fun _ => ⟨hE2.eb.blk.cell 0 rfl, hN2.blk.blk.cell 1 rfl, k2⟩) ?_
  have HE := Lib.hid (And.intro ((Kp.refl (three 1) col _).drew.trans hk2) hE2)
  clear hK K hE2 hN2 hk2 hw2 k2 HH hput
  go_simp
  iterate 1 (apply seqV_pure (ho := rfl) (hr := rfl) (hg := rfl); (intro w'; go_simp; rfl))
  unfold seqV
  go_simp
  have elw : (bs ++ [i]).length = bs.length + 1 := by simp
  have hlw : (bs ++ [i]).length ≤ 1099511627776 := by omega
  have hw2 := vwbyte_calls HE.out.2.wr hlw r
  have y1 := HE.out.2.eb.blk.cell 0 rfl
  have hcd := HC.out
  go_wp2_with fail
  refine hw2.mono ?_
  rintro e w3 ⟨rfl, col3, hk3, hw3⟩
  have hE3 := HE.out.2.next hk3 hw3
  have q0 := hE3.eb.blk.cell 0 rfl
  have q1 := hE3.wr.kwb.blk.cell 1 rfl
  have elen : ((bs ++ [i] ++ [r]).length : Int) - 1 = ((bs.length + TL.length - 1 : Nat) : Int) := by
   rw [hTL2.out, HC.out]; simp only [List.length_append, List.length_cons, List.length_nil]; omega
  have ebs : bs ++ [i] ++ [r] = bs ++ TL := by rw [hTL2.out, HC.out, ← List.append_assoc]
  have HF := Lib.hid (And.intro (HE.out.1.trans hk3) hE3)
  rw [ebs] at HF elen q1
  obtain ⟨N, hN⟩ : ∃ N, Hid (N = (bs ++ TL).length) := ⟨_, Lib.hid rfl⟩
  rw [← hN.out] at q1 elen
  have eN : IntKind.i64.wrap ((N : Int) - 1) = (N : Int) - 1 := IntWalk.i64_in _ (by have := hN.out; rw [List.length_append] at this; omega)
  clear hE3 hk3 hw3 hw2 ebs
  go_wp2_with fail
  go_ret2
  refine ⟨?_, col3, HF.out.1, HF.out.2⟩
  rfl
 ·have HC := Lib.hid (show (if q = 0 then [i] else []) = [] from if_neg h0)
  have hz : ¬ ((q : Int) = 0) := by omega
  have HE := Lib.hid (And.intro (Kp.refl (three 1) col w) (show En w col eb wb fb rb bb (bs ++ []) by rw [List.append_nil]; exact h))
  have hput := trivial
  clear h hn
  go_enter Tryz.func156, Tryz.ntmps156
  go_wp2_with (first | (go_at_call 56; refine hec.mono ?_; rintro e w' ⟨rfl, rfl⟩) | fail)
  have elw : (bs ++ []).length = bs.length + 0 := by simp
  have hlw : (bs ++ []).length ≤ 1099511627776 := by omega
  have hw2 := vwbyte_calls HE.out.2.wr hlw r
  have y1 := HE.out.2.eb.blk.cell 0 rfl
  have hcd := HC.out
  go_wp2_with fail
  refine hw2.mono ?_
  rintro e w3 ⟨rfl, col3, hk3, hw3⟩
  have hE3 := HE.out.2.next hk3 hw3
  have q0 := hE3.eb.blk.cell 0 rfl
  have q1 := hE3.wr.kwb.blk.cell 1 rfl
  have elen : ((bs ++ [] ++ [r]).length : Int) - 1 = ((bs.length + TL.length - 1 : Nat) : Int) := by
   rw [hTL2.out, HC.out]; simp only [List.length_append, List.length_cons, List.length_nil]; omega
  have ebs : bs ++ [] ++ [r] = bs ++ TL := by rw [hTL2.out, HC.out, ← List.append_assoc]
  have HF := Lib.hid (And.intro (HE.out.1.trans hk3) hE3)
  rw [ebs] at HF elen q1
  obtain ⟨N, hN⟩ : ∃ N, Hid (N = (bs ++ TL).length) := ⟨_, Lib.hid rfl⟩
  rw [← hN.out] at q1 elen
  have eN : IntKind.i64.wrap ((N : Int) - 1) = (N : Int) - 1 := IntWalk.i64_in _ (by have := hN.out; rw [List.length_append] at this; omega)
  clear hE3 hk3 hw3 hw2 ebs
  go_wp2_with fail
  go_ret2
  refine ⟨?_, col3, HF.out.1, HF.out.2⟩
  rfl
end
section
open Go.RowKit Fmt

/-- The bytes of a state of one transition, where it doesn't lead to the state right below. -/
def oneBytes (start i o a : Nat) : List Nat := pk o (if o = 0 then 0 else psz o) ++ pk (delta start a) (psz (delta start a)) ++ [psz (delta start a) * 16 + (if o = 0 then 0 else psz o)] ++ tailOne i 0
theorem encOne_far (start last i o a : Nat) (h : ¬ (o = 0 ∧ a = last)) : encOne start last codesN i o a = oneBytes start i o a := by
 unfold encOne oneBytes tailOne
 rw [if_neg h]
 simp
theorem encOne_near (start last i o a : Nat) (h : o = 0 ∧ a = last) : encOne start last codesN i o a = tailOne i 64 := by
 unfold encOne tailOne
 rw [if_pos h]

set_option maxHeartbeats 1000000 in
set_option maxRecDepth 100000 in
theorem one_calls {w : World} {col : Col} {eb wb fb rb bb x i o a : Nat} {bs : List Nat} {fn : Bool} {fo : Nat} {tv : Value} {nx : Option Nat} (h : En w col eb wb fb rb bb bs) (hn : NodeC w col x ⟨fn, fo, [(i, o, a)]⟩ tv nx) (hi : i < 256) (ho : o < 18446744073709551616) (ha : a ≤ bs.length) (hl : bs.length ≤ 1099511620000) :
  Calls Tryz.prog 157 #[.pointer (some ⟨eb, 0, none⟩), .pointer (some ⟨x, 0, none⟩)] w fun e w' => e = .returned (.tuple #[.int .i64 ((bs.length + (oneBytes bs.length i o a).length - 1 : Nat) : Int), .nilIface]) ∧ ∃ col', Kp (three 1) col w col' w' ∧ En w' col' eb wb fb rb bb (bs ++ oneBytes bs.length i o a) := by
 have hn0 := hn
 obtain ⟨g, c, rfl, hgc, hgm, c0, -, -, hg5⟩ := hn.arc (i := 0) (t := (i, o, a)) rfl
 simp only [List.length_cons, List.length_nil, Nat.zero_add, Nat.mul_zero] at hn hgc c0
 have b1 := hn.blk.blk.cell 1 rfl
 have y0 := h.eb.blk.cell 0 rfl
 have k1 := h.wr.kwb.blk.cell 1 rfl
 have ew1 : IntKind.u64.wrap (bs.length : Int) = (bs.length : Int) := IntWalk.u64_in _ (by omega)
 have ew2 : IntKind.u64.wrap (a : Int) = (a : Int) := IntWalk.u64_in _ (by omega)
 have hdl : delta bs.length a < 18446744073709551616 := by unfold delta; split <;> omega
 have E : Hid (oneBytes bs.length i o a = pk o (if o = 0 then 0 else psz o) ++ pk (delta bs.length a) (psz (delta bs.length a)) ++ [psz (delta bs.length a) * 16 + (if o = 0 then 0 else psz o)] ++ tailOne i 0) := Lib.hid rfl
 have htl := tailOne_len i 0
 obtain ⟨TL, hTL⟩ : ∃ TL, Hid (tailOne i 0 = TL) := ⟨_, Lib.hid rfl⟩
 have oneF : ∀ {w : World} {col : Col} {bs : List Nat} {fn : Bool} {fo : Nat} {tv : Value} {nx : Option Nat}, En w col eb wb fb rb bb bs → NodeC w col x ⟨fn, fo, [(i, o, a)]⟩ tv nx → bs.length ≤ 1099511627000 → Calls Tryz.prog 156 #[.pointer (some ⟨eb, 0, none⟩), .pointer (some ⟨x, 0, none⟩), .int .u8 0] w fun e w' => e = .returned (.tuple #[.int .i64 ((bs.length + TL.length - 1 : Nat) : Int), .nilIface]) ∧ ∃ col', Kp (three 1) col w col' w' ∧ En w' col' eb wb fb rb bb (bs ++ TL) := by
  intro w col bs fn fo tv nx h1 h2 h3
  have := oneFinish_calls h1 h2 hi 0 (.inl rfl) h3
  rw [hTL.out] at this
  exact this
 rw [hTL.out] at E htl
 by_cases h0 : o = 0
 ·subst h0
  rw [if_pos rfl] at E
  have HE := Lib.hid (And.intro (Kp.refl (three 1) col w) (And.intro h hn0))
  clear h hn hn0
  -- the distance
  have c1 := (HE.out.2.2.arc (i := 0) (t := (i, 0, a)) rfl)
  obtain ⟨g1, cc1, hge1, -, -, -, c1, -, -⟩ := c1
  simp only [List.length_cons, List.length_nil, Nat.zero_add, Nat.mul_zero] at hge1 c1
  injection hge1 with hge1 _ _; injection hge1 with hge1; injection hge1 with hge1 _; subst hge1
  have b1 := HE.out.2.2.blk.blk.cell 1 rfl
  have y0 := HE.out.2.1.eb.blk.cell 0 rfl
  have hdc := delta_calls w bs.length a (by omega) (by omega)
  have hpc := psz_calls w (delta bs.length a) hdl
  have hw1c := wpack_calls HE.out.2.1.wr (delta bs.length a) (psz (delta bs.length a)) hdl (psz_le _).2 (by omega)
  generalize hD : delta bs.length a = D at *
  have hFl := psz_le D
  generalize hFz : psz D = F at *
  clear hdl
  go_enter Tryz.func157, Tryz.ntmps157
  go_wp2_with (first | (go_at_call 162; refine (hdc).mono ?_; rintro e w' ⟨rfl, hw'⟩; obtain rfl := hw'.symm) | (go_at_call 161; refine (hpc).mono ?_; rintro e w' ⟨rfl, hw'⟩; obtain rfl := hw'.symm) | fail)
  refine hw1c.mono ?_
  rintro e w2 ⟨rfl, col2, hk2, hw2⟩
  have hE2 := HE.out.2.1.next hk2 hw2
  have hN2 := HE.out.2.2.kp hk2 (three_not (by omega)) (three_not (by omega))
  have y2 := hE2.eb.blk.cell 0 rfl
  have hsz := pks_calls w2 F 0 hFl.2 (by omega)
  have hb2 := vwbyte_calls hE2.wr (by rw [List.length_append, pk_len]; omega) (F * 16 + 0)
  have HE2 := Lib.hid (And.intro (HE.out.1.trans hk2) (And.intro hE2 hN2))
  clear hk2 hw2 hE2 hN2 hw1c hdc hpc HE
  go_wp2_with (first | (go_at_call 165; refine (hsz).mono ?_; rintro e w' ⟨rfl, hw'⟩; obtain rfl := hw'.symm) | fail)
  refine hb2.mono ?_
  rintro e w3 ⟨rfl, col3, hk3, hw3⟩
  have hE3 := HE2.out.2.1.next hk3 hw3
  have hN3 := HE2.out.2.2.kp hk3 (three_not (by omega)) (three_not (by omega))
  have hfin := oneF hE3 hN3 (by simp only [List.length_append, pk_len, List.length_cons, List.length_nil]; omega)
  have HE3 := Lib.hid (HE2.out.1.trans hk3)
  clear hk3 hw3 hE3 hN3 hb2 hsz HE2
  go_wp2_with fail
  refine hfin.mono ?_
  rintro e w4 ⟨rfl, col4, hk4, hE4⟩
  have HE4 := Lib.hid (And.intro (HE3.out.trans hk4) hE4)
  clear hk4 hE4 hfin HE3
  go_wp2_with fail
  go_ret2
  refine ⟨?_, col4, HE4.out.1, ?_⟩
  ·refine congrArg (fun n : Nat => Ending.returned (.tuple #[.int .i64 (n : Int), .nilIface])) ?_
   rw [E.out]
   simp only [List.length_append, pk_len, List.length_cons, List.length_nil]
   omega
  ·have := HE4.out.2
   rw [E.out]
   simpa [pk] using this
 ·rw [if_neg h0] at E
  have hpo := psz_calls w o ho
  have hOl := psz_le o
  have hz : ¬ ((o : Int) = 0) := by omega
  have hw1 := wpack_calls h.wr.drew o (psz o) ho hOl.2 (by omega)
  generalize psz o = O at *
  have HE := Lib.hid (And.intro (Kp.refl (three 1) col w) (And.intro h hn0))
  clear h hn hn0
  go_enter Tryz.func157, Tryz.ntmps157
  go_wp2_with (first | (go_at_call 161; refine (hpo).mono ?_; rintro e w' ⟨rfl, hw'⟩; obtain rfl := hw'.symm) | fail)
  refine wp_region_seqV (fun W => W.cell? ⟨eb, 0, none⟩ = some (.pointer (some ⟨wb, 0, none⟩)) ∧ W.cell? ⟨x, 1, none⟩ = some (.slice (some ⟨g, 0, none⟩) 1 c) ∧ W.cell? ⟨g, 0, none⟩ = some (.int .u64 (o : Int))) (fun i => decide (i ≠ 12)) (fun i => ![3, 7, 10].contains i && decide (i ≠ 12)) (fun i => false) [0, 1, 2, 3, 4, 5, 6, 7, 8, 9, 10, 11, 12, 13] (by kernel_rfl) (by kernel_rfl) (fun c a d v w h => by cases d <;> exact h) ⟨y0, b1, c0⟩ ?_
  iterate 3 (apply seqV_pure (ho := rfl) (hr := rfl) (hg := rfl); (intro w'; go_simp; rfl))
  (apply seqV_read (ho := rfl) (hr := rfl) (hp := rfl) (hg := rfl); (rintro w' ⟨q1, q2, q3⟩; go_simp; rfl))
  iterate 3 (apply seqV_pure (ho := rfl) (hr := rfl) (hg := rfl); (intro w'; go_simp; rfl))
  (apply seqV_read (ho := rfl) (hr := rfl) (hp := rfl) (hg := rfl); (rintro w' ⟨q1, q2, q3⟩; go_simp; rfl))
  iterate 2 (apply seqV_pure (ho := rfl) (hr := rfl) (hg := rfl); (intro w'; go_simp; rfl))
  (apply seqV_read (ho := rfl) (hr := rfl) (hp := rfl) (hg := rfl); (rintro w' ⟨q1, q2, q3⟩; go_simp; rfl))
  iterate 1 (apply seqV_pure (ho := rfl) (hr := rfl) (hg := rfl); (intro w'; go_simp; rfl))
  refine seqV_do rfl rfl fun K hK => ?_
  go_simp
  refine hw1.mono ?_
  rintro e w1 ⟨rfl, col1, hk1, hw1'⟩
  have hE1 := HE.out.2.1.drew.next hk1 hw1'
  have hN1 := HE.out.2.2.drew.kp hk1 (three_not (by omega)) (three_not (by omega))
  have k2 : w1.cell? ⟨g, 0, none⟩ = some (.int .u64 (o : Int)) := by
   obtain ⟨g', c', hgg, _, _, k2, _⟩ := hN1.arc (i := 0) (t := (i, o, a)) rfl
   injection hgg with hgg _ _; injection hgg with hgg; injection hgg with hgg _; subst hgg
   exact k2
  refine hK _ _ (fun _ => ⟨hE1.eb.blk.cell 0 rfl, hN1.blk.blk.cell 1 rfl, k2⟩) ?_
  have HE := Lib.hid (And.intro ((Kp.refl (three 1) col _).drew.trans hk1) (And.intro hE1 hN1))
  clear hK K hE1 hN1 hk1 hw1' k2 hw1 hpo c0 b1 y0 k1
  go_simp
  iterate 1 (apply seqV_pure (ho := rfl) (hr := rfl) (hg := rfl); (intro w'; go_simp; rfl))
  unfold seqV
  go_simp
  -- the distance
  have c1 := (HE.out.2.2.arc (i := 0) (t := (i, o, a)) rfl)
  obtain ⟨g1, cc1, hge1, -, -, -, c1, -, -⟩ := c1
  simp only [List.length_cons, List.length_nil, Nat.zero_add, Nat.mul_zero] at hge1 c1
  injection hge1 with hge1 _ _; injection hge1 with hge1; injection hge1 with hge1 _; subst hge1
  have b1 := HE.out.2.2.blk.blk.cell 1 rfl
  have y0 := HE.out.2.1.eb.blk.cell 0 rfl
  have hdc := delta_calls w1 bs.length a (by omega) (by omega)
  have hpc := psz_calls w1 (delta bs.length a) hdl
  have hw1c := wpack_calls HE.out.2.1.wr (delta bs.length a) (psz (delta bs.length a)) hdl (psz_le _).2 (by simp only [List.length_append, pk_len]; omega)
  generalize hD : delta bs.length a = D at *
  have hFl := psz_le D
  generalize hFz : psz D = F at *
  clear hdl
  skip
  go_wp2_with (first | (go_at_call 162; refine (hdc).mono ?_; rintro e w' ⟨rfl, hw'⟩; obtain rfl := hw'.symm) | (go_at_call 161; refine (hpc).mono ?_; rintro e w' ⟨rfl, hw'⟩; obtain rfl := hw'.symm) | fail)
  refine hw1c.mono ?_
  rintro e w2 ⟨rfl, col2, hk2, hw2⟩
  have hE2 := HE.out.2.1.next hk2 hw2
  have hN2 := HE.out.2.2.kp hk2 (three_not (by omega)) (three_not (by omega))
  have y2 := hE2.eb.blk.cell 0 rfl
  have hsz := pks_calls w2 F O hFl.2 (by omega)
  have hb2 := vwbyte_calls hE2.wr (by simp only [List.length_append, pk_len]; omega) (F * 16 + O)
  have HE2 := Lib.hid (And.intro (HE.out.1.trans hk2) (And.intro hE2 hN2))
  clear hk2 hw2 hE2 hN2 hw1c hdc hpc HE
  go_wp2_with (first | (go_at_call 165; refine (hsz).mono ?_; rintro e w' ⟨rfl, hw'⟩; obtain rfl := hw'.symm) | fail)
  refine hb2.mono ?_
  rintro e w3 ⟨rfl, col3, hk3, hw3⟩
  have hE3 := HE2.out.2.1.next hk3 hw3
  have hN3 := HE2.out.2.2.kp hk3 (three_not (by omega)) (three_not (by omega))
  have hfin := oneF hE3 hN3 (by simp only [List.length_append, pk_len, List.length_cons, List.length_nil]; omega)
  have HE3 := Lib.hid (HE2.out.1.trans hk3)
  clear hk3 hw3 hE3 hN3 hb2 hsz HE2
  go_wp2_with fail
  refine hfin.mono ?_
  rintro e w4 ⟨rfl, col4, hk4, hE4⟩
  have HE4 := Lib.hid (And.intro (HE3.out.trans hk4) hE4)
  clear hk4 hE4 hfin HE3
  go_wp2_with fail
  go_ret2
  refine ⟨?_, col4, HE4.out.1, ?_⟩
  ·refine congrArg (fun n : Nat => Ending.returned (.tuple #[.int .i64 (n : Int), .nilIface])) ?_
   rw [E.out]
   simp only [List.length_append, pk_len, List.length_cons, List.length_nil]
   omega
  ·have := HE4.out.2
   rw [E.out]
   simpa [pk] using this
end
section
open Go.RowKit Fmt
theorem flat_one : ∀ l : List (Nat × Nat × Nat), (l.flatMap fun t => [t.1]) = l.map fun t => t.1
 | [] => rfl
 | t :: l => by simp only [List.flatMap_cons, List.map_cons, flat_one l]; rfl
theorem many_eq (S : Nat) (nd : Nd) (k F O U q N0 LB : Nat) (Y : Bool) (X1 X2 X3 X4 CB : List Nat) (hk : k = nd.arcs.length) (a1 : F = maxSz (nd.arcs.map fun a => delta S a.2.2) 0) (a2 : O = maxSz (nd.arcs.map fun a => a.2.1) (psz nd.fout))
  (a3 : Y = (decide (nd.fout ≠ 0) || nd.arcs.any fun a => decide (a.2.1 ≠ 0))) (hU : U = if Y then O else 0) (hX1 : X1 = (if Y && nd.fin then pk nd.fout U else []) ++ (if Y then nd.arcs.reverse.flatMap (fun t => pk t.2.1 U) else [])) (hX2 : X2 = X1 ++ nd.arcs.reverse.flatMap (fun t => pk (delta S t.2.2) F))
  (hX3 : X3 = X2 ++ nd.arcs.reverse.flatMap (fun t => [t.1])) (hq : F * 16 + U = q) (hX4 : X4 = X3 ++ [q]) (hN0 : (if 63 < k then 0 else k) = N0) (hCB : CB = if k = 256 then [1] else if k = 0 ∨ 63 < k then [k] else []) (hLB : LB = N0 + if nd.fin then 64 else 0) : X4 ++ CB ++ [LB] = encMany S nd := by
 rw [hX4, hX3, flat_one, hX2, hX1, ← hq, hCB, hLB, ← hN0, hk]
 unfold encMany
 simp only
 rw [← a1, ← a2, ← a3, ← hU]
end
end Go.Proofs.YtmhlnijpimjjaaaGreatDoor
