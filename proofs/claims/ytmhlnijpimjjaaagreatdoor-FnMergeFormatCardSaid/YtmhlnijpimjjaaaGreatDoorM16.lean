/- The registry made, and the encoder with its writers. No condition. A state written: encodeState. Condition: at most 2^40 bytes, transitions lead down. The builder in memory; a state compiled. Condition: at most 2^40 bytes. The open states behind a place are closed and written: compileFrom. Condition: at most 10^9 bytes. A further key, in plain: what is open before and behind it. No condition. -/
import Derived.Test.YtmhlnijpimjjaaaGreatDoorM15
import Derived.Test.YtmhlnijpimjjaaaGreatDoorM10
import Derived.Test.YtmhlnijpimjjaaaGreatDoorM02
set_option linter.unusedSimpArgs false
set_option linter.unusedVariables false
namespace Go.Proofs.YtmhlnijpimjjaaaGreatDoor
section
open Go.RowKit Fmt
theorem made2 (a b : Value) : ∀ n, (madeCells #[a, b] (n * 2)).toList = rng2 (fun _ => [a, b]) n
 | 0 => by simp [madeCells, rng2]
 | n + 1 => by
  rw [rng2_succ, ← made2 a b n]
  unfold madeCells
  simp only [Array.toList_map, Array.toList_range]
  rw [show (n + 1) * 2 = n * 2 + 1 + 1 by omega, List.range_succ, List.range_succ]
  have h1 : n * 2 % 2 = 0 := by omega
  have h2 : (n * 2 + 1) % 2 = 1 := by omega
  simp [h1, h2]
theorem madeT (n : Nat) : madeCells #[.int .i64 0, .pointer none] (n * 2) = (rng2 (fun _ => tcell (0, none)) n).toArray := by
 apply Array.ext'
 rw [made2]
 exact rng2_congr fun i _ => rfl
theorem run_mk_tab (W : World) : (Instr.makeSlice 189 (.int .i64 20000) (.int .i64 20000)).run Tryz.prog W = .ok (.slice (some ⟨W.heap.size, 0, none⟩) 20000 20000) (W.alloc (.cells (rng2 (fun _ => tcell (0, none)) 20000).toArray 174)) := by
 obtain ⟨i0, hi, hzz⟩ := Option.map_eq_some_iff.1 (show (Tryz.prog.info? 174).map (fun i => (i.zero, i.size, i.bytes)) = some (some (.agg #[.int .i64 0, .pointer none]), 2, 16) by kernel_rfl)
 simp only [Prod.mk.injEq] at hzz
 obtain ⟨hz0, hs, hb⟩ := hzz
 have h := run_make (P := Tryz.prog) W 189 174 i0 _ (by kernel_rfl) hi hz0 .i64 .i64 20000 20000 (by omega) (by omega) (by rw [hb]; omega) (by omega)
 rw [show (20000 : Int).toNat = 20000 from rfl] at h
 rw [h, hs, show (Value.agg #[.int .i64 0, .pointer none]).cells = #[.int .i64 0, .pointer none] from rfl, madeT]
set_option maxHeartbeats 1000000 in
set_option maxRecDepth 100000 in
theorem newr_calls {w : World} {col : Col} {pb : Nat} :
  Calls Tryz.prog 65 #[.pointer (some ⟨pb, 0, none⟩), .int .i64 10000, .int .i64 2] w fun e w' => ∃ rg tb col', e = .returned (.pointer (some ⟨rg, 0, none⟩)) ∧ Rg w' col' rg tb pb (fun _ => (0, none)) ∧ Kp (fun d => d = 8) col w col' w' := by
 have hmk := run_mk_tab
 obtain ⟨Y, hY⟩ : ∃ Y, Hid (rng2 (fun _ => tcell (0, none)) 20000 = Y) := ⟨_, Lib.hid rfl⟩
 rw [hY.out] at hmk
 go_enter Tryz.func65, Tryz.ntmps65
 go_wp2_with fail
 go_ret
 refine ⟨w.heap.size + 1, w.heap.size, paint w.heap.size 8 col, rfl, ⟨⟨Blk.newAt (w.alloc (.cells Y.toArray 174)) _ _ _ (by simp), paint_ge (by omega)⟩, ⟨?_, paint_ge (Nat.le_refl _)⟩⟩, Kp.news (((Fr.refl _ w).alloc _).alloc _) 8 rfl⟩
 rw [hY.out]
 exact (Blk.new w _ _).alloc _
theorem ta_bw (a : Addr) (w : World) : (Instr.typeAssert (.iface 56 (.pointer (some a))) 79 224 true).run Tryz.prog w = .ok (.tuple #[.pointer none, .bool false]) w := by kernel_rfl
/-- A new bytes.Buffer. -/
def Buf0 (w : World) (col : Col) (bb : Nat) : Prop := BlkC w col 2 bb [.slice none 0 0, .int .i64 0, .int .i8 0] 52
set_option maxHeartbeats 1000000 in
set_option maxRecDepth 100000 in
theorem newbw_calls {w : World} {col : Col} {bb : Nat} (h : Buf0 w col bb) :
  Calls Tryz.prog 99 #[.iface 56 (.pointer (some ⟨bb, 0, none⟩)), .int .i64 4096] w fun e w' => ∃ fb rb col', e = .returned (.pointer (some ⟨fb, 0, none⟩)) ∧ BwC w' col' 1 fb rb bb [] ∧ Kp (fun d => d = 1) col w col' w' := by
 obtain ⟨Z, hZ⟩ : ∃ Z : List Nat, Hid (List.replicate 4096 0 = Z) := ⟨_, Lib.hid rfl⟩
 have hmk : ∀ W : World, (Instr.makeSlice 29 (.int .i64 4096) (.int .i64 4096)).run Tryz.prog W = .ok (.slice (some ⟨W.heap.size, 0, none⟩) 4096 4096) (W.alloc (.cells (u8s Z).toArray 5)) := fun W => by rw [← hZ.out]; exact run_mk_u8 4096 4096 (by omega) (by omega) .i64 .i64 W
 have hta := fun w => ta_bw ⟨bb, 0, none⟩ w
 have HH := Lib.hid h
 clear h
 go_enter Tryz.func99, Tryz.ntmps99
 go_wp2_with fail
 go_ret
 have hF : Fr (fun _ => False) w ((w.alloc (.cells (u8s Z).toArray 5)).alloc (.cells [.nilIface, .slice (some ⟨w.heap.size, 0, none⟩) 4096 4096, .int .i64 0, .iface 56 (.pointer (some ⟨bb, 0, none⟩))].toArray 232)) := ((Fr.refl _ w).alloc _).alloc _
 have hK := Kp.news (col := col) (C := fun d => d = 1) hF 1 rfl
 have hb := HH.out.kp hK (by omega)
 refine ⟨w.heap.size + 1, w.heap.size, _, rfl, ⟨Z, 0, [], .slice none 0 0, [], ⟨⟨Blk.newAt (w.alloc (.cells (u8s Z).toArray 5)) _ _ _ (by simp), paint_ge (by omega)⟩, ⟨(Blk.new w _ _).alloc _, paint_ge (Nat.le_refl _)⟩, by rw [← hZ.out]; simp, by omega, by simp, ⟨⟨0, hb.blk⟩, .inl ⟨rfl, rfl, rfl⟩, fun u hu => by simp at hu⟩, by simp [u8s], hb.col, fun k hk => by simp [Value.ownBlock] at hk⟩⟩, hK⟩
set_option maxHeartbeats 1000000 in
set_option maxRecDepth 100000 in
theorem newb_calls {w : World} {col : Col} {bb : Nat} (h : Buf0 w col bb) :
  Calls Tryz.prog 96 #[.iface 56 (.pointer (some ⟨bb, 0, none⟩))] w fun e w' => ∃ fb rb col', e = .returned (.pointer (some ⟨fb, 0, none⟩)) ∧ BwC w' col' 1 fb rb bb [] ∧ Kp (fun d => d = 1) col w col' w' := by
 have hn := newbw_calls h
 clear h
 go_enter Tryz.func96, Tryz.ntmps96
 go_wp2_with fail
 refine hn.mono ?_
 rintro e w1 ⟨fb, rb, col1, rfl, h1⟩
 have HE := Lib.hid h1
 clear h1 hn
 go_wp2_with fail
 go_ret
 exact ⟨fb, rb, col1, rfl, HE.out⟩
set_option maxHeartbeats 1000000 in
set_option maxRecDepth 100000 in
theorem newv_calls {w : World} {col : Col} {bb : Nat} (h : Buf0 w col bb) :
  Calls Tryz.prog 92 #[.iface 56 (.pointer (some ⟨bb, 0, none⟩))] w fun e w' => ∃ wb fb rb col', e = .returned (.pointer (some ⟨wb, 0, none⟩)) ∧ Wr w' col' 1 wb fb rb bb [] ∧ Kp (three 1) col w col' w' := by
 have hn := newb_calls h
 clear h
 go_enter Tryz.func92, Tryz.ntmps92
 go_wp2_with fail
 refine hn.mono ?_
 rintro e w1 ⟨fb, rb, col1, rfl, hb1, hk1⟩
 have HE := Lib.hid (And.intro hb1 hk1)
 clear hb1 hk1 hn
 go_wp2_with fail
 go_ret
 obtain ⟨hb1, hk1⟩ := HE.out
 have hF : Fr (fun _ => False) w1 (w1.alloc (.cells [.pointer (some ⟨fb, 0, none⟩), .int .i64 0].toArray 227)) := (Fr.refl _ w1).alloc _
 have hK := Kp.news (col := col1) (C := fun d => d = 3) hF 3 rfl
 exact ⟨w1.heap.size, fb, rb, _, rfl, ⟨⟨Blk.new w1 _ _, paint_ge (Nat.le_refl _)⟩, hb1.kp hK (by omega) (by omega)⟩, (hk1.mono fun _ e => .inl e).trans (hK.mono fun _ e => .inr (.inr e))⟩
set_option maxHeartbeats 1000000 in
set_option maxRecDepth 100000 in
theorem newenc_calls {w : World} {col : Col} {bb : Nat} (h : Buf0 w col bb) (ht : Tabs w col) :
  Calls Tryz.prog 86 #[.iface 56 (.pointer (some ⟨bb, 0, none⟩))] w fun e w' => ∃ eb wb fb rb col', e = .returned (.pointer (some ⟨eb, 0, none⟩)) ∧ En w' col' eb wb fb rb bb [] ∧ Kp (fun d => three 1 d ∨ d = 9) col w col' w' := by
 have hn := newv_calls h
 have HT := Lib.hid ht
 clear h ht
 go_enter Tryz.func86, Tryz.ntmps86
 go_wp2_with fail
 refine hn.mono ?_
 rintro e w1 ⟨wb, fb, rb, col1, rfl, hb1, hk1⟩
 have HE := Lib.hid (And.intro hb1 hk1)
 clear hb1 hk1 hn
 go_wp2_with fail
 go_ret
 obtain ⟨hb1, hk1⟩ := HE.out
 have hF : Fr (fun _ => False) w1 (w1.alloc (.cells [.pointer (some ⟨wb, 0, none⟩)].toArray 218)) := (Fr.refl _ w1).alloc _
 have hK := Kp.news (col := col1) (C := fun d => d = 9) hF 9 rfl
 exact ⟨w1.heap.size, wb, fb, rb, _, rfl, ⟨⟨Blk.new w1 _ _, paint_ge (Nat.le_refl _)⟩, hb1.kp hK (by unfold three; omega), (HT.out.kp hk1 three_zero).kp hK (by omega)⟩, (hk1.mono fun _ e => .inl e).trans (hK.mono fun _ e => .inr e)⟩
set_option maxHeartbeats 1000000 in
set_option maxRecDepth 100000 in
theorem loadenc_calls {w : World} {col : Col} {bb : Nat} (h : Buf0 w col bb) (ht : Tabs w col) :
  Calls Tryz.prog 66 #[.int .i64 1, .iface 56 (.pointer (some ⟨bb, 0, none⟩))] w fun e w' => ∃ eb wb fb rb col', e = .returned (.tuple #[.iface 193 (.pointer (some ⟨eb, 0, none⟩)), .nilIface]) ∧ En w' col' eb wb fb rb bb [] ∧ Kp (fun d => three 1 d ∨ d = 9) col w col' w' := by
 have hn := newenc_calls h ht
 clear h ht
 go_enter Tryz.func66, Tryz.ntmps66
 go_wp2_with fail
 refine hn.mono ?_
 rintro e w1 ⟨eb, wb, fb, rb, col1, rfl, h1⟩
 have HE := Lib.hid h1
 clear h1 hn
 go_wp2_with fail
 go_ret2
 exact ⟨eb, wb, fb, rb, col1, rfl, HE.out⟩
end
section
open Go.RowKit Fmt
section
variable {w : World} {col : Col} {eb wb fb rb bb x : Nat} {bs : List Nat} {tv : Value} {nx : Option Nat}
/-- What encodeState does. -/
def EncPost (w : World) (col : Col) (eb wb fb rb bb : Nat) (bs more : List Nat) (e : Ending) (w' : World) : Prop :=
 e = .returned (.tuple #[.int .i64 ((bs.length + more.length - 1 : Nat) : Int), .nilIface]) ∧ ∃ col', Kp (three 1) col w col' w' ∧ En w' col' eb wb fb rb bb (bs ++ more)
set_option maxHeartbeats 1000000 in
set_option maxRecDepth 100000 in
theorem encs_calls (h : En w col eb wb fb rb bb bs) {nd : Nd} (hn : NodeC w col x nd tv nx) {last : Nat} (hw : Wf bs.length last nd) (hl : bs.length ≤ 1099511000000) (hll : last ≤ 1099511627776) (hne : ¬ (nd.fin = true ∧ nd.arcs = [] ∧ nd.fout = 0)) :
  Calls Tryz.prog 151 #[.pointer (some ⟨eb, 0, none⟩), .pointer (some ⟨x, 0, none⟩), .int .i64 (last : Int)] w (EncPost w col eb wb fb rb bb bs (encNd bs.length last codesN nd)) := by
 have HL : Hid (∀ (e : Ending) (w' : World) (v : Value), e = .returned v → True) := Lib.hid fun _ _ _ _ => trivial
 obtain ⟨fin, fout, arcs⟩ := nd
 obtain ⟨A, c, rfl, hc1, hc2⟩ := hn.slc
 have b0 := hn.blk.blk.cell 0 rfl
 have b1 := hn.blk.blk.cell 1 rfl
 have b2 := hn.blk.blk.cell 2 rfl
 simp only at b0 b1 b2 hc1 hne
 -- the three ways
 by_cases hone : fin = false ∧ arcs.length = 1
 ·obtain ⟨rfl, hlen⟩ := hone
  obtain ⟨⟨i, o, a⟩, rfl⟩ : ∃ t, arcs = [t] := by
   match arcs, hlen with
   | [t], _ => exact ⟨t, rfl⟩
  have hi := hw.byte (i, o, a) (by simp)
  have ho := hw.m.out (i, o, a) (by simp)
  have ha := hw.m.adr (i, o, a) (by simp)
  simp only at hi ho ha
  obtain ⟨g, c', hge, hgc, hgm, c0, c1, -, hg5⟩ := hn.arc (i := 0) (t := (i, o, a)) rfl
  injection hge with hge hge2 hge3
  subst hge hge3
  simp only [List.length_cons, List.length_nil, Nat.zero_add, Nat.mul_zero] at b1 c0 c1 hc1
  by_cases hnear : o = 0 ∧ a = last
  ·as_aux_lemma =>
   have he : encNd bs.length last codesN ⟨false, fout, [(i, o, a)]⟩ = tailOne i 64 := encOne_near bs.length last i o a hnear
   rw [he]
   have hof := oneFinish_calls h hn hi 64 (.inr rfl) (by omega)
   obtain ⟨rfl, rfl⟩ := hnear
   clear h hn hw he hne
   go_enter Tryz.func151, Tryz.ntmps151
   go_wp2_with fail
   refine hof.mono ?_
   rintro e w2 ⟨rfl, hp⟩
   have HE := Lib.hid hp
   clear hp hof
   go_wp2_with fail
   go_ret2
   exact ⟨rfl, HE.out⟩
  ·as_aux_lemma =>
   have he : encNd bs.length last codesN ⟨false, fout, [(i, o, a)]⟩ = oneBytes bs.length i o a := encOne_far bs.length last i o a hnear
   rw [he]
   have hof := one_calls h hn hi (by simpa using ho) (by omega) (by omega)
   clear h hn hw he hne
   by_cases ho0 : o = 0
   ·subst ho0
    have e1 : ¬ ((a : Int) = (last : Int)) := by omega
    clear hnear
    go_enter Tryz.func151, Tryz.ntmps151
    go_wp2_with fail
    refine hof.mono ?_
    rintro e w2 ⟨rfl, hp⟩
    have HE := Lib.hid hp
    clear hp hof
    go_wp2_with fail
    go_ret2
    exact ⟨rfl, HE.out⟩
   ·have e1 : ¬ ((o : Int) = 0) := by omega
    clear hnear
    go_enter Tryz.func151, Tryz.ntmps151
    go_wp2_with fail
    refine hof.mono ?_
    rintro e w2 ⟨rfl, hp⟩
    have HE := Lib.hid hp
    clear hp hof
    go_wp2_with fail
    go_ret2
    exact ⟨rfl, HE.out⟩
 ·have he : encNd bs.length last codesN ⟨fin, fout, arcs⟩ = encMany bs.length ⟨fin, fout, arcs⟩ := by
   unfold encNd
   split
   ·rename_i i o a e1 e2
    simp only at e1 e2
    exact absurd ⟨e1, by rw [e2]; rfl⟩ hone
   ·rfl
  rw [he]
  have hm := many_calls h hn hw.m hw.byte hl
  clear h hn hw he
  have hfin2 : fin = true ∨ arcs.length ≠ 1 := by
   cases fin with
   | true => exact .inl rfl
   | false => exact .inr fun e => hone ⟨rfl, e⟩
  have hne2 : arcs.length = 0 → fin = true → fout ≠ 0 := fun e1 e2 e3 => hne ⟨e2, List.length_eq_zero_iff.1 e1, e3⟩
  obtain ⟨k, hk⟩ : ∃ k, Hid (arcs.length = k) := ⟨_, Lib.hid rfl⟩
  rw [hk.out] at b1 hfin2 hne2 hc1
  clear hone hne
  by_cases hk0 : k = 0
  ·subst hk0
   as_aux_lemma =>
   cases fin with
   | true =>
    have e1 : ¬ ((fout : Int) = 0) := by have := hne2 rfl rfl; omega
    clear hne2 hfin2
    go_enter Tryz.func151, Tryz.ntmps151
    go_wp2_with fail
    refine hm.mono ?_
    rintro e w2 ⟨rfl, hp⟩
    have HE := Lib.hid hp
    clear hp hm
    go_wp2_with fail
    go_ret2
    exact ⟨rfl, HE.out⟩
   | false =>
    clear hne2 hfin2
    go_enter Tryz.func151, Tryz.ntmps151
    go_wp2_with fail
    refine hm.mono ?_
    rintro e w2 ⟨rfl, hp⟩
    have HE := Lib.hid hp
    clear hp hm
    go_wp2_with fail
    go_ret2
    exact ⟨rfl, HE.out⟩
  ·have e1 : ¬ ((k : Int) = 0) := by omega
   by_cases hk1 : k = 1
   ·subst hk1
    as_aux_lemma =>
    obtain rfl : fin = true := by rcases hfin2 with h | h; · exact h
                                  ·exact absurd rfl h
    clear hne2 hfin2 hk0 e1
    go_enter Tryz.func151, Tryz.ntmps151
    go_wp2_with fail
    refine hm.mono ?_
    rintro e w2 ⟨rfl, hp⟩
    have HE := Lib.hid hp
    clear hp hm
    go_wp2_with fail
    go_ret2
    exact ⟨rfl, HE.out⟩
   ·as_aux_lemma =>
    have e2 : ¬ ((k : Int) = 1) := by omega
    clear hne2 hfin2
    go_enter Tryz.func151, Tryz.ntmps151
    go_wp2_with fail
    refine hm.mono ?_
    rintro e w2 ⟨rfl, hp⟩
    have HE := Lib.hid hp
    clear hp hm
    go_wp2_with fail
    go_ret2
    exact ⟨rfl, HE.out⟩
end
end
section
open Go.RowKit Fmt
/-- Where the builder's parts lie. -/
structure Ids where
 bd : Nat
 ub : Nat
 cb : Nat
 pb : Nat
 rg : Nat
 tb : Nat
 eb : Nat
 wb : Nat
 fb : Nat
 rb : Nat
 bb : Nat
 ob : Nat
/-- The builder's own cells. -/
def bcells (I : Ids) (lv : Value) (cnt last : Nat) : List Value :=
 [.pointer (some ⟨I.ub, 0, none⟩), .pointer (some ⟨I.rg, 0, none⟩), lv, .int .i64 (cnt : Int), .int .i64 (last : Int), .iface 193 (.pointer (some ⟨I.eb, 0, none⟩)), .pointer (some ⟨I.ob, 0, none⟩), .pointer (some ⟨I.pb, 0, none⟩)]
structure Bld (w : World) (col : Col) (I : Ids) (K : List (Nat × Nd)) (st : List Un) (tab : Nat → Nat × Option Nat) (B : List Nat) (last : Nat) (key : List Nat) (cnt : Nat) : Prop where
 blk : ∃ lv full, BlkC w col 12 I.bd (bcells I lv cnt last) 113 ∧ RowC w col 11 5 1 lv key.length full ∧ full.take key.length = u8s key
 core : Cr w col I.ub I.cb I.pb K st
 reg : Rg w col I.rg I.tb I.pb tab
 enc : En w col I.eb I.wb I.fb I.rb I.bb B
/-- The builder's colours. -/
def bdc : Nat → Prop := fun d => 1 ≤ d ∧ d ≤ 12
theorem kpb {w w' : World} {col col' : Col} {C : Nat → Prop} (h : Kp C col w col' w') (hc : ∀ d, C d → bdc d) : Kp bdc col w col' w' := h.mono hc
theorem rgc_bdc {d : Nat} (h : rgc d) : bdc d := by unfold rgc crc at h; unfold bdc; omega
theorem three_bdc {d : Nat} (h : three 1 d) : bdc d := by unfold three at h; unfold bdc; omega
theorem Bld.kp {w w' : World} {col col' : Col} {C : Nat → Prop} {I : Ids} {K : List (Nat × Nd)} {st : List Un} {tab : Nat → Nat × Option Nat} {B key : List Nat} {last cnt : Nat} (h : Bld w col I K st tab B last key cnt) (k : Kp C col w col' w') (hc : ∀ d, C d → ¬ (d ≤ 12 ∧ d ≠ 10)) : Bld w' col' I K st tab B last key cnt := by
 have n : ∀ d, d ≤ 12 → d ≠ 10 → ¬ C d := fun d h1 h2 e => hc d e ⟨h1, h2⟩
 obtain ⟨lv, full, h1, h2, h3⟩ := h.blk
 exact ⟨⟨lv, full, h1.kp k (n 12 (by omega) (by omega)), h2.kp k (n 11 (by omega) (by omega)), h3⟩, h.core.kp k (fun d e hd => by unfold crc at hd; exact hc d e (by omega)), h.reg.kp k (n 8 (by omega) (by omega)),
  h.enc.kp k (n 0 (by omega) (by omega)) (n 1 (by omega) (by omega)) (n 2 (by omega) (by omega)) (n 3 (by omega) (by omega)) (n 9 (by omega) (by omega))⟩
theorem meth_enc (a : Addr) (w : World) : (method 110 193 (.pointer (some a)) "pub-traverser/pub/vellum.encodeState").run Tryz.prog w = .ok (151, .pointer (some a)) w := by kernel_rfl
theorem nil_enc (a : Addr) (w : World) : (nilAhead 110 193 (.pointer (some a)) "pub-traverser/pub/vellum.encodeState").run Tryz.prog w = .ok (some false) w := by kernel_rfl
theorem RgI.more {tab : Nat → Nat × Option Nat} {K R : List (Nat × Nd)} (h : RgI tab K R) (q : Nat × Nd) : RgI tab (q :: K) R :=
 ⟨fun i a x hi e => by obtain ⟨n, h1, h2⟩ := h.held i a x hi e; exact ⟨n, List.mem_cons_of_mem _ h1, h2⟩, h.inj⟩
/-- What compile does. -/
def CompPost (w : World) (col : Col) (I : Ids) (x : Nat) (n : Nd) (K R : List (Nat × Nd)) (st : List Un) (B : List Nat) (last : Nat) (key : List Nat) (cnt : Nat) (e : Ending) (w' : World) : Prop :=
 ∃ (a : Nat) (B' : List Nat) (last' : Nat) (R' K' : List (Nat × Nd)) (tab' : Nat → Nat × Option Nat) (col' : Col), e = .returned (.tuple #[.int .i64 (a : Int), .nilIface]) ∧ Cmp codesN B last R n a B' last' R' ∧ Bld w' col' I K' st tab' B' last' key cnt ∧ RgI tab' K' R' ∧ (∀ q, q ∈ K' → q ∈ (x, n) :: K) ∧ Kp bdc col w col' w'
set_option maxHeartbeats 2000000 in
set_option maxRecDepth 100000 in
theorem comp_calls {w : World} {col : Col} {I : Ids} {x : Nat} {n : Nd} {K R : List (Nat × Nd)} {st : List Un} {tab : Nat → Nat × Option Nat} {B key : List Nat} {last cnt : Nat} (h : Bld w col I ((x, n) :: K) st tab B last key cnt) (hI : RgI tab K R) (hl : ∀ q, q ∈ (x, n) :: K → q.2.arcs.length ≤ 256)
  (hw : Wf B.length last n) (hB : B.length ≤ 1099511000000) (hll : last ≤ 1099511000000) :
  Calls Tryz.prog 55 #[.pointer (some ⟨I.bd, 0, none⟩), .pointer (some ⟨x, 0, none⟩)] w (CompPost w col I x n K R st B last key cnt) := by
 obtain ⟨tvx, nxx, hNx⟩ := h.core.node List.mem_cons_self
 obtain ⟨A, c, rfl, hc1, hc2⟩ := hNx.slc
 have n0 := hNx.blk.blk.cell 0 rfl
 have n1 := hNx.blk.blk.cell 1 rfl
 have n2 := hNx.blk.blk.cell 2 rfl
 have hreg := reg_calls h.core h.reg hI hl
 obtain ⟨lv, full, hblk, hrow, htk⟩ := h.blk
 have b1 := hblk.blk.cell 1 rfl
 have HH := Lib.hid (And.intro h (And.intro hI (And.intro hl (And.intro hw hNx))))
 obtain ⟨fo, hfo⟩ : ∃ v, Hid (n.fout = v) := ⟨_, Lib.hid rfl⟩
 obtain ⟨m, hm⟩ : ∃ v, Hid (n.arcs.length = v) := ⟨_, Lib.hid rfl⟩
 obtain ⟨fin, hfin⟩ : ∃ v, Hid (n.fin = v) := ⟨_, Lib.hid rfl⟩
 rw [hfo.out] at n0
 rw [hm.out] at n1
 rw [hfin.out] at n2
 clear h hI hl hw hNx hc1 hblk hrow htk
 obtain ⟨bd, hbd⟩ : ∃ v, Hid (I.bd = v) := ⟨_, Lib.hid rfl⟩
 rw [hbd.out] at b1 ⊢
 by_cases hnil : fin = true ∧ m = 0 ∧ fo = 0
 ·obtain ⟨rfl, rfl, rfl⟩ := hnil
  as_aux_lemma =>
  go_enter Tryz.func55, Tryz.ntmps55
  go_wp2_with fail
  go_ret2
  obtain ⟨h, hI, hl, hw, -⟩ := HH.out
  exact ⟨0, B, last, R, (x, n) :: K, tab, col, rfl, .nil hfin.out (List.length_eq_zero_iff.1 hm.out) hfo.out, h, hI.more _, fun q hq => hq, Kp.refl _ _ _⟩
 ·have hcond : Hid (¬ (fin = true ∧ m = 0 ∧ fo = 0)) := Lib.hid hnil
  clear hnil
  have HC : Hid (¬ (n.fin = true ∧ n.arcs = [] ∧ n.fout = 0)) := Lib.hid fun ⟨e1, e2, e3⟩ => hcond.out ⟨by rw [← hfin.out]; exact e1, by rw [← hm.out, e2]; rfl, by rw [← hfo.out]; exact e3⟩
  by_cases h1 : fin = true
  ·subst h1
   by_cases h2 : m = 0
   ·have h3 : ¬ ((fo : Int) = 0) := fun e => hcond.out ⟨rfl, h2, by omega⟩
    subst h2
    clear hcond
    as_aux_lemma =>
    go_enter Tryz.func55, Tryz.ntmps55
    go_wp2_with fail
    refine hreg.mono ?_
    intro e w2 hpost
    obtain ⟨k, hk, hpost⟩ := hpost
    clear hreg
    obtain ⟨h, hI, hl, hw, -⟩ := HH.out
    obtain ⟨lv, full, hblk, hrow, htk⟩ := h.blk
    rcases hpost with ⟨a, tab', col2, rfl, hm2, hC2, hR2, hI2, hK2⟩ | ⟨tab', K', col2, a0, rfl, hC2, hsub, hR2, htb, hI2, hK2⟩
    ·as_aux_lemma =>
     have hB2 : Bld w2 col2 I ((x, n) :: K) st tab' B last key cnt := ⟨⟨lv, full, hblk.kp hK2 (by unfold rgc crc; omega), hrow.kp hK2 (by unfold rgc crc; omega), htk⟩, hC2, hR2, h.enc.kp hK2 (by unfold rgc crc; omega) (by unfold rgc crc; omega) (by unfold rgc crc; omega) (by unfold rgc crc; omega) (by unfold rgc crc; omega)⟩
     have HE := Lib.hid (And.intro hB2 (And.intro hI2 (And.intro hm2 (kpb hK2 fun d e => rgc_bdc e))))
     clear h hI hl hw hblk hrow htk hC2 hR2 hI2 hK2 hB2 hm2
     go_wp2_with fail
     go_ret2
     obtain ⟨h1, h2, h3, h4⟩ := HE.out
     exact ⟨a, B, last, R, (x, n) :: K, tab', col2, rfl, .found a R h3 (fun q hq => hq), h1, h2.more _, fun q hq => hq, h4⟩
    ·as_aux_lemma =>
     have hb2 := hblk.kp hK2 (by unfold rgc crc; omega)
     have hr2 := hrow.kp hK2 (by unfold rgc crc; omega)
     have he2 := h.enc.kp hK2 (by unfold rgc crc; omega) (by unfold rgc crc; omega) (by unfold rgc crc; omega) (by unfold rgc crc; omega) (by unfold rgc crc; omega)
     obtain ⟨tv2, nx2, hN2⟩ := hC2.node List.mem_cons_self
     have hen := encs_calls he2.drew hN2.drew hw hB (by omega) HC.out
     have c5 := hb2.blk.cell 5 rfl
     have c4 := hb2.blk.cell 4 rfl
     rw [hbd.out] at c5 c4
     unfold EncPost at hen
     obtain ⟨ad, had⟩ : ∃ ad, Hid (B.length + (encNd B.length last codesN n).length - 1 = ad) := ⟨_, Lib.hid rfl⟩
     rw [had.out] at hen
     have HE := Lib.hid (And.intro hC2 (And.intro hR2 (And.intro hb2 (And.intro hr2 (And.intro hI2 (And.intro hK2 (And.intro hsub (And.intro htk htb))))))))
     clear h hI hl hw hblk hrow htk hC2 hR2 hI2 hK2 hb2 hr2 he2 hN2 hsub htb
     have hme := fun w => meth_enc ⟨I.eb, 0, none⟩ w
     have hni := fun w => nil_enc ⟨I.eb, 0, none⟩ w
     go_wp2_with fail
     refine wp_region_seqV (fun W => W.cell? ⟨bd, 5, none⟩ = some (.iface 193 (.pointer (some ⟨I.eb, 0, none⟩))) ∧ W.cell? ⟨bd, 4, none⟩ = some (.int .i64 (last : Int))) (fun i => decide (i ≠ 11)) (fun i => ![3, 8].contains i && decide (i ≠ 11)) (fun i => false) [0, 1, 2, 3, 4, 5, 6, 7, 8, 9, 10, 11, 12, 13, 14, 15, 16] (by kernel_rfl) (by kernel_rfl) (fun c a d v w h => by cases d <;> exact h) ⟨c5, c4⟩ ?_
     iterate 3 (apply seqV_pure (ho := rfl) (hr := rfl) (hg := rfl); (intro w'; go_simp; rfl))
     (apply seqV_read (ho := rfl) (hr := rfl) (hp := rfl) (hg := rfl); (rintro w' ⟨q0, q1⟩; go_simp; rfl))
     go_simp
     iterate 3 (apply seqV_pure (ho := rfl) (hr := rfl) (hg := rfl); (intro w'; go_simp; rfl))
     go_simp
     iterate 1 (apply seqV_pure (ho := rfl) (hr := rfl) (hg := rfl); (intro w'; go_simp; rfl))
     (apply seqV_read (ho := rfl) (hr := rfl) (hp := rfl) (hg := rfl); (rintro w' ⟨q0, q1⟩; go_simp; rfl))
     go_simp
     iterate 2 (apply seqV_pure (ho := rfl) (hr := rfl) (hg := rfl); (intro w'; go_simp; rfl))
     refine seqV_do rfl rfl fun K hK => ?_
     go_simp
     refine hen.mono ?_
     rintro e w3 ⟨rfl, col3, hk3, hE3⟩
     have hb3 := (HE.out.2.2.1.kp ((kdrew.mono (fun _ e => e.elim)).trans hk3 : Kp (three 1) col2 w2 col3 w3) (by unfold three; omega))
     have d5 := hb3.blk.cell 5 rfl
     have d4 := hb3.blk.cell 4 rfl
     have y4 := hb3.blk.frz 4
     rw [hbd.out] at d5 d4 y4
     refine hK _ _ (fun _ => ⟨d5, d4⟩) ?_
     clear hK K
     have HG := Lib.hid (And.intro hk3 (And.intro hE3 hb3))
     clear hk3 hE3 hb3 hen c5 c4
     iterate 3 (apply seqV_pure (ho := rfl) (hr := rfl) (hg := rfl); (intro w'; go_simp; rfl))
     go_simp
     iterate 2 (apply seqV_pure (ho := rfl) (hr := rfl) (hg := rfl); (intro w'; go_simp; rfl))
     unfold seqV
     go_simp
     clear hme hni
     obtain ⟨hC2, hR2, hb2, hr2, hI2, hK2, hsub, htk, htb⟩ := HE.out
     obtain ⟨hk3, hE3, hb3⟩ := HG.out
     have hk23 : Kp (three 1) col2 w2 col3 w3 := (kdrew.mono (fun _ e => e.elim)).trans hk3
     have hC3 := hC2.kp hk23 (by unfold three crc; omega)
     have hR3 := hR2.kp hk23 (by unfold three; omega)
     have hr3 := hr2.kp hk23 (by unfold three; omega)
     have K4 : Kp (fun d => d = 12) col3 w3 col3 (w3.setCell ⟨I.bd, 4, none⟩ (.int .i64 (ad : Int))) := (Kp.refl _ col3 w3).set _ hb3.col
     have hb4 : BlkC (w3.setCell ⟨I.bd, 4, none⟩ (.int .i64 (ad : Int))) col3 12 I.bd (bcells I lv cnt ad) 113 := ⟨hb3.blk.set 4 _, hb3.col⟩
     have hR4 := hR3.kp K4 (by omega)
     obtain ⟨⟨g0, -⟩, hz⟩ := hR4.cell (k := k) (by omega)
     have gz := hz (k * 2)
     obtain ⟨hR5, K5⟩ := hR4.set (k := k) (by omega) (j := 0) (v := .int .i64 (ad : Int)) (q := (ad, some x)) (by omega) (by rw [htb]; rfl)
     rw [Nat.add_zero] at hR5 K5
     have hBld : Bld ((w3.setCell ⟨I.bd, 4, none⟩ (.int .i64 (ad : Int))).setCell ⟨I.tb, k * 2, none⟩ (.int .i64 (ad : Int))) col3 I ((x, n) :: K') st (upd tab' k (ad, some x)) (B ++ encNd B.length last codesN n) ad key cnt :=
      ⟨⟨lv, full, hb4.kp K5 (by omega), (hr3.kp K4 (by omega)).kp K5 (by omega), htk⟩, (hC3.kp K4 (by unfold crc; omega)).kp K5 (by unfold crc; omega), hR5, (hE3.kp K4 (by omega) (by omega) (by omega) (by omega) (by omega) : En _ _ _ _ _ _ _ _).kp K5 (by omega) (by omega) (by omega) (by omega) (by omega)⟩
     have hKall : Kp bdc col w col3 ((w3.setCell ⟨I.bd, 4, none⟩ (.int .i64 (ad : Int))).setCell ⟨I.tb, k * 2, none⟩ (.int .i64 (ad : Int))) := (((kpb hK2 fun d e => rgc_bdc e).trans (kpb hk23 fun d e => three_bdc e)).trans (kpb K4 fun d e => by unfold bdc; omega)).trans (kpb K5 fun d e => by unfold bdc; omega)
     have HJ := Lib.hid (And.intro hBld (And.intro (hI2 ad) (And.intro hsub hKall)))
     rw [hbd.out] at g0 gz HJ
     clear hC2 hR2 hb2 hr2 hI2 hK2 hsub htk htb hk3 hE3 hb3 hk23 hC3 hR3 hr3 K4 hb4 hR4 hz hR5 K5 hBld hKall HE HG
     go_wp2_with fail
     go_ret2
     obtain ⟨h1, h2, h3, h4⟩ := HJ.out
     refine ⟨ad, _, ad, (ad, n) :: R, (x, n) :: K', _, col3, rfl, ?_, h1, h2, fun q hq => ?_, h4⟩
     ·rw [← had.out]
      exact .new _ (fun q hq => by
       rcases List.mem_cons.1 hq with e | e
       ·exact .inr e
       ·exact .inl e)
     ·rcases List.mem_cons.1 hq with e | e
      ·rw [e]; exact List.mem_cons_self
      ·exact List.mem_cons_of_mem _ (h3 q e)
   ·have h3 : ¬ ((m : Int) = 0) := by omega
    as_aux_lemma =>
    go_enter Tryz.func55, Tryz.ntmps55
    go_wp2_with fail
    refine hreg.mono ?_
    intro e w2 hpost
    obtain ⟨k, hk, hpost⟩ := hpost
    clear hreg
    obtain ⟨h, hI, hl, hw, -⟩ := HH.out
    obtain ⟨lv, full, hblk, hrow, htk⟩ := h.blk
    rcases hpost with ⟨a, tab', col2, rfl, hm2, hC2, hR2, hI2, hK2⟩ | ⟨tab', K', col2, a0, rfl, hC2, hsub, hR2, htb, hI2, hK2⟩
    ·as_aux_lemma =>
     have hB2 : Bld w2 col2 I ((x, n) :: K) st tab' B last key cnt := ⟨⟨lv, full, hblk.kp hK2 (by unfold rgc crc; omega), hrow.kp hK2 (by unfold rgc crc; omega), htk⟩, hC2, hR2, h.enc.kp hK2 (by unfold rgc crc; omega) (by unfold rgc crc; omega) (by unfold rgc crc; omega) (by unfold rgc crc; omega) (by unfold rgc crc; omega)⟩
     have HE := Lib.hid (And.intro hB2 (And.intro hI2 (And.intro hm2 (kpb hK2 fun d e => rgc_bdc e))))
     clear h hI hl hw hblk hrow htk hC2 hR2 hI2 hK2 hB2 hm2
     go_wp2_with fail
     go_ret2
     obtain ⟨h1, h2, h3, h4⟩ := HE.out
     exact ⟨a, B, last, R, (x, n) :: K, tab', col2, rfl, .found a R h3 (fun q hq => hq), h1, h2.more _, fun q hq => hq, h4⟩
    ·as_aux_lemma =>
     have hb2 := hblk.kp hK2 (by unfold rgc crc; omega)
     have hr2 := hrow.kp hK2 (by unfold rgc crc; omega)
     have he2 := h.enc.kp hK2 (by unfold rgc crc; omega) (by unfold rgc crc; omega) (by unfold rgc crc; omega) (by unfold rgc crc; omega) (by unfold rgc crc; omega)
     obtain ⟨tv2, nx2, hN2⟩ := hC2.node List.mem_cons_self
     have hen := encs_calls he2.drew hN2.drew hw hB (by omega) HC.out
     have c5 := hb2.blk.cell 5 rfl
     have c4 := hb2.blk.cell 4 rfl
     rw [hbd.out] at c5 c4
     unfold EncPost at hen
     obtain ⟨ad, had⟩ : ∃ ad, Hid (B.length + (encNd B.length last codesN n).length - 1 = ad) := ⟨_, Lib.hid rfl⟩
     rw [had.out] at hen
     have HE := Lib.hid (And.intro hC2 (And.intro hR2 (And.intro hb2 (And.intro hr2 (And.intro hI2 (And.intro hK2 (And.intro hsub (And.intro htk htb))))))))
     clear h hI hl hw hblk hrow htk hC2 hR2 hI2 hK2 hb2 hr2 he2 hN2 hsub htb
     have hme := fun w => meth_enc ⟨I.eb, 0, none⟩ w
     have hni := fun w => nil_enc ⟨I.eb, 0, none⟩ w
     go_wp2_with fail
     refine wp_region_seqV (fun W => W.cell? ⟨bd, 5, none⟩ = some (.iface 193 (.pointer (some ⟨I.eb, 0, none⟩))) ∧ W.cell? ⟨bd, 4, none⟩ = some (.int .i64 (last : Int))) (fun i => decide (i ≠ 11)) (fun i => ![3, 8].contains i && decide (i ≠ 11)) (fun i => false) [0, 1, 2, 3, 4, 5, 6, 7, 8, 9, 10, 11, 12, 13, 14, 15, 16] (by kernel_rfl) (by kernel_rfl) (fun c a d v w h => by cases d <;> exact h) ⟨c5, c4⟩ ?_
     iterate 3 (apply seqV_pure (ho := rfl) (hr := rfl) (hg := rfl); (intro w'; go_simp; rfl))
     (apply seqV_read (ho := rfl) (hr := rfl) (hp := rfl) (hg := rfl); (rintro w' ⟨q0, q1⟩; go_simp; rfl))
     go_simp
     iterate 3 (apply seqV_pure (ho := rfl) (hr := rfl) (hg := rfl); (intro w'; go_simp; rfl))
     go_simp
     iterate 1 (apply seqV_pure (ho := rfl) (hr := rfl) (hg := rfl); (intro w'; go_simp; rfl))
     (apply seqV_read (ho := rfl) (hr := rfl) (hp := rfl) (hg := rfl); (rintro w' ⟨q0, q1⟩; go_simp; rfl))
     go_simp
     iterate 2 (apply seqV_pure (ho := rfl) (hr := rfl) (hg := rfl); (intro w'; go_simp; rfl))
     refine seqV_do rfl rfl fun K hK => ?_
     go_simp
     refine hen.mono ?_
     rintro e w3 ⟨rfl, col3, hk3, hE3⟩
     have hb3 := (HE.out.2.2.1.kp ((kdrew.mono (fun _ e => e.elim)).trans hk3 : Kp (three 1) col2 w2 col3 w3) (by unfold three; omega))
     have d5 := hb3.blk.cell 5 rfl
     have d4 := hb3.blk.cell 4 rfl
     have y4 := hb3.blk.frz 4
     rw [hbd.out] at d5 d4 y4
     refine hK _ _ (fun _ => ⟨d5, d4⟩) ?_
     clear hK K
     have HG := Lib.hid (And.intro hk3 (And.intro hE3 hb3))
     clear hk3 hE3 hb3 hen c5 c4
     iterate 3 (apply seqV_pure (ho := rfl) (hr := rfl) (hg := rfl); (intro w'; go_simp; rfl))
     go_simp
     iterate 2 (apply seqV_pure (ho := rfl) (hr := rfl) (hg := rfl); (intro w'; go_simp; rfl))
     unfold seqV
     go_simp
     clear hme hni
     obtain ⟨hC2, hR2, hb2, hr2, hI2, hK2, hsub, htk, htb⟩ := HE.out
     obtain ⟨hk3, hE3, hb3⟩ := HG.out
     have hk23 : Kp (three 1) col2 w2 col3 w3 := (kdrew.mono (fun _ e => e.elim)).trans hk3
     have hC3 := hC2.kp hk23 (by unfold three crc; omega)
     have hR3 := hR2.kp hk23 (by unfold three; omega)
     have hr3 := hr2.kp hk23 (by unfold three; omega)
     have K4 : Kp (fun d => d = 12) col3 w3 col3 (w3.setCell ⟨I.bd, 4, none⟩ (.int .i64 (ad : Int))) := (Kp.refl _ col3 w3).set _ hb3.col
     have hb4 : BlkC (w3.setCell ⟨I.bd, 4, none⟩ (.int .i64 (ad : Int))) col3 12 I.bd (bcells I lv cnt ad) 113 := ⟨hb3.blk.set 4 _, hb3.col⟩
     have hR4 := hR3.kp K4 (by omega)
     obtain ⟨⟨g0, -⟩, hz⟩ := hR4.cell (k := k) (by omega)
     have gz := hz (k * 2)
     obtain ⟨hR5, K5⟩ := hR4.set (k := k) (by omega) (j := 0) (v := .int .i64 (ad : Int)) (q := (ad, some x)) (by omega) (by rw [htb]; rfl)
     rw [Nat.add_zero] at hR5 K5
     have hBld : Bld ((w3.setCell ⟨I.bd, 4, none⟩ (.int .i64 (ad : Int))).setCell ⟨I.tb, k * 2, none⟩ (.int .i64 (ad : Int))) col3 I ((x, n) :: K') st (upd tab' k (ad, some x)) (B ++ encNd B.length last codesN n) ad key cnt :=
      ⟨⟨lv, full, hb4.kp K5 (by omega), (hr3.kp K4 (by omega)).kp K5 (by omega), htk⟩, (hC3.kp K4 (by unfold crc; omega)).kp K5 (by unfold crc; omega), hR5, (hE3.kp K4 (by omega) (by omega) (by omega) (by omega) (by omega) : En _ _ _ _ _ _ _ _).kp K5 (by omega) (by omega) (by omega) (by omega) (by omega)⟩
     have hKall : Kp bdc col w col3 ((w3.setCell ⟨I.bd, 4, none⟩ (.int .i64 (ad : Int))).setCell ⟨I.tb, k * 2, none⟩ (.int .i64 (ad : Int))) := (((kpb hK2 fun d e => rgc_bdc e).trans (kpb hk23 fun d e => three_bdc e)).trans (kpb K4 fun d e => by unfold bdc; omega)).trans (kpb K5 fun d e => by unfold bdc; omega)
     have HJ := Lib.hid (And.intro hBld (And.intro (hI2 ad) (And.intro hsub hKall)))
     rw [hbd.out] at g0 gz HJ
     clear hC2 hR2 hb2 hr2 hI2 hK2 hsub htk htb hk3 hE3 hb3 hk23 hC3 hR3 hr3 K4 hb4 hR4 hz hR5 K5 hBld hKall HE HG
     go_wp2_with fail
     go_ret2
     obtain ⟨h1, h2, h3, h4⟩ := HJ.out
     refine ⟨ad, _, ad, (ad, n) :: R, (x, n) :: K', _, col3, rfl, ?_, h1, h2, fun q hq => ?_, h4⟩
     ·rw [← had.out]
      exact .new _ (fun q hq => by
       rcases List.mem_cons.1 hq with e | e
       ·exact .inr e
       ·exact .inl e)
     ·rcases List.mem_cons.1 hq with e | e
      ·rw [e]; exact List.mem_cons_self
      ·exact List.mem_cons_of_mem _ (h3 q e)
  ·obtain rfl : fin = false := by cases fin <;> simp_all
   as_aux_lemma =>
   go_enter Tryz.func55, Tryz.ntmps55
   go_wp2_with fail
   refine hreg.mono ?_
   intro e w2 hpost
   obtain ⟨k, hk, hpost⟩ := hpost
   clear hreg
   obtain ⟨h, hI, hl, hw, -⟩ := HH.out
   obtain ⟨lv, full, hblk, hrow, htk⟩ := h.blk
   rcases hpost with ⟨a, tab', col2, rfl, hm2, hC2, hR2, hI2, hK2⟩ | ⟨tab', K', col2, a0, rfl, hC2, hsub, hR2, htb, hI2, hK2⟩
   ·as_aux_lemma =>
    have hB2 : Bld w2 col2 I ((x, n) :: K) st tab' B last key cnt := ⟨⟨lv, full, hblk.kp hK2 (by unfold rgc crc; omega), hrow.kp hK2 (by unfold rgc crc; omega), htk⟩, hC2, hR2, h.enc.kp hK2 (by unfold rgc crc; omega) (by unfold rgc crc; omega) (by unfold rgc crc; omega) (by unfold rgc crc; omega) (by unfold rgc crc; omega)⟩
    have HE := Lib.hid (And.intro hB2 (And.intro hI2 (And.intro hm2 (kpb hK2 fun d e => rgc_bdc e))))
    clear h hI hl hw hblk hrow htk hC2 hR2 hI2 hK2 hB2 hm2
    go_wp2_with fail
    go_ret2
    obtain ⟨h1, h2, h3, h4⟩ := HE.out
    exact ⟨a, B, last, R, (x, n) :: K, tab', col2, rfl, .found a R h3 (fun q hq => hq), h1, h2.more _, fun q hq => hq, h4⟩
   ·as_aux_lemma =>
    have hb2 := hblk.kp hK2 (by unfold rgc crc; omega)
    have hr2 := hrow.kp hK2 (by unfold rgc crc; omega)
    have he2 := h.enc.kp hK2 (by unfold rgc crc; omega) (by unfold rgc crc; omega) (by unfold rgc crc; omega) (by unfold rgc crc; omega) (by unfold rgc crc; omega)
    obtain ⟨tv2, nx2, hN2⟩ := hC2.node List.mem_cons_self
    have hen := encs_calls he2.drew hN2.drew hw hB (by omega) HC.out
    have c5 := hb2.blk.cell 5 rfl
    have c4 := hb2.blk.cell 4 rfl
    rw [hbd.out] at c5 c4
    unfold EncPost at hen
    obtain ⟨ad, had⟩ : ∃ ad, Hid (B.length + (encNd B.length last codesN n).length - 1 = ad) := ⟨_, Lib.hid rfl⟩
    rw [had.out] at hen
    have HE := Lib.hid (And.intro hC2 (And.intro hR2 (And.intro hb2 (And.intro hr2 (And.intro hI2 (And.intro hK2 (And.intro hsub (And.intro htk htb))))))))
    clear h hI hl hw hblk hrow htk hC2 hR2 hI2 hK2 hb2 hr2 he2 hN2 hsub htb
    have hme := fun w => meth_enc ⟨I.eb, 0, none⟩ w
    have hni := fun w => nil_enc ⟨I.eb, 0, none⟩ w
    go_wp2_with fail
    refine wp_region_seqV (fun W => W.cell? ⟨bd, 5, none⟩ = some (.iface 193 (.pointer (some ⟨I.eb, 0, none⟩))) ∧ W.cell? ⟨bd, 4, none⟩ = some (.int .i64 (last : Int))) (fun i => decide (i ≠ 11)) (fun i => ![3, 8].contains i && decide (i ≠ 11)) (fun i => false) [0, 1, 2, 3, 4, 5, 6, 7, 8, 9, 10, 11, 12, 13, 14, 15, 16] (by kernel_rfl) (by kernel_rfl) (fun c a d v w h => by cases d <;> exact h) ⟨c5, c4⟩ ?_
    iterate 3 (apply seqV_pure (ho := rfl) (hr := rfl) (hg := rfl); (intro w'; go_simp; rfl))
    (apply seqV_read (ho := rfl) (hr := rfl) (hp := rfl) (hg := rfl); (rintro w' ⟨q0, q1⟩; go_simp; rfl))
    go_simp
    iterate 3 (apply seqV_pure (ho := rfl) (hr := rfl) (hg := rfl); (intro w'; go_simp; rfl))
    go_simp
    iterate 1 (apply seqV_pure (ho := rfl) (hr := rfl) (hg := rfl); (intro w'; go_simp; rfl))
    (apply seqV_read (ho := rfl) (hr := rfl) (hp := rfl) (hg := rfl); (rintro w' ⟨q0, q1⟩; go_simp; rfl))
    go_simp
    iterate 2 (apply seqV_pure (ho := rfl) (hr := rfl) (hg := rfl); (intro w'; go_simp; rfl))
    refine seqV_do rfl rfl fun K hK => ?_
    go_simp
    refine hen.mono ?_
    rintro e w3 ⟨rfl, col3, hk3, hE3⟩
    have hb3 := (HE.out.2.2.1.kp ((kdrew.mono (fun _ e => e.elim)).trans hk3 : Kp (three 1) col2 w2 col3 w3) (by unfold three; omega))
    have d5 := hb3.blk.cell 5 rfl
    have d4 := hb3.blk.cell 4 rfl
    have y4 := hb3.blk.frz 4
    rw [hbd.out] at d5 d4 y4
    refine hK _ _ (fun _ => ⟨d5, d4⟩) ?_
    clear hK K
    have HG := Lib.hid (And.intro hk3 (And.intro hE3 hb3))
    clear hk3 hE3 hb3 hen c5 c4
    iterate 3 (apply seqV_pure (ho := rfl) (hr := rfl) (hg := rfl); (intro w'; go_simp; rfl))
    go_simp
    iterate 2 (apply seqV_pure (ho := rfl) (hr := rfl) (hg := rfl); (intro w'; go_simp; rfl))
    unfold seqV
    go_simp
    clear hme hni
    obtain ⟨hC2, hR2, hb2, hr2, hI2, hK2, hsub, htk, htb⟩ := HE.out
    obtain ⟨hk3, hE3, hb3⟩ := HG.out
    have hk23 : Kp (three 1) col2 w2 col3 w3 := (kdrew.mono (fun _ e => e.elim)).trans hk3
    have hC3 := hC2.kp hk23 (by unfold three crc; omega)
    have hR3 := hR2.kp hk23 (by unfold three; omega)
    have hr3 := hr2.kp hk23 (by unfold three; omega)
    have K4 : Kp (fun d => d = 12) col3 w3 col3 (w3.setCell ⟨I.bd, 4, none⟩ (.int .i64 (ad : Int))) := (Kp.refl _ col3 w3).set _ hb3.col
    have hb4 : BlkC (w3.setCell ⟨I.bd, 4, none⟩ (.int .i64 (ad : Int))) col3 12 I.bd (bcells I lv cnt ad) 113 := ⟨hb3.blk.set 4 _, hb3.col⟩
    have hR4 := hR3.kp K4 (by omega)
    obtain ⟨⟨g0, -⟩, hz⟩ := hR4.cell (k := k) (by omega)
    have gz := hz (k * 2)
    obtain ⟨hR5, K5⟩ := hR4.set (k := k) (by omega) (j := 0) (v := .int .i64 (ad : Int)) (q := (ad, some x)) (by omega) (by rw [htb]; rfl)
    rw [Nat.add_zero] at hR5 K5
    have hBld : Bld ((w3.setCell ⟨I.bd, 4, none⟩ (.int .i64 (ad : Int))).setCell ⟨I.tb, k * 2, none⟩ (.int .i64 (ad : Int))) col3 I ((x, n) :: K') st (upd tab' k (ad, some x)) (B ++ encNd B.length last codesN n) ad key cnt :=
     ⟨⟨lv, full, hb4.kp K5 (by omega), (hr3.kp K4 (by omega)).kp K5 (by omega), htk⟩, (hC3.kp K4 (by unfold crc; omega)).kp K5 (by unfold crc; omega), hR5, (hE3.kp K4 (by omega) (by omega) (by omega) (by omega) (by omega) : En _ _ _ _ _ _ _ _).kp K5 (by omega) (by omega) (by omega) (by omega) (by omega)⟩
    have hKall : Kp bdc col w col3 ((w3.setCell ⟨I.bd, 4, none⟩ (.int .i64 (ad : Int))).setCell ⟨I.tb, k * 2, none⟩ (.int .i64 (ad : Int))) := (((kpb hK2 fun d e => rgc_bdc e).trans (kpb hk23 fun d e => three_bdc e)).trans (kpb K4 fun d e => by unfold bdc; omega)).trans (kpb K5 fun d e => by unfold bdc; omega)
    have HJ := Lib.hid (And.intro hBld (And.intro (hI2 ad) (And.intro hsub hKall)))
    rw [hbd.out] at g0 gz HJ
    clear hC2 hR2 hb2 hr2 hI2 hK2 hsub htk htb hk3 hE3 hb3 hk23 hC3 hR3 hr3 K4 hb4 hR4 hz hR5 K5 hBld hKall HE HG
    go_wp2_with fail
    go_ret2
    obtain ⟨h1, h2, h3, h4⟩ := HJ.out
    refine ⟨ad, _, ad, (ad, n) :: R, (x, n) :: K', _, col3, rfl, ?_, h1, h2, fun q hq => ?_, h4⟩
    ·rw [← had.out]
     exact .new _ (fun q hq => by
      rcases List.mem_cons.1 hq with e | e
      ·exact .inr e
      ·exact .inl e)
    ·rcases List.mem_cons.1 hq with e | e
     ·rw [e]; exact List.mem_cons_self
     ·exact List.mem_cons_of_mem _ (h3 q e)
end
section
open Go.RowKit Fmt
section
variable {w w' : World} {col col' : Col} {I : Ids} {K K' : List (Nat × Nd)} {st st' : List Un} {tab : Nat → Nat × Option Nat} {B key : List Nat} {last cnt : Nat}
theorem crc_bdc {d : Nat} (h : crc d) : bdc d := by unfold crc at h; unfold bdc; omega
theorem Bld.core' (h : Bld w col I K st tab B last key cnt) (k : Kp crc col w col' w') (hc : Cr w' col' I.ub I.cb I.pb K' st') : Bld w' col' I K' st' tab B last key cnt := by
 obtain ⟨lv, full, h1, h2, h3⟩ := h.blk
 exact ⟨⟨lv, full, h1.kp k (by unfold crc; omega), h2.kp k (by unfold crc; omega), h3⟩, hc, h.reg.kp k (by unfold crc; omega), h.enc.kp k (by unfold crc; omega) (by unfold crc; omega) (by unfold crc; omega) (by unfold crc; omega) (by unfold crc; omega)⟩
theorem Bld.cell0 (h : Bld w col I K st tab B last key cnt) : w.cell? ⟨I.bd, 0, none⟩ = some (.pointer (some ⟨I.ub, 0, none⟩)) := by
 obtain ⟨lv, full, h1, h2, h3⟩ := h.blk
 exact h1.blk.cell 0 rfl
/-- What compileFrom leaves: the builder, what its parts say, the state at the place. -/
structure BS (w : World) (col : Col) (I : Ids) (M : Nat) (K R : List (Nat × Nd)) (st : List Un) (tab : Nat → Nat × Option Nat) (B : List Nat) (last : Nat) (key : List Nat) (cnt : Nat) : Prop where
 bld : Bld w col I K st tab B last key cnt
 reg : RgI tab K R
 len : ∀ q, q ∈ K → q.2.arcs.length ≤ 256
 hd : B.take 16 = header
def CfPost (w : World) (col : Col) (I : Ids) (M : Nat) (P : List Un) (u : Un) (r : List Un) (L : List (List Nat × Nat)) (key : List Nat) (cnt : Nat) (e : Ending) (w' : World) : Prop :=
 e = .returned .nilIface ∧ ∃ (B' : List Nat) (last' : Nat) (R' K' : List (Nat × Nd)) (tab' : Nat → Nat × Option Nat) (u' : Un) (col' : Col), BS w' col' I M K' R' (P ++ [u']) tab' B' last' key cnt ∧ BI codesN backN M B' last' R' (P ++ [u']) L ∧ (r = [] ∧ u' = u ∨ r ≠ [] ∧ ∃ a, u' = close u a) ∧ Kp bdc col w col' w'
/-- A state on its way out: what pending address there is, and what is open. -/
def Pend (M : Nat) (B : List Nat) (last : Nat) (R : List (Nat × Nd)) (L : List (List Nat × Nat)) (ad : Nat) (st s : List Un) : Prop :=
 (ad = 1 ∧ s = [] ∧ BI codesN backN M B last R st L) ∨ (ad ≠ 1 ∧ s ≠ [] ∧ ∃ Q v, st = Q ++ [v] ∧ v.last ≠ none ∧ BI codesN backN M B last R (Q ++ [close v ad]) L)
theorem bi_blen {codes back : Nat → Nat} {M : Nat} {B : List Nat} {last : Nat} {R : List (Nat × Nd)} {st : List Un} {L : List (List Nat × Nat)} (h : BI codes back M B last R st L) : B.length ≤ M ∧ last ≤ M := by
 have h1 := h.room
 have h2 := h.lst
 have h3 := h.h16
 constructor <;> omega
theorem close_len {v : Un} {a : Nat} (h : v.last ≠ none) : (close v a).nd.arcs.length = v.nd.arcs.length + 1 := by
 unfold close
 cases e : v.last with
 | none => exact absurd e h
 | some q => simp
set_option maxHeartbeats 2000000 in
set_option maxRecDepth 100000 in
theorem cfrom_calls {M : Nat} {R : List (Nat × Nd)} {P r : List Un} {u : Un} {L : List (List Nat × Nat)} (h : BS w col I M K R (P ++ u :: r) tab B last key cnt) (hbi : BI codesN backN M B last R (P ++ u :: r) L) (hM : M ≤ 1000000000) (hst : (P ++ u :: r).length ≤ 900000) :
  Calls Tryz.prog 50 #[.pointer (some ⟨I.bd, 0, none⟩), .int .i64 (P.length : Int)] w (CfPost w col I M P u r L key cnt) := by
 have hM60 : M < 2 ^ 60 := by have : (1000000000 : Nat) < 2 ^ 60 := by decide
                              omega
 have H0 := Lib.hid (And.intro h hbi)
 clear h hbi
 obtain ⟨i, hi⟩ : ∃ i, Hid (P.length = i) := ⟨_, Lib.hid rfl⟩
 rw [hi.out]
 have hi9 : i ≤ 900000 := by have := hi.out; simp at hst; omega
 have ei : IntKind.i64.wrap ((i : Int) + 1) = (i : Int) + 1 := IntWalk.i64_in _ (by omega)
 go_enter Tryz.func50, Tryz.ntmps50
 go_wp2_with fail
 go_loopg [5] (r.length + 1) (fun g a5 wx => ∃ (ad : Nat) (rm s : List Un) (K : List (Nat × Nd)) (tab : Nat → Nat × Option Nat) (B : List Nat) (last : Nat) (R : List (Nat × Nd)) (col1 : Col), g = rm.length + 1 ∧ a5 = .int .i64 (ad : Int) ∧ r = rm ++ s ∧ BS wx col1 I M K R (P ++ u :: rm) tab B last key cnt ∧ Pend M B last R L ad (P ++ u :: rm) s ∧ Kp bdc col w col1 wx)
 case atStart => exact ⟨1, r, [], K, tab, B, last, R, col, rfl, rfl, by simp, H0.out.1, .inl ⟨rfl, rfl, H0.out.2⟩, Kp.refl _ _ _⟩
 case round =>
  obtain ⟨ad, rm, s, K, tab, B, last, R, col1, rfl, rfl, hr, hB, hP, hK⟩ := hrel
  clear H0
  have b0 := hB.bld.cell0
  obtain ⟨A, cap, p0, hc1, hc2⟩ := hB.bld.core.row
  have hlen : (((P ++ u :: rm).length : Nat) : Int) = (i : Int) + 1 + (rm.length : Int) := by simp [hi.out]; omega
  obtain ⟨m, hm⟩ : ∃ m, Hid ((P ++ u :: rm).length = m) := ⟨_, Lib.hid rfl⟩
  have hm9 : m ≤ 900000 := by have := hm.out; rw [hr] at hst; simp at hst this; omega
  rw [hm.out] at p0 hlen hc1
  rcases List.eq_nil_or_concat rm with rfl | ⟨rm', x, rfl⟩
  ·as_aux_lemma =>
   have e1 : ¬ (i : Int) + 1 < (m : Int) := by simp at hlen; omega
   have harc : u.nd.arcs.length ≤ 256 := by
    rcases hP with ⟨_, _, h⟩ | ⟨_, _, Q, v, e, hv, h⟩
    ·exact (h.wf (Q := P) (v := u)).m.len
    ·have e2 := List.append_inj' (show P ++ [u] = Q ++ [v] from e) rfl
     simp only [List.cons.injEq, and_true] at e2
     have := (h.wf).m.len
     rw [close_len hv, ← e2.2] at this; omega
   have htl := topl_calls (a := ad) hB.bld.core (by have := hm.out; simp at this; omega) harc
   have HH := Lib.hid (And.intro hB (And.intro hP (And.intro hK hr)))
   clear hB hP hK hr
   go_wp2_with fail
   refine htl.mono ?_
   rintro e w2 ⟨rfl, col2, hC2, hK2⟩
   have HE := Lib.hid (And.intro hC2 hK2)
   clear hC2 hK2 htl
   go_wp2_with fail
   go_ret
   obtain ⟨hB, hP, hK, hr⟩ := HH.out
   obtain ⟨hC2, hK2⟩ := HE.out
   refine ⟨rfl, B, last, R, K, tab, close u ad, col2, ⟨hB.bld.core' hK2 hC2, hB.reg, hB.len, hB.hd⟩, ?_, ?_, hK.trans (kpb hK2 fun d e => crc_bdc e)⟩
   ·rcases hP with ⟨rfl, _, h⟩ | ⟨_, _, Q, v, e, hv, h⟩
    ·obtain ⟨Q, v, p1, p2, p3, p4⟩ := h.shp.parts
     have e2 := (List.append_inj' p1 rfl).2
     simp only [List.cons.injEq, and_true] at e2
     have : close u 1 = u := by unfold close; rw [e2, p3]
     rw [this]; exact h
    ·have e2 := List.append_inj' (show P ++ [u] = Q ++ [v] from e) rfl
     simp only [List.cons.injEq, and_true] at e2
     rw [e2.1, e2.2]; exact h
   ·rcases hP with ⟨rfl, hs, h⟩ | ⟨_, hs, _⟩
    ·left
     obtain ⟨Q, v, p1, p2, p3, p4⟩ := h.shp.parts
     have e2 := (List.append_inj' p1 rfl).2
     simp only [List.cons.injEq, and_true] at e2
     exact ⟨by rw [hr, hs]; rfl, by unfold close; rw [e2, p3]⟩
    ·right
     exact ⟨by rw [hr]; simpa using hs, ad, rfl⟩
  ·have e1 : (i : Int) + 1 < (m : Int) := by simp at hlen; omega
   simp only [List.concat_eq_append] at hB hP hr hm
   rw [show P ++ u :: (rm' ++ [x]) = (P ++ u :: rm') ++ [x] by simp] at hB hP hm
   obtain ⟨Q0, u0, hQ0⟩ : ∃ Q0 u0, P ++ u :: rm' = Q0 ++ [u0] := by
    rcases List.eq_nil_or_concat (P ++ u :: rm') with e | ⟨Q0, u0, e⟩
    ·simp at e
    ·exact ⟨Q0, u0, by simpa using e⟩
   by_cases had : ad = 1
   ·subst had
    have hb1 : BI codesN backN M B last R ((P ++ u :: rm') ++ [x]) L := by
     rcases hP with ⟨_, _, h⟩ | ⟨h, _⟩
     ·exact h
     ·exact absurd rfl h
    have hpp := pope_calls hB.bld.core (by have := hm.out; simp at this; simp; omega)
    as_aux_lemma =>
    have HH := Lib.hid (And.intro hB (And.intro hb1 (And.intro hK hr)))
    clear hB hb1 hK hr hP
    go_wp2_with fail
    refine hpp.mono ?_
    rintro e w2 ⟨xn, col2, rfl, hC2, hK2⟩
    obtain ⟨hB, hb1, hK, hr⟩ := HH.out
    have hB2 := hB.bld.core' hK2 hC2
    have hwf := hb1.wf
    obtain ⟨hbl, hll⟩ := bi_blen hb1
    have hcomp := comp_calls hB2 hB.reg (fun q hq => by
     rcases List.mem_cons.1 hq with e | e
     ·rw [e]; exact hwf.m.len
     ·exact hB.len q e) hwf (by omega) (by omega)
    have hb1' : BI codesN backN M B last R (Q0 ++ [u0, x]) L := by
     rw [hQ0] at hb1; simpa using hb1
    have c0 := hB2.cell0
    have HE := Lib.hid (And.intro hb1' (And.intro (hK.trans (kpb hK2 fun d e => crc_bdc e)) (And.intro hr (And.intro hB.len (And.intro hwf.m.len hB.hd)))))
    clear hB hb1 hb1' hK hr hB2 hC2 hK2 hwf HH hpp
    go_wp2_with fail
    refine hcomp.mono ?_
    rintro e w3 ⟨a, B', last', R', K', tab', col3, rfl, hcmp, hB3, hI3, hsub, hK3⟩
    obtain ⟨hb1, hK, hr, hlK, hlx, hhd⟩ := HE.out
    obtain ⟨ha1, hbi', hu0, -, -⟩ := BI.shut codesOk hM60 hb1 hcmp
    have HG := Lib.hid (And.intro (show BS w3 col3 I M K' R' (P ++ u :: rm') tab' B' last' key cnt from ⟨hB3, hI3, fun q hq => by
     rcases List.mem_cons.1 (hsub q hq) with e | e
     ·rw [e]; exact hlx
     ·exact hlK q e, by
      obtain ⟨C, e, _⟩ := hcmp.grow
      rw [e, List.take_append_of_le_length hb1.h16]; exact hhd⟩) (And.intro hbi' (And.intro (hK.trans hK3) (And.intro hr (And.intro ha1 hu0)))))
    clear hb1 hK hr hlK hlx hhd hcmp hB3 hI3 hsub hK3 hbi' HE hcomp
    go_wp2_with fail
    go_roundg (rm'.length + 1)
    case measure => simp
    case rel =>
     obtain ⟨h1, h2, h3, h4, h5, h6⟩ := HG.out
     exact ⟨a, rm', x :: s, K', tab', B', last', R', col3, rfl, rfl, by rw [h4]; simp, h1, .inr ⟨h5, by simp, Q0, u0, hQ0, h6, h2⟩, h3⟩
   ·have hb0 : x.last ≠ none ∧ BI codesN backN M B last R ((P ++ u :: rm') ++ [close x ad]) L := by
     rcases hP with ⟨h, _⟩ | ⟨_, _, Q, v, e, hv, h⟩
     ·exact absurd h had
     ·obtain ⟨e1, e2⟩ := List.append_inj' e rfl
      simp only [List.cons.injEq, and_true] at e2
      rw [e1, e2]; exact ⟨hv, h⟩
    obtain ⟨hxl, hb1⟩ := hb0
    have hxa : x.nd.arcs.length ≤ 256 := by have := (hb1.wf).m.len; rw [close_len hxl] at this; omega
    have hpp := popf_calls (a := ad) hB.bld.core (by have := hm.out; simp at this; simp; omega) hxl hxa
    have ead : ¬ ((ad : Int) = 1) := by omega
    as_aux_lemma =>
    have HH := Lib.hid (And.intro hB (And.intro hb1 (And.intro hK hr)))
    clear hB hb1 hK hr hP
    go_wp2_with fail
    refine hpp.mono ?_
    rintro e w2 ⟨xn, col2, rfl, hC2, hK2⟩
    obtain ⟨hB, hb1, hK, hr⟩ := HH.out
    have hB2 := hB.bld.core' hK2 hC2
    have hwf := hb1.wf
    obtain ⟨hbl, hll⟩ := bi_blen hb1
    have hcomp := comp_calls hB2 hB.reg (fun q hq => by
     rcases List.mem_cons.1 hq with e | e
     ·rw [e]; exact hwf.m.len
     ·exact hB.len q e) hwf (by omega) (by omega)
    have hb1' : BI codesN backN M B last R (Q0 ++ [u0, close x ad]) L := by
     rw [hQ0] at hb1; simpa using hb1
    have c0 := hB2.cell0
    have HE := Lib.hid (And.intro hb1' (And.intro (hK.trans (kpb hK2 fun d e => crc_bdc e)) (And.intro hr (And.intro hB.len (And.intro hwf.m.len hB.hd)))))
    clear hB hb1 hb1' hK hr hB2 hC2 hK2 hwf HH hpp
    go_wp2_with fail
    refine hcomp.mono ?_
    rintro e w3 ⟨a, B', last', R', K', tab', col3, rfl, hcmp, hB3, hI3, hsub, hK3⟩
    obtain ⟨hb1, hK, hr, hlK, hlx, hhd⟩ := HE.out
    obtain ⟨ha1, hbi', hu0, -, -⟩ := BI.shut codesOk hM60 hb1 hcmp
    have HG := Lib.hid (And.intro (show BS w3 col3 I M K' R' (P ++ u :: rm') tab' B' last' key cnt from ⟨hB3, hI3, fun q hq => by
     rcases List.mem_cons.1 (hsub q hq) with e | e
     ·rw [e]; exact hlx
     ·exact hlK q e, by
      obtain ⟨C, e, _⟩ := hcmp.grow
      rw [e, List.take_append_of_le_length hb1.h16]; exact hhd⟩) (And.intro hbi' (And.intro (hK.trans hK3) (And.intro hr (And.intro ha1 hu0)))))
    clear hb1 hK hr hlK hlx hhd hcmp hB3 hI3 hsub hK3 hbi' HE hcomp
    go_wp2_with fail
    go_roundg (rm'.length + 1)
    case measure => simp
    case rel =>
     obtain ⟨h1, h2, h3, h4, h5, h6⟩ := HG.out
     exact ⟨a, rm', x :: s, K', tab', B', last', R', col3, rfl, rfl, by rw [h4]; simp, h1, .inr ⟨h5, by simp, Q0, u0, hQ0, h6, h2⟩, h3⟩
end
end
section
open Go.RowKit Fmt
section
variable {codes back : Nat → Nat} {M : Nat} {B : List Nat} {last : Nat} {R : List (Nat × Nd)} {st : List Un} {L : List (List Nat × Nat)}
theorem ins_plain (h : BI codes back M B last R st L) {k0 key : List Nat} {val : Nat} (hr : Rst st k0) (hk : klt k0 key) (hkb : ∀ x, x ∈ key → x < 256) (hv : val < 2 ^ 64) :
  ∃ P u r b l, (cpre key val st).2.2 = P ++ u :: r ∧ P.length = (cpre key val st).1 ∧ key.drop (cpre key val st).1 = b :: l ∧ BI codes back M B last R (P ++ u :: r) L ∧
   ∀ B' last' R' u', BI codes back M B' last' R' (P ++ [u']) L → (r = [] ∧ u' = u ∨ r ≠ [] ∧ ∃ a, u' = close u a) →
    BI codes back (M + 28 * key.length) B' last' R' (P ++ ⟨u'.nd, some (b, (cpre key val st).2.1)⟩ :: chain l) (L ++ [(key, val)]) ∧ Rst (P ++ ⟨u'.nd, some (b, (cpre key val st).2.1)⟩ :: chain l) key := by
 obtain ⟨Q, w, p1, p2, p3, p4⟩ := h.shp.parts
 obtain ⟨P, u, r, b, l, c1, c2, c3, c4⟩ := cpre_end key val st Q w p1 p3 p2 (by rw [hr.key]; exact hk)
 have hb0 : BI codes back M B last R (P ++ u :: r) L := by
  have := h.cpre key val [] st
  simp only [List.nil_append] at this
  rw [← c1]; exact this
 have hne : st ≠ [] := by rw [p1]; simp
 obtain ⟨P', x, d1, d2, d3, d4, d5, d6, d7⟩ := cpre_along key val st hne
 have hPP : P' = P := by
  rw [c1] at d1
  exact ((List.append_inj d1 (by rw [c2, d3])).1).symm
 subst hPP
 refine ⟨P', u, r, b, l, c1, c2, c3, hb0, fun B' last' R' u' hb hu => ?_⟩
 have hleaf : w.nd.arcs = [] := hr.leaf Q w p1
 obtain ⟨Q2, w2, s1, s2, s3, s4⟩ := hb0.shp.parts
 obtain ⟨Q3, w3, t1, t2, t3, t4⟩ := hb.shp.parts
 have e3 := List.append_inj' t1 rfl
 simp only [List.cons.injEq, and_true] at e3
 have hul : u'.last = none := by rw [e3.2]; exact t3
 have hlt : ∀ t, t ∈ u'.nd.arcs → t.1 < b := by
  rcases hu with ⟨hr0, rfl⟩ | ⟨hr0, a, rfl⟩
  ·subst hr0
   have e2 := List.append_inj' s1 rfl
   simp only [List.cons.injEq, and_true] at e2
   rcases c4 with ⟨g1, g2, g3⟩ | ⟨i, lo, g1, g2⟩
   ·rw [hleaf] at g3
    intro t ht
    rw [List.length_eq_zero_iff.1 g3] at ht; cases ht
   ·rw [e2.2, s3] at g1; cases g1
  ·rcases c4 with ⟨g1, g2, g3⟩ | ⟨i, lo, g1, g2⟩
   ·exact absurd g2 hr0
   ·have hg := hb0.good u (by simp)
    have hlb := hg.lb i lo g1
    intro t ht
    unfold close at ht
    rw [g1] at ht
    simp only [List.mem_append, List.mem_singleton] at ht
    rcases ht with ht | ht
    ·have := hlb.2 t ht; omega
    ·rw [ht]; exact g2
 have hmem : ∀ x, x ∈ b :: l → x < 256 := fun x hx => hkb x (List.mem_of_mem_drop (by rw [c3]; exact hx))
 exact hb.suffix d4 hul hmem hlt (by rw [d5, ← c3, List.take_append_drop]) d6 hv
theorem bi_bd (h : BI codes back M B last R st L) {u : Un} {i : Nat} (hu : st[i]? = some u) : Bd u ∧ (u.last ≠ none → i + 1 < st.length) := by
 have hil := (List.getElem?_eq_some_iff.1 hu).1
 have hs : st = st.take i ++ u :: st.drop (i + 1) := by
  rw [← (List.getElem?_eq_some_iff.1 hu).2, ← List.drop_eq_getElem_cons hil, List.take_append_drop]
 obtain ⟨h1, h2, h3⟩ := h.sml hs
 have hg := h.good u (List.mem_of_getElem? hu)
 refine ⟨⟨?_, fun t ht => by simpa using h1 t ht, by simpa using h2, fun a o e => by simpa using h3 a o e⟩, fun hl => ?_⟩
 ·have := inc_len hg.inc (fun x hx => by obtain ⟨t, ht, rfl⟩ := List.mem_map.1 hx; exact hg.byte t ht)
  simpa using this
 ·obtain ⟨Q, w, p1, p2, p3, p4⟩ := h.shp.parts
  rcases Nat.lt_or_ge (i + 1) st.length with hlt | hge
  ·exact hlt
  ·have hi : i = Q.length := by rw [p1] at hil hge; simp at hil hge; omega
   rw [p1, hi, List.getElem?_append_right (Nat.le_refl _), Nat.sub_self] at hu
   simp only [List.getElem?_cons_zero, Option.some.injEq] at hu
   rw [← hu] at hl; exact absurd p3 hl
theorem along_len : ∀ (Q : List Un) (w : Un), (∀ u, u ∈ Q → u.last ≠ none) → w.last = none → (along (Q ++ [w])).1.length = Q.length
 | [], w, _, h => by simp [along, h]
 | u :: Q, w, hQ, h => by
  have hu := hQ u (by simp)
  cases e : u.last with
  | none => exact absurd e hu
  | some q =>
   simp only [List.cons_append, along, e, List.length_cons]
   rw [along_len Q w (fun x hx => hQ x (by simp [hx])) h]
theorem rst_len (h : BI codes back M B last R st L) {k0 : List Nat} (hr : Rst st k0) : st.length = k0.length + 1 := by
 obtain ⟨Q, w, p1, p2, p3, p4⟩ := h.shp.parts
 rw [← hr.key, p1, along_len Q w p2 p3]; simp
end
end
end Go.Proofs.YtmhlnijpimjjaaaGreatDoor
