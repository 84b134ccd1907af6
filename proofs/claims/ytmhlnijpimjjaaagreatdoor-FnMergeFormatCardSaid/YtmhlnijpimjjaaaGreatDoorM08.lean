/- make of a row of one-cell elements; rows of bytes and of numbers as values. No condition. The library's functions of package bytes as this program holds them: what the kit's contracts ask. Printed by the kit's own laying command. No condition. (*bytes.Buffer).Write of this program, with a frame that names what is written. Condition: at most 2^40 bytes. (*bytes.Buffer).Write of this program: the bytes go to the end, and only the buffer's own blocks are written. Condition: at least one byte, at most 2^40. The buffered writer of package bufio over a bytes.Buffer: Flush, WriteByte. Condition: at most 2^40 bytes. -/
import Derived.Test.YtmhlnijpimjjaaaGreatDoorM03
import Derived.Laws.MakeOwn
import Derived.Test.YtmhlnijpimjjaaaGreatDoorChecked
import Derived.Shelf.Abstract
import Derived.Shelf.LaysM
import Derived.Shelf.Vars
import Derived.Shelf.Bytes.GrowOwn
import Derived.Shelf.Bytes.TryGrow
import Derived.Shelf.Bytes.GrowSlice
import Derived.Shelf.Bytes.Len
import Derived.Shelf.Bytes.Bytes
import Derived.Laws.IdiomCopy
import Derived.Deep.Draws
import Derived.Lib.BufferSrc
import Derived.Laws.CopyRow
set_option linter.unusedSimpArgs false
set_option linter.unusedVariables false
set_option linter.unnecessarySimpa false
namespace Go.Proofs.YtmhlnijpimjjaaaGreatDoor
section
open Go.RowKit
theorem madeCells_one (z : Value) (n : Nat) : madeCells #[z] n = (List.replicate n z).toArray := by
 apply Array.ext'
 simp only [madeCells, Array.toList_map, Array.toList_range]
 apply List.ext_getElem
 ·simp
 ·intro i h1 h2
  simp [Nat.mod_one]
/-- 'make([]T, l, c)', T of one cell: an equation for every world. -/
theorem run_mk (t e : TypeId) (z : Value) (bytes : Nat) (ht : Tryz.prog.underlying t = some (.slice e)) (hinfo : (Tryz.prog.info? e).map (fun i => (i.zero, i.size, i.bytes)) = some (some z, 1, bytes)) (hz1 : z.cells = #[z])
  (k1 k2 : IntKind) (l c : Nat) (hlc : l ≤ c) (hn : bytes * c ≤ 281474976710656) (h63 : c ≤ 9223372036854775807) (w : World) :
  (Instr.makeSlice t (.int k1 (l : Int)) (.int k2 (c : Int))).run Tryz.prog w = .ok (.slice (some ⟨w.heap.size, 0, none⟩) l c) (w.alloc (.cells (List.replicate c z).toArray e)) := by
 obtain ⟨i0, hi, hzz⟩ := Option.map_eq_some_iff.1 hinfo
 simp only [Prod.mk.injEq] at hzz
 obtain ⟨hz0, hs, hb⟩ := hzz
 have h := run_make (P := Tryz.prog) w t e i0 z ht hi hz0 k1 k2 (l : Int) (c : Int) (by omega) (by omega) (by rw [hb, ← Int.natCast_mul]; exact Int.ofNat_le.2 hn) (by omega)
 rw [h, hz1, hs]
 simp [madeCells_one]
/-- A row of bytes. -/
def u8s (l : List Nat) : List Value := l.map fun x : Nat => Value.int .u8 (x : Int)
theorem u8s_len (l : List Nat) : (u8s l).length = l.length := by simp [u8s]
theorem u8s_at {l : List Nat} {i x : Nat} (h : l[i]? = some x) : (u8s l)[i]? = some (.int .u8 (x : Int)) := by simp [u8s, h]
theorem u8s_set (l : List Nat) (i x : Nat) : (u8s l).set i (.int .u8 (x : Int)) = u8s (l.set i x) := by simp [u8s, List.map_set]
theorem u8s_app (a b : List Nat) : u8s (a ++ b) = u8s a ++ u8s b := by simp [u8s]
theorem u8s_take (l : List Nat) (n : Nat) : (u8s l).take n = u8s (l.take n) := by simp [u8s]
theorem u8s_drop (l : List Nat) (n : Nat) : (u8s l).drop n = u8s (l.drop n) := by simp [u8s]
theorem u8s_one (l : List Nat) : ∀ u, u ∈ u8s l → u.oneCell' = true := by
 intro u hu
 obtain ⟨x, _, rfl⟩ := List.mem_map.1 hu
 rfl
theorem run_mk_u8 (l c : Nat) (hlc : l ≤ c) (hn : c ≤ 17592186044416) (k1 k2 : IntKind) (w : World) :
  (Instr.makeSlice 29 (.int k1 (l : Int)) (.int k2 (c : Int))).run Tryz.prog w = .ok (.slice (some ⟨w.heap.size, 0, none⟩) l c) (w.alloc (.cells (u8s (List.replicate c 0)).toArray 5)) := by
 have h := run_mk 29 5 (.int .u8 0) 1 Tryz.underlying29 (by kernel_rfl) rfl k1 k2 l c hlc (by omega) (by omega) w
 rw [h]; simp [u8s]
end
section
open Go.Shelf
def lays180_ren : Go.Shelf.Ren := ⟨fun | 180 => 182 | 251 => 183 | 252 => 184 | 181 => 118 | 184 => 116 | 290 => 185 | 324 => 186 | n => n, fun | 130 => 56 | 37 => 29 | 3 => 3 | 75 => 54 | 0 => 0 | 93 => 52 | 91 => 50 | 131 => 269 | 4 => 4 | 20 => 20 | 5 => 5 | 80 => 233 | 9 => 9 | n => n, fun | 14 => 7 | n => n⟩
theorem lays180 : Go.Proofs.LaysM.n180 Tryz.prog lays180_ren := {
 mixed := by kernel_rfl
 f180 := Tryz.func182.trans (congrArg some (by kernel_rfl))
 f181 := Tryz.func118.trans (congrArg some (by kernel_rfl))
 f184 := Tryz.func116.trans (congrArg some (by kernel_rfl))
 f251 := Tryz.func183.trans (congrArg some (by kernel_rfl))
 f252 := Tryz.func184.trans (congrArg some (by kernel_rfl))
 f290 := Tryz.func185.trans (congrArg some (by kernel_rfl))
 f324 := Tryz.func186.trans (congrArg some (by kernel_rfl))
 t0 := Tryz.underlying0
 a0 := Tryz.isAgg0
 z0 := Tryz.sizeOf0
 v0 := Tryz.zeroValue0
 t3 := Tryz.underlying3
 a3 := Tryz.isAgg3
 z3 := Tryz.sizeOf3
 v3 := Tryz.zeroValue3
 t4 := Tryz.underlying4
 a4 := Tryz.isAgg4
 z4 := Tryz.sizeOf4
 v4 := Tryz.zeroValue4
 t20 := Tryz.underlying20
 a20 := Tryz.isAgg20
 z20 := Tryz.sizeOf20
 v20 := Tryz.zeroValue20
 t37 := Tryz.underlying29
 a37 := Tryz.isAgg29
 z37 := Tryz.sizeOf29
 v37 := Tryz.zeroValue29
 t75 := Tryz.underlying54
 a75 := Tryz.isAgg54
 z75 := Tryz.sizeOf54
 v75 := Tryz.zeroValue54
 t91 := Tryz.underlying50
 a91 := Tryz.isAgg50
 z91 := Tryz.sizeOf50
 v91 := Tryz.zeroValue50
 t93 := Tryz.underlying52
 a93 := Tryz.isAgg52
 z93 := Tryz.sizeOf52
 v93 := Tryz.zeroValue52
 t130 := Tryz.underlying56
 a130 := Tryz.isAgg56
 z130 := Tryz.sizeOf56
 v130 := Tryz.zeroValue56
 t131 := Tryz.underlying269
 a131 := Tryz.isAgg269
 z131 := Tryz.sizeOf269
 v131 := Tryz.zeroValue269
 g14 := by kernel_rfl
 t5 := Tryz.underlying5
 a5 := Tryz.isAgg5
 z5 := Tryz.sizeOf5
 v5 := Tryz.zeroValue5
 t9 := Tryz.underlying9
 a9 := Tryz.isAgg9
 z9 := Tryz.sizeOf9
 v9 := Tryz.zeroValue9
 t80 := Tryz.underlying233
 a80 := Tryz.isAgg233
 z80 := Tryz.sizeOf233
 v80 := Tryz.zeroValue233
 i0 := by kernel_rfl
 i3 := by kernel_rfl
 i4 := by kernel_rfl
 i5 := by kernel_rfl
 i9 := by kernel_rfl
 i20 := by kernel_rfl
 i37 := by kernel_rfl
 i75 := by kernel_rfl
 i80 := by kernel_rfl
 i91 := by kernel_rfl
 i93 := by kernel_rfl
 i130 := by kernel_rfl
 i131 := by kernel_rfl
 m14 := by kernel_rfl }
def lays187_ren : Go.Shelf.Ren := ⟨fun | 187 => 180 | 255 => 181 | n => n, fun | 37 => 29 | 5 => 5 | 3 => 3 | n => n, fun | n => n⟩
theorem lays187 : Go.Proofs.Lays.n187 Tryz.prog lays187_ren := {
 mixed := by kernel_rfl
 f187 := Tryz.func180.trans (congrArg some (by kernel_rfl))
 f255 := Tryz.func181.trans (congrArg some (by kernel_rfl))
 t3 := Tryz.underlying3
 a3 := Tryz.isAgg3
 z3 := Tryz.sizeOf3
 v3 := Tryz.zeroValue3
 t5 := Tryz.underlying5
 a5 := Tryz.isAgg5
 z5 := Tryz.sizeOf5
 v5 := Tryz.zeroValue5
 t37 := Tryz.underlying29
 a37 := Tryz.isAgg29
 z37 := Tryz.sizeOf29
 v37 := Tryz.zeroValue29 }
end
section
open Go.RowKit

/-- A bytes.Buffer in block b whose slice is v: l bytes at the head of a row. -/
structure BufA (w : World) (b : Nat) (v : Value) (l : Nat) (full : List Value) : Prop where
 blk : ∃ lr : Int, Blk w b [v, .int .i64 0, .int .i8 lr] 52
 row : RowF w 5 1 v l full
 one : ∀ u, u ∈ full.take l → u.oneCell' = true
theorem BufA.ne {w : World} {b : Nat} {v : Value} {l : Nat} {full : List Value} (h : BufA w b v l full) : v.ownBlock ≠ some b := by
 intro e
 obtain ⟨lr, hb⟩ := h.blk
 rcases h.row with ⟨rfl, _⟩ | ⟨g, cap, rfl, hg, _⟩
 ·simp [Value.ownBlock] at e
 ·simp [Value.ownBlock] at e
  subst e
  exact absurd (hb.inj hg).2 (by decide)
theorem BufA.is {w : World} {b : Nat} {v : Value} {l : Nat} {full : List Value} (h : BufA w b v l full) : Lib.IsBuffer 52 5 0 b (full.take l) w := by
 have hne := h.ne
 obtain ⟨lr, hb⟩ := h.blk
 rcases h.row with ⟨rfl, rfl, rfl⟩ | ⟨g, cap, rfl, hg, h1, h2, h3⟩
 ·exact ⟨Nat.zero_le _, _, lr, hb, by simpa using World.ownsRow_nil w 0 5 1, hne⟩
 ·have hlen : (full.take l).length = l := by rw [List.length_take, h3]; omega
  refine ⟨Nat.zero_le _, _, lr, hb, ⟨by rw [hlen]; omega, .inr ⟨g, cap, full.toArray, by rw [hlen], Nat.zero_le _, hg, by rw [hlen]; exact h1, h2, by simpa using h3, by rw [hlen]; simp⟩⟩, hne⟩

theorem tg_room (b : Nat) (ao : Option Addr) (l cap n : Nat) (w : World) (c0 : w.cell? ⟨b, 0, none⟩ = some (.slice ao l cap)) (f0 : w.frozen? ⟨b, 0, none⟩ = false) (hlc : l ≤ cap) (hcap : cap ≤ maxLen) (hn : n ≤ cap - l) :
  Calls Tryz.prog 183 #[.pointer (some ⟨b, 0, none⟩), .int .i64 n] w fun e w' => e = .returned (.tuple #[.int .i64 l, .bool true]) ∧ w' = w.setCell ⟨b, 0, none⟩ (.slice ao (l + n) cap) :=
 Any.Buffer_tryGrow_room { lays180 with } b ao l cap n w c0 f0 hlc hcap hn
theorem tg_none (b : Nat) (ao : Option Addr) (l cap n : Nat) (w : World) (c0 : w.cell? ⟨b, 0, none⟩ = some (.slice ao l cap)) (hlc : l ≤ cap) (hcap : cap ≤ maxLen) (hn : cap - l < n) :
  Calls Tryz.prog 183 #[.pointer (some ⟨b, 0, none⟩), .int .i64 n] w fun e w' => e = .returned (.tuple #[.int .i64 0, .bool false]) ∧ w' = w :=
 Any.Buffer_tryGrow_none { lays180 with } b ao l cap n w c0 hlc hcap hn
theorem gs_row (g l c n : Nat) (cur : Array Value) (w : World) (hg : w.heap[g]? = some (.cells cur 5 (0, 0))) (hcs : cur.size = c) (hlc : l ≤ c) (hn : 1 ≤ n) (hlim : l + n ≤ 140737488355328) (hc2 : c ≤ 140737488355328) (h1 : ∀ v ∈ cur.toList.take l, v.oneCell' = true) :
  Calls Tryz.prog 185 #[.slice (some ⟨g, 0, none⟩) l c, .int .i64 n] w fun e w' => ∃ cap2 cells, e = .returned (.slice (some ⟨w.heap.size, 0, none⟩) l cap2) ∧ w'.heap[w.heap.size]? = some (.cells cells 5 (0, 0)) ∧ cells.size = cap2 ∧ cells.toList.take l = cur.toList.take l ∧ l + n ≤ cap2 ∧ cap2 ≤ maxLen ∧ Below w.heap.size w w' :=
 Any.bytes_growSlice_row { lays180 with } g l c n cur w hg hcs hlc hn hlim hc2 h1
theorem gs_nil (n : Nat) (w : World) (hn : 1 ≤ n) (hlim : n ≤ 140737488355328) :
  Calls Tryz.prog 185 #[.slice none 0 0, .int .i64 n] w fun e w' => ∃ cap2 cells, e = .returned (.slice (some ⟨w.heap.size, 0, none⟩) 0 cap2) ∧ w'.heap[w.heap.size]? = some (.cells cells 5 (0, 0)) ∧ cells.size = cap2 ∧ n ≤ cap2 ∧ cap2 ≤ maxLen ∧ Below w.heap.size w w' :=
 Any.bytes_growSlice_nil { lays180 with } n w hn hlim
theorem b_len (b : Nat) (bs : List Value) (w : World) (h : Lib.IsBuffer 52 5 0 b bs w) : Calls Tryz.prog 118 #[.pointer (some ⟨b, 0, none⟩)] w fun e w' => e = .returned (.int .i64 bs.length) ∧ ∃ n, w' = w.drewN n :=
 Any.Buffer_Len { lays180 with } 0 b bs w h

theorem nil_some (g l c : Nat) (W : World) : (binOp .eql 29 (.slice (some ⟨g, 0, none⟩) l c) (.slice none 0 0)).run Tryz.prog W = .ok (.bool false) W := Lib.run_eql_slice_some_nil W _ _ _ Tryz.underlying29

/-- What grow leaves: the buffer's slice is one longer row, new. -/
def GrowPost (w : World) (b l n : Nat) (full : List Value) (e : Ending) (w' : World) : Prop :=
 e = .returned (.int .i64 l) ∧ ∃ (N cap : Nat) (cells : List Value) (lr : Int), Blk w' b [.slice (some ⟨N, 0, none⟩) (l + n) cap, .int .i64 0, .int .i8 lr] 52 ∧ Blk w' N cells 5 ∧ cells.length = cap ∧ l + n ≤ cap ∧ cap ≤ maxLen ∧ cells.take l = full.take l ∧ w.heap.size ≤ N ∧ Fr (fun k => k = b) w w'

set_option maxHeartbeats 4000000 in
set_option maxRecDepth 100000 in
theorem bgrow_row {w : World} {b g l cap n : Nat} {lr : Int} {full : List Value} (hb : Blk w b [.slice (some ⟨g, 0, none⟩) l cap, .int .i64 0, .int .i8 lr] 52) (hg : Blk w g full 5) (hlc : l ≤ cap) (hcm : cap ≤ maxLen) (hcs : full.length = cap) (h1 : ∀ u ∈ full.take l, u.oneCell' = true)
  (hn : 1 ≤ n) (hroom : cap - l < n) (hlim : l + n ≤ 1099511627776) (hl0 : 0 < l) : Calls Tryz.prog 184 #[.pointer (some ⟨b, 0, none⟩), .int .i64 n] w (GrowPost w b l n full) := by
 have hA : BufA w b (.slice (some ⟨g, 0, none⟩) l cap) l full := ⟨⟨lr, hb⟩, .inr ⟨g, cap, rfl, hg, hlc, hcm, by simpa using hcs⟩, h1⟩
 have hI := hA.is
 have hlen : (full.take l).length = l := by rw [List.length_take, hcs]; omega
 have hL := b_len b _ w hI
 rw [hlen] at hL
 have hnil := nil_some g l cap
 have e1 : ((l : Int) == 0) = false := by rw [beq_eq_false_iff_ne]; omega
 have hcap : cap ≤ 1099511627776 + 0 := by omega
 have e2 : ¬ ((n : Int) ≤ IntKind.i64.wrap ((cap : Int).tdiv 2 - ((l : Nat) : Int))) := by
  rw [IntKind.wrap_i64]
  have : (cap : Int).tdiv 2 = ((cap / 2 : Nat) : Int) := by rw [Int.tdiv_eq_ediv_of_nonneg (by omega)]; omega
  omega
 have hwn : IntKind.i64.wrap (n : Int) = n := by rw [IntKind.wrap_i64]; omega
 have HH := Lib.hid (And.intro hb (And.intro hg h1))
 clear hb hg h1 hA hI hlen
 go_enter Tryz.func184, Tryz.ntmps184
 go_wp2_with fail
 refine hL.mono ?_
 rintro e W0 ⟨rfl, k, hW0⟩
 obtain ⟨hb, hg, h1⟩ := HH.out
 have hb0 : Blk W0 b [.slice (some ⟨g, 0, none⟩) l cap, .int .i64 0, .int .i8 lr] 52 := by rw [hW0]; exact hb
 have hg0 : Blk W0 g full 5 := by rw [hW0]; exact hg
 have hF0 : Fr (fun k => k = b) w W0 := by rw [hW0]; exact (Fr.refl _ w).drewN k
 have c0 := hb0.cell 0 rfl
 have c1 := hb0.cell 1 rfl
 have hT := tg_none b _ l cap n W0 c0 hlc hcm hroom
 have H0 := Lib.hid (And.intro hb0 (And.intro hg0 hF0))
 have hone := h1
 clear hb hg h1 hL hW0 hb0 hg0 hF0 HH
 go_wp2_with (first | (go_at_call 183; refine hT.mono ?_; rintro e w' ⟨rfl, rfl⟩) | fail)
 obtain ⟨hb0, hg0, hF0⟩ := H0.out
 have H0 := Lib.hid (And.intro hb0 (And.intro hg0 (And.intro hF0 hone)))
 clear hb0 hg0 hF0 hone
 refine wp_region_seqV (fun w' => w'.cell? ⟨b, 0, none⟩ = some (.slice (some ⟨g, 0, none⟩) l cap) ∧ w'.cell? ⟨b, 1, none⟩ = some (.int .i64 0)) (fun i => decide (i ≠ 16 ∧ i ≠ 19)) (fun i => ![4, 8, 13].contains i && decide (i ≠ 16 ∧ i ≠ 19)) (fun i => decide (i = 19)) [0, 1, 2, 3, 4, 5, 6, 7, 8, 9, 10, 11, 12, 13, 14, 15, 16, 17, 18, 19] (by kernel_rfl) (by kernel_rfl) (fun c a d v w h => by cases d <;> exact h) ⟨c0, c1⟩ ?_
 iterate 4 (apply seqV_pure (ho := rfl) (hr := rfl) (hg := rfl); (intro w'; go_simp; rfl))
 (apply seqV_read (ho := rfl) (hr := rfl) (hp := rfl) (hg := rfl); (rintro w' ⟨q1, q2⟩; go_simp; rfl))
 iterate 3 (apply seqV_pure (ho := rfl) (hr := rfl) (hg := rfl); (intro w'; go_simp; rfl))
 (apply seqV_read (ho := rfl) (hr := rfl) (hp := rfl) (hg := rfl); (rintro w' ⟨q1, q2⟩; go_simp; rfl))
 iterate 4 (apply seqV_pure (ho := rfl) (hr := rfl) (hg := rfl); (intro w'; go_simp; rfl))
 (apply seqV_read (ho := rfl) (hr := rfl) (hp := rfl) (hg := rfl); (rintro w' ⟨q1, q2⟩; go_simp; rfl))
 iterate 2 (apply seqV_pure (ho := rfl) (hr := rfl) (hg := rfl); (intro w'; go_simp; rfl))
 refine seqV_do rfl rfl fun K hK => ?_
 go_simp
 obtain ⟨hb0, hg0, hF0, hone⟩ := H0.out
 refine (gs_row g l cap n full.toArray _ hg0.drew (by simpa using hcs) hlc hn (by omega) (by omega) (by simpa using hone)).mono ?_
 rintro e w2 ⟨cap2, cells, rfl, hN, hcsz, htk, hcap2, hcm2, hbel⟩
 have hb2 : Blk w2 b [.slice (some ⟨g, 0, none⟩) l cap, .int .i64 0, .int .i8 lr] 52 := (hbel.block b hb0.lt).trans hb0
 have hs1 := hb2.set 0 (.slice (some ⟨w'.heap.size, 0, none⟩) l cap2)
 have hs2 := hs1.set 1 (.int .i64 0)
 have hs3 := hs2.set 0 (.slice (some ⟨w'.heap.size, 0, none⟩) (l + n) cap2)
 have d0 := hb2.cell 0 rfl
 have z0 := hb2.frz 0
 have d1 := hs1.cell 1 rfl
 have z1 := hs1.frz 1
 have d2 := hs2.cell 0 rfl
 have z2 := hs2.frz 0
 have hbel' : Fr (fun _ => False) w' w2 := ⟨hbel.os, hbel.tape, hbel.output, hbel.size, fun k hk _ => hbel.block k hk⟩
 have hNb : w'.heap.size ≠ b := by have := hb0.lt; omega
 have HE := Lib.hid (And.intro hs3 (And.intro hbel' (And.intro hF0 (And.intro hN (And.intro hcsz (And.intro htk (And.intro hcap2 (And.intro hcm2 hNb))))))))
 refine hK _ _ (fun _ => ⟨d0, hb2.cell 1 rfl⟩) ?_
 clear hK K hs1 hs2 hs3 hb2 hbel hbel' hb0 hg0 hF0 hone H0 hN hcsz htk hNb
 iterate 2 (apply seqV_pure (ho := rfl) (hr := rfl) (hg := rfl); (intro w'; go_simp; rfl))
 refine seqV_do rfl rfl fun K hK => ?_
 go_simp
 refine hK _ _ (fun h => by cases h) ?_
 clear hK K
 unfold seqV
 have e5 : ((l + n : Nat) : Int) ≤ (cap2 : Int) := by omega
 unfold maxLen at hcm2
 go_wp2_with fail
 go_ret
 obtain ⟨hs3, hbel', hF0, hN, hcsz, htk, hcap2, hcm2, hNb⟩ := HE.out
 refine ⟨rfl, w'.heap.size, cap2, cells.toList, lr, hs3, ?_, by simpa using hcsz, hcap2, hcm2, by simpa using htk, hF0.size, ?_⟩
 ·have hN' : Blk w2 w'.heap.size cells.toList 5 := by unfold Blk; simpa using hN
  exact ((hN'.set_ne hNb _).set_ne hNb _).set_ne hNb _
 ·exact (((hF0.trans hbel' (fun _ _ h => h.elim)).setCell (fun _ => rfl) _).setCell (fun _ => rfl) _).setCell (fun _ => rfl) _
set_option maxHeartbeats 4000000 in
set_option maxRecDepth 100000 in
theorem bgrow_row0 {w : World} {b g cap n : Nat} {lr : Int} {full : List Value} (hb : Blk w b [.slice (some ⟨g, 0, none⟩) 0 cap, .int .i64 0, .int .i8 lr] 52) (hg : Blk w g full 5) (hlc : 0 ≤ cap) (hcm : cap ≤ maxLen) (hcs : full.length = cap) (h1 : ∀ u ∈ full.take 0, u.oneCell' = true)
  (hn : 1 ≤ n) (hroom : cap - 0 < n) (hlim : 0 + n ≤ 1099511627776) : Calls Tryz.prog 184 #[.pointer (some ⟨b, 0, none⟩), .int .i64 n] w (GrowPost w b 0 n full) := by
 have hA : BufA w b (.slice (some ⟨g, 0, none⟩) 0 cap) 0 full := ⟨⟨lr, hb⟩, .inr ⟨g, cap, rfl, hg, hlc, hcm, by simpa using hcs⟩, h1⟩
 have hI := hA.is
 have hlen : (full.take 0).length = 0 := by rw [List.length_take, hcs]; omega
 have hL := b_len b _ w hI
 rw [hlen] at hL
 have hnil := nil_some g 0 cap
 have hcap : cap ≤ 1099511627776 + 0 := by omega
 have e2 : ¬ ((n : Int) ≤ IntKind.i64.wrap ((cap : Int).tdiv 2 - ((0 : Nat) : Int))) := by
  rw [IntKind.wrap_i64]
  have : (cap : Int).tdiv 2 = ((cap / 2 : Nat) : Int) := by rw [Int.tdiv_eq_ediv_of_nonneg (by omega)]; omega
  omega
 have hwn : IntKind.i64.wrap (n : Int) = n := by rw [IntKind.wrap_i64]; omega
 have HH := Lib.hid (And.intro hb (And.intro hg h1))
 clear hb hg h1 hA hI hlen
 go_enter Tryz.func184, Tryz.ntmps184
 go_wp2_with fail
 refine hL.mono ?_
 rintro e W0 ⟨rfl, k, hW0⟩
 obtain ⟨hb, hg, h1⟩ := HH.out
 have hb0 : Blk W0 b [.slice (some ⟨g, 0, none⟩) 0 cap, .int .i64 0, .int .i8 lr] 52 := by rw [hW0]; exact hb
 have hg0 : Blk W0 g full 5 := by rw [hW0]; exact hg
 have hF0 : Fr (fun k => k = b) w W0 := by rw [hW0]; exact (Fr.refl _ w).drewN k
 have c0 := hb0.cell 0 rfl
 have c1 := hb0.cell 1 rfl
 have hT := tg_none b _ 0 cap n W0 c0 hlc hcm hroom
 have H0 := Lib.hid (And.intro hb0 (And.intro hg0 hF0))
 have hone := h1
 clear hb hg h1 hL hW0 hb0 hg0 hF0 HH
 go_wp2_with (first | (go_at_call 183; refine hT.mono ?_; rintro e w' ⟨rfl, rfl⟩) | fail)
 obtain ⟨hb0, hg0, hF0⟩ := H0.out
 have H0 := Lib.hid (And.intro hb0 (And.intro hg0 (And.intro hF0 hone)))
 clear hb0 hg0 hF0 hone
 refine wp_region_seqV (fun w' => w'.cell? ⟨b, 0, none⟩ = some (.slice (some ⟨g, 0, none⟩) 0 cap) ∧ w'.cell? ⟨b, 1, none⟩ = some (.int .i64 0)) (fun i => decide (i ≠ 16 ∧ i ≠ 19)) (fun i => ![4, 8, 13].contains i && decide (i ≠ 16 ∧ i ≠ 19)) (fun i => decide (i = 19)) [0, 1, 2, 3, 4, 5, 6, 7, 8, 9, 10, 11, 12, 13, 14, 15, 16, 17, 18, 19] (by kernel_rfl) (by kernel_rfl) (fun c a d v w h => by cases d <;> exact h) ⟨c0, c1⟩ ?_
 iterate 4 (apply seqV_pure (ho := rfl) (hr := rfl) (hg := rfl); (intro w'; go_simp; rfl))
 (apply seqV_read (ho := rfl) (hr := rfl) (hp := rfl) (hg := rfl); (rintro w' ⟨q1, q2⟩; go_simp; rfl))
 iterate 3 (apply seqV_pure (ho := rfl) (hr := rfl) (hg := rfl); (intro w'; go_simp; rfl))
 (apply seqV_read (ho := rfl) (hr := rfl) (hp := rfl) (hg := rfl); (rintro w' ⟨q1, q2⟩; go_simp; rfl))
 iterate 4 (apply seqV_pure (ho := rfl) (hr := rfl) (hg := rfl); (intro w'; go_simp; rfl))
 (apply seqV_read (ho := rfl) (hr := rfl) (hp := rfl) (hg := rfl); (rintro w' ⟨q1, q2⟩; go_simp; rfl))
 iterate 2 (apply seqV_pure (ho := rfl) (hr := rfl) (hg := rfl); (intro w'; go_simp; rfl))
 refine seqV_do rfl rfl fun K hK => ?_
 go_simp
 obtain ⟨hb0, hg0, hF0, hone⟩ := H0.out
 refine (gs_row g 0 cap n full.toArray _ hg0.drew (by simpa using hcs) hlc hn (by omega) (by omega) (by simpa using hone)).mono ?_
 rintro e w2 ⟨cap2, cells, rfl, hN, hcsz, htk, hcap2, hcm2, hbel⟩
 have hb2 : Blk w2 b [.slice (some ⟨g, 0, none⟩) 0 cap, .int .i64 0, .int .i8 lr] 52 := (hbel.block b hb0.lt).trans hb0
 have hs1 := hb2.set 0 (.slice (some ⟨w'.heap.size, 0, none⟩) 0 cap2)
 have hs2 := hs1.set 1 (.int .i64 0)
 have hs3 := hs2.set 0 (.slice (some ⟨w'.heap.size, 0, none⟩) (0 + n) cap2)
 have d0 := hb2.cell 0 rfl
 have z0 := hb2.frz 0
 have d1 := hs1.cell 1 rfl
 have z1 := hs1.frz 1
 have d2 := hs2.cell 0 rfl
 have z2 := hs2.frz 0
 have hbel' : Fr (fun _ => False) w' w2 := ⟨hbel.os, hbel.tape, hbel.output, hbel.size, fun k hk _ => hbel.block k hk⟩
 have hNb : w'.heap.size ≠ b := by have := hb0.lt; omega
 have HE := Lib.hid (And.intro hs3 (And.intro hbel' (And.intro hF0 (And.intro hN (And.intro hcsz (And.intro htk (And.intro hcap2 (And.intro hcm2 hNb))))))))
 refine hK _ _ (fun _ => ⟨d0, hb2.cell 1 rfl⟩) ?_
 clear hK K hs1 hs2 hs3 hb2 hbel hbel' hb0 hg0 hF0 hone H0 hN hcsz htk hNb
 iterate 2 (apply seqV_pure (ho := rfl) (hr := rfl) (hg := rfl); (intro w'; go_simp; rfl))
 refine seqV_do rfl rfl fun K hK => ?_
 go_simp
 refine hK _ _ (fun h => by cases h) ?_
 clear hK K
 unfold seqV
 have e5 : ((0 + n : Nat) : Int) ≤ (cap2 : Int) := by omega
 unfold maxLen at hcm2
 go_wp2_with fail
 go_ret
 obtain ⟨hs3, hbel', hF0, hN, hcsz, htk, hcap2, hcm2, hNb⟩ := HE.out
 refine ⟨rfl, w'.heap.size, cap2, cells.toList, lr, by simpa using hs3, ?_, by simpa using hcsz, by omega, hcm2, by simpa using htk, hF0.size, ?_⟩
 ·have hN' : Blk w2 w'.heap.size cells.toList 5 := by unfold Blk; simpa using hN
  exact ((hN'.set_ne hNb _).set_ne hNb _).set_ne hNb _
 ·exact (((hF0.trans hbel' (fun _ _ h => h.elim)).setCell (fun _ => rfl) _).setCell (fun _ => rfl) _).setCell (fun _ => rfl) _

set_option maxHeartbeats 4000000 in
set_option maxRecDepth 100000 in
theorem bgrow_small {w : World} {b n : Nat} {lr : Int} (hb : Blk w b [.slice none 0 0, .int .i64 0, .int .i8 lr] 52) (hn : 1 ≤ n) (h64 : n ≤ 64) : Calls Tryz.prog 184 #[.pointer (some ⟨b, 0, none⟩), .int .i64 n] w (GrowPost w b 0 n []) := by
 have hA : BufA w b (.slice none 0 0) 0 [] := ⟨⟨lr, hb⟩, .inl ⟨rfl, rfl, rfl⟩, by simp⟩
 have hI := hA.is
 have hL := b_len b _ w hI
 simp only [List.take_nil, List.length_nil] at hL
 have hnil : ∀ W, (binOp .eql 29 (.slice none 0 0) (.slice none 0 0)).run Tryz.prog W = .ok (.bool true) W := fun W => by kernel_rfl
 have hmk : ∀ W : World, (Instr.makeSlice 29 (.int .i64 (n : Int)) (.int .i64 64)).run Tryz.prog W = .ok (.slice (some ⟨W.heap.size, 0, none⟩) n 64) (W.alloc (.cells (u8s (List.replicate 64 0)).toArray 5)) := run_mk_u8 n 64 h64 (by decide) .i64 .i64
 generalize hC : (u8s (List.replicate 64 0)).toArray = C at hmk
 have e2 : (n : Int) ≤ 64 := by omega
 have HH := Lib.hid (And.intro hb hC)
 clear hb hA hI hC
 go_enter Tryz.func184, Tryz.ntmps184
 go_wp2_with fail
 refine hL.mono ?_
 rintro e W0 ⟨rfl, k, hW0⟩
 obtain ⟨hb, hC⟩ := HH.out
 have hb0 : Blk W0 b [.slice none 0 0, .int .i64 0, .int .i8 lr] 52 := by rw [hW0]; exact hb
 have hF0 : Fr (fun k => k = b) w W0 := by rw [hW0]; exact (Fr.refl _ w).drewN k
 have c0 := hb0.cell 0 rfl
 have c1 := hb0.cell 1 rfl
 have hT := tg_none b _ 0 0 n W0 c0 (Nat.le_refl _) (by decide) (by omega)
 have hal : Blk (W0.alloc (.cells C 5)) b [.slice none 0 0, .int .i64 0, .int .i8 lr] 52 := hb0.alloc _
 have hse := hal.set 0 (.slice (some ⟨W0.heap.size, 0, none⟩) n 64)
 have hN : Blk (W0.alloc (.cells C 5)) W0.heap.size (u8s (List.replicate 64 0)) 5 := by rw [← hC]; exact Blk.new W0 _ 5
 have hNb : W0.heap.size ≠ b := by have := hb0.lt; omega
 have hF1 := (hF0.alloc (.cells C 5)).setCell (p := ⟨b, 0, none⟩) (fun _ => rfl) (.slice (some ⟨W0.heap.size, 0, none⟩) n 64)
 have hN2 := hN.set_ne (a := ⟨b, 0, none⟩) hNb (.slice (some ⟨W0.heap.size, 0, none⟩) n 64)
 have a0 := hal.cell 0 rfl
 have z0 := hal.frz 0
 have hsz : w.heap.size ≤ W0.heap.size := hF0.size
 have HA := Lib.hid (And.intro hse (And.intro hN2 (And.intro hF1 hsz)))
 clear hb hL hW0 hb0 hF0 HH hal hse hN hN2 hF1 hsz hNb hC
 go_wp2_with (first | (go_at_call 183; refine hT.mono ?_; rintro e w' ⟨rfl, rfl⟩) | fail)
 go_ret
 obtain ⟨hse, hN2, hF1, hsz⟩ := HA.out
 exact ⟨rfl, w'.heap.size, 64, _, lr, by simpa using hse, hN2, by simp [u8s], by omega, by decide, by simp, hsz, hF1⟩
set_option maxHeartbeats 4000000 in
set_option maxRecDepth 100000 in
theorem bgrow_big {w : World} {b n : Nat} {lr : Int} (hb : Blk w b [.slice none 0 0, .int .i64 0, .int .i8 lr] 52) (h64 : 64 < n) (hlim : n ≤ 1099511627776) : Calls Tryz.prog 184 #[.pointer (some ⟨b, 0, none⟩), .int .i64 n] w (GrowPost w b 0 n []) := by
 have hA : BufA w b (.slice none 0 0) 0 [] := ⟨⟨lr, hb⟩, .inl ⟨rfl, rfl, rfl⟩, by simp⟩
 have hI := hA.is
 have hL := b_len b _ w hI
 simp only [List.take_nil, List.length_nil] at hL
 have hnil : ∀ W, (binOp .eql 29 (.slice none 0 0) (.slice none 0 0)).run Tryz.prog W = .ok (.bool true) W := fun W => by kernel_rfl
 have e2 : ¬ ((n : Int) ≤ 64) := by omega
 have e3 : ¬ ((n : Int) ≤ 0) := by omega
 have hwn : IntKind.i64.wrap (n : Int) = n := by rw [IntKind.wrap_i64]; omega
 have HH := Lib.hid hb
 clear hb hA hI
 go_enter Tryz.func184, Tryz.ntmps184
 go_wp2_with fail
 refine hL.mono ?_
 rintro e W0 ⟨rfl, k, hW0⟩
 have hb := HH.out
 have hb0 : Blk W0 b [.slice none 0 0, .int .i64 0, .int .i8 lr] 52 := by rw [hW0]; exact hb
 have hF0 : Fr (fun k => k = b) w W0 := by rw [hW0]; exact (Fr.refl _ w).drewN k
 have c0 := hb0.cell 0 rfl
 have c1 := hb0.cell 1 rfl
 have hT := tg_none b _ 0 0 n W0 c0 (Nat.le_refl _) (by decide) (by omega)
 have H0 := Lib.hid (And.intro hb0 hF0)
 clear hb hL hW0 hb0 hF0 HH
 go_wp2_with (first | (go_at_call 183; refine hT.mono ?_; rintro e w' ⟨rfl, rfl⟩) | fail)
 refine wp_region_seqV (fun w' => w'.cell? ⟨b, 0, none⟩ = some (.slice none 0 0) ∧ w'.cell? ⟨b, 1, none⟩ = some (.int .i64 0)) (fun i => decide (i ≠ 16 ∧ i ≠ 19)) (fun i => ![4, 8, 13].contains i && decide (i ≠ 16 ∧ i ≠ 19)) (fun i => decide (i = 19)) [0, 1, 2, 3, 4, 5, 6, 7, 8, 9, 10, 11, 12, 13, 14, 15, 16, 17, 18, 19] (by kernel_rfl) (by kernel_rfl) (fun c a d v w h => by cases d <;> exact h) ⟨c0, c1⟩ ?_
 iterate 4 (apply seqV_pure (ho := rfl) (hr := rfl) (hg := rfl); (intro w'; go_simp; rfl))
 (apply seqV_read (ho := rfl) (hr := rfl) (hp := rfl) (hg := rfl); (rintro w' ⟨q1, q2⟩; go_simp; rfl))
 iterate 3 (apply seqV_pure (ho := rfl) (hr := rfl) (hg := rfl); (intro w'; go_simp; rfl))
 (apply seqV_read (ho := rfl) (hr := rfl) (hp := rfl) (hg := rfl); (rintro w' ⟨q1, q2⟩; go_simp; rfl))
 iterate 4 (apply seqV_pure (ho := rfl) (hr := rfl) (hg := rfl); (intro w'; go_simp; rfl))
 (apply seqV_read (ho := rfl) (hr := rfl) (hp := rfl) (hg := rfl); (rintro w' ⟨q1, q2⟩; go_simp; rfl))
 iterate 2 (apply seqV_pure (ho := rfl) (hr := rfl) (hg := rfl); (intro w'; go_simp; rfl))
 refine seqV_do rfl rfl fun K hK => ?_
 go_simp
 obtain ⟨hb0, hF0⟩ := H0.out
 refine (gs_nil n _ (by omega) (by omega)).mono ?_
 rintro e w2 ⟨cap2, cells, rfl, hN, hcsz, hcap2, hcm2, hbel⟩
 have hb2 : Blk w2 b [.slice none 0 0, .int .i64 0, .int .i8 lr] 52 := (hbel.block b hb0.lt).trans hb0
 have hs1 := hb2.set 0 (.slice (some ⟨w'.heap.size, 0, none⟩) 0 cap2)
 have hs2 := hs1.set 1 (.int .i64 0)
 have hs3 := hs2.set 0 (.slice (some ⟨w'.heap.size, 0, none⟩) (0 + n) cap2)
 have d0 := hb2.cell 0 rfl
 have z0 := hb2.frz 0
 have d1 := hs1.cell 1 rfl
 have z1 := hs1.frz 1
 have d2 := hs2.cell 0 rfl
 have z2 := hs2.frz 0
 have hbel' : Fr (fun _ => False) w' w2 := ⟨hbel.os, hbel.tape, hbel.output, hbel.size, fun k hk _ => hbel.block k hk⟩
 have hNb : w'.heap.size ≠ b := by have := hb0.lt; omega
 have HE := Lib.hid (And.intro hs3 (And.intro hbel' (And.intro hF0 (And.intro hN (And.intro hcsz (And.intro hcap2 (And.intro hcm2 hNb)))))))
 refine hK _ _ (fun _ => ⟨d0, hb2.cell 1 rfl⟩) ?_
 clear hK K hs1 hs2 hs3 hb2 hbel hbel' hb0 hF0 H0 hN hcsz hNb
 iterate 2 (apply seqV_pure (ho := rfl) (hr := rfl) (hg := rfl); (intro w'; go_simp; rfl))
 refine seqV_do rfl rfl fun K hK => ?_
 go_simp
 refine hK _ _ (fun h => by cases h) ?_
 clear hK K
 unfold seqV
 have e5 : ((0 + n : Nat) : Int) ≤ (cap2 : Int) := by omega
 unfold maxLen at hcm2
 go_wp2_with fail
 go_ret
 obtain ⟨hs3, hbel', hF0, hN, hcsz, hcap2, hcm2, hNb⟩ := HE.out
 refine ⟨rfl, w'.heap.size, cap2, cells.toList, lr, by simpa using hs3, ?_, by simpa using hcsz, by omega, hcm2, by simp, hF0.size, ?_⟩
 ·have hN' : Blk w2 w'.heap.size cells.toList 5 := by unfold Blk; simpa using hN
  exact ((hN'.set_ne hNb _).set_ne hNb _).set_ne hNb _
 ·exact (((hF0.trans hbel' (fun _ _ h => h.elim)).setCell (fun _ => rfl) _).setCell (fun _ => rfl) _).setCell (fun _ => rfl) _
end
section
open Go.RowKit

theorem grow_calls {w : World} {b : Nat} {v : Value} {l n : Nat} {full : List Value} (h : BufA w b v l full) (hn : 1 ≤ n) (hroom : ∀ A cap, v = .slice A l cap → cap - l < n) (hlim : l + n ≤ 1099511627776) : Calls Tryz.prog 184 #[.pointer (some ⟨b, 0, none⟩), .int .i64 n] w (GrowPost w b l n full) := by
 obtain ⟨lr, hb⟩ := h.blk
 rcases h.row with ⟨rfl, rfl, rfl⟩ | ⟨g, cap, rfl, hg, h1, h2, h3⟩
 ·by_cases h64 : n ≤ 64
  ·exact bgrow_small hb hn h64
  ·exact bgrow_big hb (by omega) (by omega)
 ·rcases Nat.eq_zero_or_pos l with rfl | h0
  ·exact bgrow_row0 hb hg h1 h2 (by simpa using h3) h.one hn (hroom _ _ rfl) hlim
  ·exact bgrow_row hb hg h1 h2 (by simpa using h3) h.one hn (hroom _ _ rfl) hlim h0

/-- What Write leaves. -/
def WrPost (w : World) (b : Nat) (v : Value) (l : Nat) (full : List Value) (cs : List Nat) (e : Ending) (w' : World) : Prop :=
 e = .returned (.tuple #[.int .i64 (cs.length : Int), .nilIface]) ∧ ∃ v' full', BufA w' b v' (l + cs.length) full' ∧ full'.take (l + cs.length) = full.take l ++ u8s cs ∧ Fr (fun k => k = b ∨ v.ownBlock = some k) w w' ∧ (v'.ownBlock = v.ownBlock ∨ ∃ g, v'.ownBlock = some g ∧ w.heap.size ≤ g)

theorem wr_end {w w1 : World} {b g l n cap : Nat} {lr : Int} {v : Value} {full cells : List Value} {cs : List Nat} (hb : Blk w1 b [.slice (some ⟨g, 0, none⟩) (l + n) cap, .int .i64 0, .int .i8 lr] 52) (hg : Blk w1 g cells 5) (hcl : cells.length = cap) (hcap : l + n ≤ cap) (hm : cap ≤ maxLen)
  (ht : cells.take l = full.take l) (hone : ∀ u ∈ full.take l, u.oneCell' = true) (hn : cs.length = n) (hf : Fr (fun k => k = b ∨ v.ownBlock = some k) w w1) (ha : v.ownBlock = some g ∨ w.heap.size ≤ g) :
  WrPost w b v l full cs (.returned (.tuple #[.int .i64 (n : Int), .nilIface])) (w1.setRow g (cells.toArray.toList.take l ++ u8s cs ++ cells.toArray.toList.drop (l + n)).toArray) := by
 subst hn
 have hne : g ≠ b := by
  intro e; subst e
  exact absurd (hb.inj hg).2 (by decide)
 have hg' : Blk (w1.setRow g (cells.toArray.toList.take l ++ u8s cs ++ cells.toArray.toList.drop (l + cs.length)).toArray) g (cells.take l ++ u8s cs ++ cells.drop (l + cs.length)) 5 := by
  have := setRow_heap w1 g cells.toArray (cells.toArray.toList.take l ++ u8s cs ++ cells.toArray.toList.drop (l + cs.length)).toArray 5 (0, 0) hg
  exact this
 have hll : (cells.take l).length = l := by rw [List.length_take]; omega
 have htk : (cells.take l ++ u8s cs ++ cells.drop (l + cs.length)).take (l + cs.length) = full.take l ++ u8s cs := by
  rw [← ht, List.take_left' (by rw [List.length_append, hll, u8s_len])]
 refine ⟨rfl, .slice (some ⟨g, 0, none⟩) (l + cs.length) cap, _, ⟨⟨lr, ?_⟩, .inr ⟨g, cap, rfl, hg', hcap, hm, ?_⟩, ?_⟩, htk, ?_, ?_⟩
 ·unfold Blk at hb ⊢
  rw [setRow_other _ _ _ _ (Ne.symm hne)]; exact hb
 ·simp only [List.length_append, hll, u8s_len, List.length_drop]; omega
 ·rw [htk]
  intro u hu
  rcases List.mem_append.1 hu with hu | hu
  ·exact hone u hu
  ·exact u8s_one cs u hu
 ·refine hf.trans (G := fun k => k = g) ⟨rfl, rfl, rfl, by simp, fun k _ hk => setRow_other _ _ _ _ (fun e => hk (by rw [e]))⟩ (fun i hi e => ?_)
  subst e
  rcases ha with ha | ha
  ·exact .inr ha
  ·omega
 ·rcases ha with ha | ha
  ·exact .inl (by rw [ha]; simp [Value.ownBlock])
  ·exact .inr ⟨g, by simp [Value.ownBlock], ha⟩

set_option maxHeartbeats 4000000 in
set_option maxRecDepth 100000 in
theorem write_calls {w : World} {b : Nat} {v : Value} {l n c : Nat} {full : List Value} {cs : List Nat} {a : Addr} (h : BufA w b v l full) (hn : cs.length = n) (h1 : 1 ≤ n) (hab : a.block ≠ b) (hsrc : ∀ j x, (u8s cs)[j]? = some x → w.cell? (a.add j) = some x) (hlim : l + n ≤ 1099511627776) :
  Calls Tryz.prog 182 #[.pointer (some ⟨b, 0, none⟩), .slice (some a) n c] w (WrPost w b v l full cs) := by
 have hinfo : (Tryz.prog.info? 5).map (·.size) = some 1 := by kernel_rfl
 obtain ⟨lr, hb⟩ := h.blk
 have hb1 := hb.set 2 (.int .i8 0)
 have hF1 : Fr (fun k => k = b) w (w.setCell ⟨b, 2, none⟩ (.int .i8 0)) := Fr.setCell (F := fun k => k = b) (p := ⟨b, 2, none⟩) (Fr.refl _ w) (fun _ => rfl) _
 have hA1 : BufA (w.setCell ⟨b, 2, none⟩ (.int .i8 0)) b v l full := ⟨⟨0, hb1⟩, h.row.fr hF1 (fun k hk e => h.ne (by rw [hk, e])), h.one⟩
 have c2 := hb.cell 2 rfl
 have z2 := hb.frz 2
 obtain ⟨A, cap, rfl, hlc, hcm, hfl⟩ := h.row.slc
 have hcm' := hcm
 unfold maxLen at hcm'
 have hone := h.one
 by_cases hroom : n ≤ cap - l
 ·obtain ⟨g, rfl, hg⟩ : ∃ g, A = some ⟨g, 0, none⟩ ∧ Blk (w.setCell ⟨b, 2, none⟩ (.int .i8 0)) g full 5 := by
   rcases hA1.row with ⟨e, h0, _⟩ | ⟨g, cap', e, hg, _⟩
   ·cases e; omega
   ·cases e; exact ⟨g, rfl, hg⟩
  have hne : g ≠ b := fun e => by subst e; exact absurd (hb1.inj hg).2 (by decide)
  have hT := tg_room b (some ⟨g, 0, none⟩) l cap n _ (hb1.cell 0 rfl) (hb1.frz 0) hlc hcm hroom
  have hb2 := hb1.set 0 (.slice (some ⟨g, 0, none⟩) (l + n) cap)
  have hg2 := hg.set_ne (a := ⟨b, 0, none⟩) hne (.slice (some ⟨g, 0, none⟩) (l + n) cap)
  have hF2 := hF1.setCell (p := ⟨b, 0, none⟩) (fun _ => rfl) (.slice (some ⟨g, 0, none⟩) (l + n) cap)
  have d0 := hb2.cell 0 rfl
  have hsrc2 : ∀ j x, (u8s cs)[j]? = some x → ((w.setCell ⟨b, 2, none⟩ (.int .i8 0)).setCell ⟨b, 0, none⟩ (.slice (some ⟨g, 0, none⟩) (l + n) cap)).cell? (a.add j) = some x := fun j x hj => hF2.cell (hsrc j x hj) (by rw [Lib.block_add]; exact hab)
  have hcp := run_copy_row (P := Tryz.prog) _ 29 29 3 5 g l n (cap - l) a n c full.toArray 5 (u8s cs) Tryz.underlying29 hinfo hg2 (by rw [u8s_len, hn]; exact (Nat.min_self n).symm) hsrc2 (by rw [u8s_len, hn]; simp only [List.size_toArray]; omega) (u8s_one cs)
  rw [u8s_len, hn] at hcp
  have hend := wr_end (w := w) (v := .slice (some ⟨g, 0, none⟩) l cap) (full := full) (cs := cs) hb2 hg2 (by omega) (by omega) hcm rfl hone hn (hF2.mono (fun _ _ e => .inl e)) (.inl (by simp [Value.ownBlock]))
  have hne2 : ¬ cap = l := by omega
  have HE := Lib.hid hend
  clear hend hb2 hg2 hF2 hsrc2 hb1 hF1 hA1 hg h hb hsrc hone
  go_enter Tryz.func182, Tryz.ntmps182
  go_wp2_with (first | (go_at_call 183; refine hT.mono ?_; rintro e w' ⟨rfl, rfl⟩) | fail)
  go_ret2
  simpa [List.append_assoc] using HE.out
 ·have hT := tg_none b A l cap n _ (hb1.cell 0 rfl) hlc hcm (by omega)
  have hG := grow_calls hA1 h1 (fun A' cap' e => by cases e; omega) hlim
  have HH := Lib.hid (And.intro hsrc (And.intro hF1 hone))
  have hsz : (w.setCell ⟨b, 2, none⟩ (.int .i8 0)).heap.size = w.heap.size := by simp [World.setCell]
  clear hb1 hF1 hA1 h hb hsrc hone
  go_enter Tryz.func182, Tryz.ntmps182
  go_wp2_with (first | (go_at_call 183; refine hT.mono ?_; rintro e w' ⟨rfl, rfl⟩) | fail)
  refine hG.mono ?_
  rintro e w2 ⟨rfl, N, cap2, cells, lr2, hb2, hg2, hcl, hcap2, hm2, htk, hNn, hF2⟩
  obtain ⟨hsrc, hF1, hone⟩ := HH.out
  have hF := hF1.trans hF2 (fun _ _ e => e)
  have d0 := hb2.cell 0 rfl
  have hsrc2 : ∀ j x, (u8s cs)[j]? = some x → w2.cell? (a.add j) = some x := fun j x hj => hF.cell (hsrc j x hj) (by rw [Lib.block_add]; exact hab)
  have hcp := run_copy_row (P := Tryz.prog) w2 29 29 3 5 N l n (cap2 - l) a n c cells.toArray 5 (u8s cs) Tryz.underlying29 hinfo hg2 (by rw [u8s_len, hn]; exact (Nat.min_self n).symm) hsrc2 (by rw [u8s_len, hn]; simp only [List.size_toArray]; omega) (u8s_one cs)
  rw [u8s_len, hn] at hcp
  have hend := wr_end (w := w) (v := .slice A l cap) (full := full) (cs := cs) hb2 hg2 hcl hcap2 hm2 htk hone hn (hF.mono (fun _ _ e => .inl e)) (.inr (by rw [hsz] at hNn; exact hNn))
  have hne2 : ¬ cap2 = l := by omega
  have hm3 := hm2
  unfold maxLen at hm3
  have HE := Lib.hid hend
  clear hend hb2 hg2 hF2 hsrc2 hsrc hF hF1 htk hone hG hT
  go_wp2_with fail
  go_ret2
  simpa [List.append_assoc] using HE.out
end
section
open Go.RowKit

/-- A bufio.Writer: what it has been given is bs, of which ds has come to the buffer; colour c; the buffer has colour c + 1. -/
structure Bw (w : World) (col : Col) (c fb rb bb : Nat) (bs buf : List Nat) (m : Nat) (ds : List Nat) (v : Value) (full : List Value) : Prop where
 kfb : BlkC w col c fb [.nilIface, .slice (some ⟨rb, 0, none⟩) 4096 4096, .int .i64 (m : Int), .iface 56 (.pointer (some ⟨bb, 0, none⟩))] 232
 krb : BlkC w col c rb (u8s buf) 5
 len : buf.length = 4096
 mle : m ≤ 4096
 kbs : bs = ds ++ buf.take m
 kbb : BufA w bb v ds.length full
 kds : full.take ds.length = u8s ds
 cb : col bb = c + 1
 cv : ∀ k, v.ownBlock = some k → col k = c + 1
def BwC (w : World) (col : Col) (c fb rb bb : Nat) (bs : List Nat) : Prop := ∃ buf m ds v full, Bw w col c fb rb bb bs buf m ds v full
/-- The colours of a writer. -/
def two (c : Nat) : Nat → Prop := fun d => d = c ∨ d = c + 1

theorem BufA.fr {w w' : World} {F : Nat → Prop} {b : Nat} {v : Value} {l : Nat} {full : List Value} (h : BufA w b v l full) (hf : Fr F w w') (h1 : ¬ F b) (h2 : ∀ k, v.ownBlock = some k → ¬ F k) : BufA w' b v l full := by
 obtain ⟨lr, hb⟩ := h.blk
 exact ⟨⟨lr, hb.fr hf h1⟩, h.row.fr hf h2, h.one⟩
theorem BufA.lt {w : World} {b : Nat} {v : Value} {l : Nat} {full : List Value} (h : BufA w b v l full) : b < w.heap.size := by
 obtain ⟨lr, hb⟩ := h.blk; exact hb.lt
theorem BwC.kp {w w' : World} {col col' : Col} {C : Nat → Prop} {c fb rb bb : Nat} {bs : List Nat} (h : BwC w col c fb rb bb bs) (k : Kp C col w col' w') (h1 : ¬ C c) (h2 : ¬ C (c + 1)) : BwC w' col' c fb rb bb bs := by
 obtain ⟨buf, m, ds, v, full, h⟩ := h
 exact ⟨buf, m, ds, v, full, h.kfb.kp k h1, h.krb.kp k h1, h.len, h.mle, h.kbs, h.kbb.fr k.fr (by rw [h.cb]; exact h2) (fun g hg => by rw [h.cv g hg]; exact h2), h.kds, (k.same _ h.kbb.lt).trans h.cb, fun g hg => (k.same _ (h.kbb.row.lt hg)).trans (h.cv g hg)⟩

theorem meth_write (a : Addr) (w : World) : (method 79 56 (.pointer (some a)) "Write").run Tryz.prog w = .ok (182, .pointer (some a)) w := by kernel_rfl
theorem nil_write (a : Addr) (w : World) : (nilAhead 79 56 (.pointer (some a)) "Write").run Tryz.prog w = .ok (some false) w := by kernel_rfl

set_option maxHeartbeats 4000000 in
set_option maxRecDepth 100000 in
theorem flush_calls {w : World} {col : Col} {c fb rb bb : Nat} {bs : List Nat} (h : BwC w col c fb rb bb bs) (hl : bs.length ≤ 1099511627776) :
  Calls Tryz.prog 168 #[.pointer (some ⟨fb, 0, none⟩)] w fun e w' => e = .returned .nilIface ∧ ∃ col', Kp (two c) col w col' w' ∧ ∃ buf v full, Bw w' col' c fb rb bb bs buf 0 bs v full := by
 obtain ⟨buf, m, ds, v, full, h⟩ := h
 have hfb := h.kfb.blk
 have c0 := hfb.cell 0 rfl
 have c1 := hfb.cell 1 rfl
 have c2 := hfb.cell 2 rfl
 have c3 := hfb.cell 3 rfl
 by_cases hm : m = 0
 ·subst hm
  have hbs : bs = ds := by have := h.kbs; simpa using this
  subst hbs
  have HH := Lib.hid h
  clear h hfb
  go_enter Tryz.func168, Tryz.ntmps168
  go_wp2_with fail
  go_ret
  exact ⟨rfl, col, Kp.refl _ _ _, buf, v, full, HH.out⟩
 ·have hmle := h.mle
  have hlen := h.len
  have hbl : bs.length = ds.length + m := by rw [h.kbs, List.length_append, List.length_take]; omega
  have hne : rb ≠ bb := fun e => by have := h.krb.col; rw [e, h.cb] at this; omega
  have hnf : fb ≠ bb := fun e => by have := h.kfb.col; rw [e, h.cb] at this; omega
  have hW : ∀ W : World, Fr (fun _ => False) w W → Calls Tryz.prog 182 #[.pointer (some ⟨bb, 0, none⟩), .slice (some ⟨rb, 0, none⟩) m 4096] W (WrPost W bb v ds.length full (buf.take m)) := fun W hf =>
   write_calls (h.kbb.fr hf (fun h => h) (fun _ _ h => h)) (by rw [List.length_take]; omega) (by omega) hne (fun j x hj => by
    rw [← u8s_take] at hj
    have hjl := (List.getElem?_eq_some_iff.1 hj).1
    rw [List.length_take] at hjl
    rw [List.getElem?_take_of_lt (by omega)] at hj
    have := (h.krb.blk.fr hf (fun h => h)).cell j hj
    by_cases h0 : j = 0
    ·subst h0; simpa [Addr.add] using this
    ·simpa [Addr.add, h0] using this) (by omega)
  have e1 : ¬ ((m : Int) = 0) := by omega
  have e2 : (m : Int) ≤ 4096 := by omega
  have m1 := meth_write ⟨bb, 0, none⟩
  have m2 := nil_write ⟨bb, 0, none⟩
  have z2 := hfb.frz 2
  have HH := Lib.hid (And.intro h (And.intro hW (And.intro hbl hnf)))
  clear h hW hbl hne hnf hfb
  go_enter Tryz.func168, Tryz.ntmps168
  go_wp2_with fail
  refine wp_region_seqV (fun w' => w'.cell? ⟨fb, 1, none⟩ = some (.slice (some ⟨rb, 0, none⟩) 4096 4096) ∧ w'.cell? ⟨fb, 2, none⟩ = some (.int .i64 (m : Int)) ∧ w'.cell? ⟨fb, 3, none⟩ = some (.iface 56 (.pointer (some ⟨bb, 0, none⟩)))) (fun i => decide (i ≠ 15)) (fun i => ![3, 7, 11].contains i && decide (i ≠ 15)) (fun i => false) [0, 1, 2, 3, 4, 5, 6, 7, 8, 9, 10, 11, 12, 13, 14, 15, 16, 17, 18, 19, 20] (by kernel_rfl) (by kernel_rfl) (fun c a d v w h => by cases d <;> exact h) ⟨c1, c2, c3⟩ ?_
  iterate 3 (apply seqV_pure (ho := rfl) (hr := rfl) (hg := rfl); (intro w'; go_simp; rfl))
  (apply seqV_read (ho := rfl) (hr := rfl) (hp := rfl) (hg := rfl); (rintro w' ⟨q1, q2, q3⟩; go_simp; rfl))
  iterate 3 (apply seqV_pure (ho := rfl) (hr := rfl) (hg := rfl); (intro w'; go_simp; rfl))
  (apply seqV_read (ho := rfl) (hr := rfl) (hp := rfl) (hg := rfl); (rintro w' ⟨q1, q2, q3⟩; go_simp; rfl))
  iterate 3 (apply seqV_pure (ho := rfl) (hr := rfl) (hg := rfl); (intro w'; go_simp; rfl))
  (apply seqV_read (ho := rfl) (hr := rfl) (hp := rfl) (hg := rfl); (rintro w' ⟨q1, q2, q3⟩; go_simp; rfl))
  iterate 3 (apply seqV_pure (ho := rfl) (hr := rfl) (hg := rfl); (intro w'; go_simp; rfl))
  refine seqV_do rfl rfl fun K hK => ?_
  go_simp
  obtain ⟨h, hW, hbl, hnf⟩ := HH.out
  refine (hW w.drew ((Fr.refl _ w).drew)).mono fun e w2 hpost => ?_
  unfold WrPost at hpost
  have hlm : (buf.take m).length = m := by rw [List.length_take]; omega
  rw [hlm] at hpost
  obtain ⟨rfl, v', full', hA, htk, hF, hat⟩ := hpost
  have hvf : v.ownBlock ≠ some fb := fun e => by have := h.cv _ e; rw [h.kfb.col] at this; omega
  have hvr : v.ownBlock ≠ some rb := fun e => by have := h.cv _ e; rw [h.krb.col] at this; omega
  have hrb : rb ≠ bb := fun e => by have := h.krb.col; rw [e, h.cb] at this; omega
  have hfb2 : Blk w2 fb [.nilIface, .slice (some ⟨rb, 0, none⟩) 4096 4096, .int .i64 (m : Int), .iface 56 (.pointer (some ⟨bb, 0, none⟩))] 232 := h.kfb.blk.drew.fr hF (fun e => e.elim hnf hvf)
  have hrb2 : Blk w2 rb (u8s buf) 5 := h.krb.blk.drew.fr hF (fun e => e.elim hrb hvr)
  have hset := hfb2.set 2 (.int .i64 0)
  have q1 := hfb2.cell 1 rfl
  have q2 := hfb2.cell 2 rfl
  have q3 := hfb2.cell 3 rfl
  have q0 := hfb2.cell 0 rfl
  have z2 := hfb2.frz 2
  have hFs : Fr (fun k => k = fb ∨ k = bb ∨ v.ownBlock = some k) w (w2.setCell ⟨fb, 2, none⟩ (.int .i64 0)) := ((Fr.refl (fun k => k = fb ∨ k = bb ∨ v.ownBlock = some k) w).drew.trans hF (fun _ _ e => .inr e)).setCell (fun _ => .inl rfl) _
  have hS : Fr (fun k => k = fb) w2 (w2.setCell ⟨fb, 2, none⟩ (.int .i64 0)) := Fr.setCell (F := fun k => k = fb) (p := ⟨fb, 2, none⟩) (Fr.refl _ w2) (fun _ => rfl) _
  have hv' : ∀ k, v'.ownBlock = some k → (paint w.heap.size (c + 1) col) k = c + 1 := fun k hk => by
   rcases hat with e | ⟨g, e, hg⟩
   ·rw [e] at hk
    rw [paint_lt (h.kbb.row.lt hk)]; exact h.cv k hk
   ·rw [e] at hk; injection hk with hk; subst hk; exact paint_ge hg
  have hres : Kp (two c) col w (paint w.heap.size (c + 1) col) (w2.setCell ⟨fb, 2, none⟩ (.int .i64 0)) ∧ Bw (w2.setCell ⟨fb, 2, none⟩ (.int .i64 0)) (paint w.heap.size (c + 1) col) c fb rb bb bs buf 0 bs v' full' := by
   have hcf : (paint w.heap.size (c + 1) col) fb = c := (paint_lt h.kfb.lt).trans h.kfb.col
   refine ⟨Kp.of hFs (c + 1) (fun k hk e => ?_) (.inr rfl), ⟨hset, hcf⟩, ⟨hrb2.set_ne (fun e => ?_) _, (paint_lt h.krb.lt).trans h.krb.col⟩, h.len, by omega, by simp, ?_, ?_, (paint_lt h.kbb.lt).trans h.cb, hv'⟩
   ·rcases e with rfl | rfl | e
    ·exact .inl h.kfb.col
    ·exact .inr h.cb
    ·exact .inr (h.cv k e)
   ·have e' : rb = fb := e
    subst e'
    exact absurd (hrb2.inj hfb2).2 (by decide)
   ·rw [hbl]
    refine hA.fr hS (fun e => hnf e.symm) (fun k hk e => ?_)
    have := hv' k hk
    rw [e, hcf] at this; omega
   ·rw [hbl, htk, h.kds, ← u8s_app, ← h.kbs]
  have HE := Lib.hid hres
  refine hK _ _ (fun _ => ⟨q1, q2, q3⟩) ?_
  clear hK K hres hFs hS hset hfb2 hrb2 hA htk hF hat hv' h hW HH hbl hnf hvf hvr hrb
  iterate 5 (apply seqV_pure (ho := rfl) (hr := rfl) (hg := rfl); (intro w'; go_simp; rfl))
  unfold seqV
  go_wp2_with fail
  go_ret
  exact ⟨rfl, _, HE.out.1, buf, v', full', HE.out.2⟩
end
end Go.Proofs.YtmhlnijpimjjaaaGreatDoor
