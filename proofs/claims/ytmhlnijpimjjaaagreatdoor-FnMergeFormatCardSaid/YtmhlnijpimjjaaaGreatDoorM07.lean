/- The tie of the listed variables to the program: what the given text Tie says, out of parts that fit into memory. No condition. make of a row of one-cell elements; rows of bytes and of numbers as values. No condition. -/
import Derived.Test.YtmhlnijpimjjaaaGreatDoorM05
import Derived.Test.YtmhlnijpimjjaaaGreatDoorM06
import Derived.Test.YtmhlnijpimjjaaaGreatDoorM03
import Derived.Laws.MakeOwn
set_option linter.unusedSimpArgs false
set_option linter.unusedVariables false
namespace Go.Proofs.YtmhlnijpimjjaaaGreatDoor
section
open Go
theorem tie : Tryz.prog.laidByTextLater laidL [.sentinel, .sentinel, .data, .data] true :=
 Program.laidByTextLater_by_run 400 8 ta1 ta2 ta3 ta4 ta5 ta6 tb (fun os tape => by rw [tie_run os tape]; rfl) (fun os tape => by
  rw [tie_run os tape]
  show some (decide laidPs.Nodup && laidRowsB Tryz.prog (varsWorld Tryz.prog 400 (varsId Tryz.prog) os tape).memory laidPs) = some true
  rw [tie_rows os tape, decide_eq_true laidPs_nodup]; rfl)
theorem noOwnUnsafe : Tryz.pinned.checked.prog.headLifts.contains "ownunsafe" = false := by kernel_rfl
theorem fnMergeFormat_row_tie : Rows.fnMergeFormatRow.laidByTextAt .later Tryz.pinned [.sentinel, .sentinel, .data, .data] true :=
 OpenClaim.laidByTextAt_later rfl rfl tie noOwnUnsafe
end
section
open Go.RowKit
theorem madeCells_one (z : Value) (n : Nat) : madeCells #[z] n = (List.replicate n z).toArray := by
 apply Array.ext'
 simp only [madeCells, Array.toList_map, Array.toList_range]
 apply List.ext_getElem
 ·simp
 ·intro i h1 h2
  simp [Nat.mod_one]
/-- 'make([]T, l, c)', T of one cell: an equation for every world. -/
theorem run_mk (t e : TypeId) (z : Value) (bytes : Nat) (ht : Tryz.prog.underlying t = some (.slice e)) (hinfo : (Tryz.prog.info? e).map (fun i => (i.zero, i.size, i.bytes)) = some (some z, 1, bytes)) (hz1 : z.cells = #[z])
  (k1 k2 : IntKind) (l c : Nat) (hlc : l ≤ c) (hn : bytes * c ≤ 281474976710656) (h63 : c ≤ 9223372036854775807) (w : World) :
  (Instr.makeSlice t (.int k1 (l : Int)) (.int k2 (c : Int))).run Tryz.prog w = .ok (.slice (some ⟨w.heap.size, 0, none⟩) l c) (w.alloc (.cells (List.replicate c z).toArray e)) := by
 obtain ⟨i0, hi, hzz⟩ := Option.map_eq_some_iff.1 hinfo
 simp only [Prod.mk.injEq] at hzz
 obtain ⟨hz0, hs, hb⟩ := hzz
 have h := run_make (P := Tryz.prog) w t e i0 z ht hi hz0 k1 k2 (l : Int) (c : Int) (by omega) (by omega) (by rw [hb, ← Int.natCast_mul]; exact Int.ofNat_le.2 hn) (by omega)
 rw [h, hz1, hs]
 simp [madeCells_one]
/-- A row of bytes. -/
def u8s (l : List Nat) : List Value := l.map fun x : Nat => Value.int .u8 (x : Int)
theorem u8s_len (l : List Nat) : (u8s l).length = l.length := by simp [u8s]
theorem u8s_at {l : List Nat} {i x : Nat} (h : l[i]? = some x) : (u8s l)[i]? = some (.int .u8 (x : Int)) := by simp [u8s, h]
theorem u8s_set (l : List Nat) (i x : Nat) : (u8s l).set i (.int .u8 (x : Int)) = u8s (l.set i x) := by simp [u8s, List.map_set]
theorem u8s_app (a b : List Nat) : u8s (a ++ b) = u8s a ++ u8s b := by simp [u8s]
theorem u8s_take (l : List Nat) (n : Nat) : (u8s l).take n = u8s (l.take n) := by simp [u8s]
theorem u8s_drop (l : List Nat) (n : Nat) : (u8s l).drop n = u8s (l.drop n) := by simp [u8s]
theorem u8s_one (l : List Nat) : ∀ u, u ∈ u8s l → u.oneCell' = true := by
 intro u hu
 obtain ⟨x, _, rfl⟩ := List.mem_map.1 hu
 rfl
theorem run_mk_u8 (l c : Nat) (hlc : l ≤ c) (hn : c ≤ 17592186044416) (k1 k2 : IntKind) (w : World) :
  (Instr.makeSlice 29 (.int k1 (l : Int)) (.int k2 (c : Int))).run Tryz.prog w = .ok (.slice (some ⟨w.heap.size, 0, none⟩) l c) (w.alloc (.cells (u8s (List.replicate c 0)).toArray 5)) := by
 have h := run_mk 29 5 (.int .u8 0) 1 Tryz.underlying29 (by kernel_rfl) rfl k1 k2 l c hlc (by omega) (by omega) w
 rw [h]; simp [u8s]
end
end Go.Proofs.YtmhlnijpimjjaaaGreatDoor
