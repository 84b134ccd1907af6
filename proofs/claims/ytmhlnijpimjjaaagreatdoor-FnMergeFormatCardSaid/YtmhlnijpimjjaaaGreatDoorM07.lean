/- The tie of the listed variables to the program: what the given text Tie says, out of parts that fit into memory. No condition. -/
import Derived.Test.YtmhlnijpimjjaaaGreatDoorM05
import Derived.Test.YtmhlnijpimjjaaaGreatDoorM06
set_option linter.unusedSimpArgs false
set_option linter.unusedVariables false
namespace Go.Proofs.YtmhlnijpimjjaaaGreatDoor
open Go
theorem own_tie : Tryz.prog.laidByTextLater laidL [.sentinel, .sentinel, .data, .data] true :=
 Program.laidByTextLater_by_run 400 8 ta1 ta2 ta3 ta4 ta5 ta6 tb (fun os tape => by rw [tie_run os tape]; rfl) (fun os tape => by
  rw [tie_run os tape]
  show some (decide laidPs.Nodup && laidRowsB Tryz.prog (varsWorld Tryz.prog 400 (varsId Tryz.prog) os tape).memory laidPs) = some true
  rw [tie_rows os tape, decide_eq_true laidPs_nodup]; rfl)
theorem own_noUnsafe : Tryz.pinned.checked.prog.headLifts.contains "ownunsafe" = false := by kernel_rfl
theorem own_row_tie : Rows.fnMergeFormatRow.laidByTextAt .later Tryz.pinned [.sentinel, .sentinel, .data, .data] true :=
 OpenClaim.laidByTextAt_later rfl rfl own_tie own_noUnsafe
end Go.Proofs.YtmhlnijpimjjaaaGreatDoor
