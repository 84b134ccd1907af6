/- The tie of the listed variables, part one: the closed facts on names, and that the run of the initialisers ends. No condition. -/
import Derived.Test.YtmhlnijpimjjaaaGreatDoorRows
import Derived.LaidByTextLater
import Derived.SevenTiedAt
namespace Go.Proofs.YtmhlnijpimjjaaaGreatDoor
open Go
abbrev laidL : List (String × DataW Unit) := [("pub-traverser/pub/vellum.ErrIteratorDone", Rows.laid_pub_traverser_pub_vellum_ErrIteratorDone), ("pub-traverser/pub/vellum.ErrOutOfOrder", Rows.laid_pub_traverser_pub_vellum_ErrOutOfOrder), ("pub-traverser/pub/vellum.commonInputs", Rows.laid_pub_traverser_pub_vellum_commonInputs), ("pub-traverser/pub/vellum.commonInputsInv", Rows.laid_pub_traverser_pub_vellum_commonInputsInv)]
/-- The places that the four variables take. -/
def laidPs : List MemPlace := [.cell 0 0, .cell 18 0, .cell 1 0, .cell 17 0, .cell 2 0] ++ (MemPlace.row ⟨15, 0, none⟩ 256 ++ ([.cell 3 0] ++ MemPlace.row ⟨16, 0, none⟩ 256))
theorem ta1 : Tryz.prog.worded (varsWordLater true) = true := by kernel_rfl
theorem ta2 : Tryz.prog.worded (varsWordLater !true) = false := by kernel_rfl
theorem ta3 : Tryz.prog.worded rootWordLater = true := by kernel_rfl
theorem ta4 : laidL.map (fun x => Tryz.prog.kindOfLater x.1) = [LaidKind.sentinel, .sentinel, .data, .data].map some := by kernel_rfl
theorem ta5 : (Tryz.prog.funcNamed "gosem.cut.vars").isSome = true := by kernel_rfl
theorem ta6 : varsNamedLaterB Tryz.prog (varsId Tryz.prog) laidL = true := by kernel_rfl
theorem tb : ∀ os tape, varsDone Tryz.prog 400 (varsId Tryz.prog) os tape = true := fun _ _ => by kernel_rfl
end Go.Proofs.YtmhlnijpimjjaaaGreatDoor
