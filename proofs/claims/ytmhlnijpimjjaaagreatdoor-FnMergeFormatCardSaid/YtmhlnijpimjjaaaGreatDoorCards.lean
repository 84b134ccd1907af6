/-
  DERIVED. GIVEN WITH THE SEED: THE CARDS: each row of YtmhlnijpimjjaaaGreatDoorRows.lean that lists a variable, with what it lists TIED to the program's text (the seventh form; the later family's looks); each row that meets fmt, with fmt's text TOLD by the authors' own Lean function (tested against real Go, not proved from fmt's source: count such statements apart). THE CARD IS WHAT COUNTS. Prove the row's statement (the work); the ties are given (YtmhlnijpimjjaaaGreatDoorTie.lean); close each card by the builder's one call (the guide's Derived/Test/ToyasCard.lean, 'card_holds'). Laid BY PROGRAM, IN A SANDBOX (cutbox-door.mjs). By AI agents, Wed Nov 11 2026. No macro, syntax, notation, axiom, sorry.
-/
import Derived.Test.YtmhlnijpimjjaaaGreatDoorRows
import GoSem.ClaimSeven
namespace Go.Proofs.YtmhlnijpimjjaaaGreatDoor
namespace Rows

/-- THE TIED CARD OF 'laws.FnMergeFormat'. -/
def fnMergeFormatCard : Claim7 := { stood := { row := fnMergeFormatRow, standIns := [], harness := (true, "0588c8f9cd4a9c8fef1917d2364034652e5a004a3c552f7f841780dded5e2879"), looks := true }, kinds := [], alts := [], laidByText := true, laidKinds := [.sentinel, .sentinel, .data, .data], laidTests := true, laidLooks := .later }
def FnMergeFormatCardSaid : Prop := Claim7.holds Tryz.pinned (.plain (OpenSpec.ofChange fnMergeFormatSpec)) fnMergeFormatCard

/-- THE SECOND FORM's CARD OF 'laws.FnMergeFormat'. -/
def fnMergeFormatUptoCard : Claim7 := { stood := { row := fnMergeFormatUptoRow, standIns := [], harness := (true, "0588c8f9cd4a9c8fef1917d2364034652e5a004a3c552f7f841780dded5e2879"), looks := true }, kinds := [], alts := [], laidByText := true, laidKinds := [.sentinel, .sentinel, .data, .data], laidTests := true, laidLooks := .later }
def FnMergeFormatUptoCardSaid : Prop := Claim7.holds Tryz.pinned (.plain (OpenSpec.upto fnMergeFormatSpec)) fnMergeFormatUptoCard
end Rows
end Go.Proofs.YtmhlnijpimjjaaaGreatDoor
