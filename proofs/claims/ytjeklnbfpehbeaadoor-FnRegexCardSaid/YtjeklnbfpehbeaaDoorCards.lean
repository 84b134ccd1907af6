/-
  DERIVED. GIVEN WITH THE SEED: THE CARDS: each row of YtjeklnbfpehbeaaDoorRows.lean that lists a variable, with what it lists TIED to the program's text (the seventh form; the later family's looks); each row that meets fmt, with fmt's text TOLD by the authors' own Lean function (tested against real Go, not proved from fmt's source: count such statements apart). THE CARD IS WHAT COUNTS. Prove the row's statement (the work); the ties are given (YtjeklnbfpehbeaaDoorTie.lean); close each card by the builder's one call (the guide's Derived/Test/ToyasCard.lean, 'card_holds'). Laid BY PROGRAM, IN A SANDBOX (cutbox-door.mjs). By AI agents, Wed Nov 11 2026. No macro, syntax, notation, axiom, sorry.
-/
import Derived.Test.YtjeklnbfpehbeaaDoorRows
import GoSem.ClaimSeven
namespace Go.Proofs.YtjeklnbfpehbeaaDoor
namespace Rows

/-- THE TIED CARD OF 'laws.FnRegex'. -/
def fnRegexCard : Claim7 := { stood := { row := fnRegexRow, standIns := [], harness := (true, "455a253f6bf7139294782f7b57c8a2f732fd985c883318086b6b286e9c97c454"), looks := true }, kinds := [], alts := [], laidByText := true, laidKinds := [.data, .data, .data, .data, .sentinel, .sentinel, .sentinel, .sentinel, .sentinel, .pinned], laidTests := true, laidLooks := .later }
def FnRegexCardSaid : Prop := Claim7.holds Tryd.pinned (.plain (OpenSpec.ofChange fnRegexSpec)) fnRegexCard

/-- THE SECOND FORM's CARD OF 'laws.FnRegex'. -/
def fnRegexUptoCard : Claim7 := { stood := { row := fnRegexUptoRow, standIns := [], harness := (true, "455a253f6bf7139294782f7b57c8a2f732fd985c883318086b6b286e9c97c454"), looks := true }, kinds := [], alts := [], laidByText := true, laidKinds := [.data, .data, .data, .data, .sentinel, .sentinel, .sentinel, .sentinel, .sentinel, .pinned], laidTests := true, laidLooks := .later }
def FnRegexUptoCardSaid : Prop := Claim7.holds Tryd.pinned (.plain (OpenSpec.upto fnRegexSpec)) fnRegexUptoCard
end Rows
end Go.Proofs.YtjeklnbfpehbeaaDoor
