/-
  DERIVED. GIVEN WITH THE SEED: THE CARDS: each row of YoebcwDoorRows.lean that lists a variable, with what it lists TIED to the program's text (the seventh form; the later family's looks); each row that meets fmt, with fmt's text TOLD by the authors' own Lean function (tested against real Go, not proved from fmt's source: count such statements apart). THE CARD IS WHAT COUNTS. Prove the row's statement (the work); the ties are given (YoebcwDoorTie.lean); close each card by the builder's one call (the guide's Derived/Test/ToyasCard.lean, 'card_holds'). Laid BY PROGRAM, IN A SANDBOX (cutbox-door.mjs). By AI agents, Wed Nov 11 2026. No macro, syntax, notation, axiom, sorry.
-/
import Derived.Test.YoebcwDoorRows
import GoSem.ClaimSeven
namespace Go.Proofs.YoebcwDoor
namespace Rows

/-- THE TIED CARD OF 'zzlaws_parser_b55.FnBranchStmtSpanMatchesText'. -/
def fnBranchStmtSpanMatchesTextCard : Claim7 := { stood := { row := fnBranchStmtSpanMatchesTextRow, standIns := [], harness := (true, "5c882b85e9b020b38b6158d564ae2b38ed045ddbb03c8981f2c9425411dda834"), looks := false }, kinds := [], alts := [], laidByText := true, laidKinds := [.data, .data, .data, .data], laidTests := true, laidLooks := .later }
def FnBranchStmtSpanMatchesTextCardSaid : Prop := Claim7.holds Ebcg.pinned (.plain (OpenSpec.ofChange fnBranchStmtSpanMatchesTextSpec)) fnBranchStmtSpanMatchesTextCard
end Rows
end Go.Proofs.YoebcwDoor
