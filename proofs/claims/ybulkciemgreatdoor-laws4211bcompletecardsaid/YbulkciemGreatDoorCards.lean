/-
  DERIVED. GIVEN WITH THE SEED: THE CARDS: each row of YbulkciemGreatDoorRows.lean that lists a variable, with what it lists TIED to the program's text (the seventh form; the later family's looks); each row that meets fmt, with fmt's text TOLD by the authors' own Lean function (tested against real Go, not proved from fmt's source: count such statements apart). THE CARD IS WHAT COUNTS. Prove the row's statement (the work); the ties are given (YbulkciemGreatDoorTie.lean); close each card by the builder's one call (the guide's Derived/Test/ToyasCard.lean, 'card_holds'). Laid BY PROGRAM, IN A SANDBOX (cutbox-door.mjs). By AI agents, Wed Nov 11 2026. No macro, syntax, notation, axiom, sorry.
-/
import Derived.Test.YbulkciemGreatDoorRows
import GoSem.ClaimSeven
namespace Go.Proofs.YbulkciemGreatDoor
namespace Rows

/-- THE TIED CARD OF 'plumbline.LawS4211BComplete'. -/
def lawS4211BCompleteCard : Claim7 := { stood := { row := lawS4211BCompleteRow, standIns := [], harness := (true, "e90d8d64f0e94c94a0d2266944cbc77c77cd163ab9caed3bb2ea0d33f267009b"), looks := false }, kinds := [], alts := [], laidByText := true, laidKinds := [.data, .data, .data, .data], laidTests := true, laidLooks := .later }
def LawS4211BCompleteCardSaid : Prop := Claim7.holds Ybaz.pinned (.plain (OpenSpec.ofChange lawS4211BCompleteSpec)) lawS4211BCompleteCard
end Rows
end Go.Proofs.YbulkciemGreatDoor
