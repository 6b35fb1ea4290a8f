/-
  DERIVED. GIVEN WITH THE SEED: THE CARDS: each row of YbulkcicwDoorRows.lean that lists a variable, with what it lists TIED to the program's text (the seventh form; the later family's looks); each row that meets fmt, with fmt's text TOLD by the authors' own Lean function (tested against real Go, not proved from fmt's source: count such statements apart). THE CARD IS WHAT COUNTS. Prove the row's statement (the work); the ties are given (YbulkcicwDoorTie.lean); close each card by the builder's one call (the guide's Derived/Test/ToyasCard.lean, 'card_holds'). Laid BY PROGRAM, IN A SANDBOX (cutbox-door.mjs). By AI agents, Wed Nov 11 2026. No macro, syntax, notation, axiom, sorry.
-/
import Derived.Test.YbulkcicwDoorRows
import GoSem.ClaimSeven
namespace Go.Proofs.YbulkcicwDoor
namespace Rows

/-- THE TIED CARD OF 'dotset.LawS4208AMembers'. -/
def lawS4208AMembersCard : Claim7 := { stood := { row := lawS4208AMembersRow, standIns := [], harness := (true, "6c7c0d2f277c0b9ba6599f828fe3ef03b2be793e6d7d36594f4cd02e999977b3"), looks := false }, kinds := [], alts := [], laidByText := true, laidKinds := [.data], laidTests := true, laidLooks := .later }
def LawS4208AMembersCardSaid : Prop := Claim7.holds Ybad.pinned (.plain (OpenSpec.ofChange lawS4208AMembersSpec)) lawS4208AMembersCard

/-- THE TIED CARD OF 'dotset.LawS4208APut'. -/
def lawS4208APutCard : Claim7 := { stood := { row := lawS4208APutRow, standIns := [], harness := (true, "6c7c0d2f277c0b9ba6599f828fe3ef03b2be793e6d7d36594f4cd02e999977b3"), looks := false }, kinds := [], alts := [], laidByText := true, laidKinds := [.data], laidTests := true, laidLooks := .later }
def LawS4208APutCardSaid : Prop := Claim7.holds Ybad.pinned (.plain (OpenSpec.ofChange lawS4208APutSpec)) lawS4208APutCard
end Rows
end Go.Proofs.YbulkcicwDoor
