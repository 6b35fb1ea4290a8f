/-
  No cell of these rows narrows 'for every input' (looked for: loops, veiled, ifaces, maps, wideKeys, modest, calm, conditions, laid).
  DERIVED. THE GIVEN ROWS OF THIS SEAT. 1 by the template 'for every input the law returns true; each argument reads behind the call as it read before'; 0 by the template 'total and deterministic' (their statements: YbulkcicwTotals.lean).
  GIVEN WITH THE SEED: the statements are not yours to turn. If you find one false, say at which input.
  Laid BY PROGRAM, IN A SANDBOX (cutbox-rows.mjs): the forced cells as the released guide's own fill.sh prints them over the translation 7b98626bccf1ecfe… (all of the seat's roots in one cut). By AI agents, Wed Nov 11 2026. No macro, syntax, notation, axiom, sorry.
-/
import Derived.Test.YbulkcicwChecked
import GoSem.Claim
import GoSem.ClaimJoined
import GoSem.ClaimMapViews
import Derived.JoinedTies
import Derived.KernelRfl
namespace Go.Proofs.Ybulkcicw
/- THE CELL 'sum', in the pinned program and in every row, IS THE sha256 OF THE DUMP (.gsa) THAT YbulkcicwProg.lean LOADS. Nothing in Lean hashes anything: it is a label: what it is worth is what the hold of that sum in a sandbox is worth. -/
noncomputable def Yba.pinned : Pinned := { name := "ybulkcicw", sum := "7b98626bccf1ecfe9487d793298042d6d2d09eef692c8b147becfc4bd4d05a68", checked := Yba.checked }
namespace Rows
def none {H : Type} : Left H := { results := [], args := [] }

/-- 'dotset.LawS4208BAdd': WHATEVER THE INPUT: true; the input reads as it did. -/
def lawS4208BAddSpec : ChangeSpec := { name := "lawS4208BAdd", fn := fun _ => fun
  | [d1, d2, d3, d4] => { results := [.lit (.bool true)], args := [d1, d2, d3, d4] }
  | _ => none }
def lawS4208BAddRow : OpenClaim := { program := "ybulkcicw", sum := "7b98626bccf1ecfe9487d793298042d6d2d09eef692c8b147becfc4bd4d05a68", func := "example.com/dotset/dotset.LawS4208BAdd", spec := "lawS4208BAdd", apart := false }
def LawS4208BAddSaid : Prop := lawS4208BAddRow.holds Yba.pinned (OpenSpec.ofChange lawS4208BAddSpec)

/-- ITS FALSE NEIGHBOUR: 'it returns false'. Refute it at one input. -/
def lawS4208BAddWrong : ChangeSpec := { name := "lawS4208BAdd", fn := fun _ => fun
  | [d1, d2, d3, d4] => { results := [.lit (.bool false)], args := [d1, d2, d3, d4] }
  | _ => none }
def LawS4208BAddWrongFalsely : Prop := lawS4208BAddRow.holds Yba.pinned (OpenSpec.ofChange lawS4208BAddWrong)

end Rows
end Go.Proofs.Ybulkcicw
