/-
  No cell of these rows narrows 'for every input' (looked for: loops, veiled, ifaces, maps, wideKeys, modest, calm, conditions, laid).
  DERIVED. THE GIVEN ROWS OF THIS SEAT. 1 by the template 'for every input the law returns true; each argument reads behind the call as it read before'; 0 by the template 'total and deterministic' (their statements: YbulkciemTotals.lean).
  GIVEN WITH THE SEED: the statements are not yours to turn. If you find one false, say at which input.
  Laid BY PROGRAM, IN A SANDBOX (cutbox-rows.mjs): the forced cells as the released guide's own fill.sh prints them over the translation 4f80e4b9d602f8c3… (all of the seat's roots in one cut). By AI agents, Wed Nov 11 2026. No macro, syntax, notation, axiom, sorry.
-/
import Derived.Test.YbulkciemChecked
import GoSem.Claim
import GoSem.ClaimJoined
import GoSem.ClaimMapViews
import Derived.JoinedTies
import Derived.KernelRfl
namespace Go.Proofs.Ybulkciem
/- THE CELL 'sum', in the pinned program and in every row, IS THE sha256 OF THE DUMP (.gsa) THAT YbulkciemProg.lean LOADS. Nothing in Lean hashes anything: it is a label: what it is worth is what the hold of that sum in a sandbox is worth. -/
noncomputable def Yba.pinned : Pinned := { name := "ybulkciem", sum := "4f80e4b9d602f8c3017e1c9b0910d49c3d9f52a4417243672996127a5b9936c3", checked := Yba.checked }
namespace Rows
def none {H : Type} : Left H := { results := [], args := [] }

/-- 'plumbline.LawS4211CFirst': WHATEVER THE INPUT: true; the input reads as it did. -/
def lawS4211CFirstSpec : ChangeSpec := { name := "lawS4211CFirst", fn := fun _ => fun
  | [d1, d2, d3, d4] => { results := [.lit (.bool true)], args := [d1, d2, d3, d4] }
  | _ => none }
def lawS4211CFirstRow : OpenClaim := { program := "ybulkciem", sum := "4f80e4b9d602f8c3017e1c9b0910d49c3d9f52a4417243672996127a5b9936c3", func := "example.com/plumbline/plumbline.LawS4211CFirst", spec := "lawS4211CFirst", apart := false }
def LawS4211CFirstSaid : Prop := lawS4211CFirstRow.holds Yba.pinned (OpenSpec.ofChange lawS4211CFirstSpec)

/-- ITS FALSE NEIGHBOUR: 'it returns false'. Refute it at one input. -/
def lawS4211CFirstWrong : ChangeSpec := { name := "lawS4211CFirst", fn := fun _ => fun
  | [d1, d2, d3, d4] => { results := [.lit (.bool false)], args := [d1, d2, d3, d4] }
  | _ => none }
def LawS4211CFirstWrongFalsely : Prop := lawS4211CFirstRow.holds Yba.pinned (OpenSpec.ofChange lawS4211CFirstWrong)

end Rows
end Go.Proofs.Ybulkciem
