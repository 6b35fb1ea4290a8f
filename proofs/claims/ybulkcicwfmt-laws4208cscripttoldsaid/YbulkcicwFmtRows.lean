/-
  No cell of these rows narrows 'for every input' (looked for: loops, veiled, ifaces, maps, wideKeys, modest, calm, conditions, laid).
  DERIVED. THE GIVEN ROWS OF THIS SEAT. 2 by the template 'for every input the law returns true; each argument reads behind the call as it read before'; 0 by the template 'total and deterministic' (their statements: YbulkcicwFmtTotals.lean).
  GIVEN WITH THE SEED: the statements are not yours to turn. If you find one false, say at which input.
  Laid BY PROGRAM, IN A SANDBOX (cutbox-rows.mjs): the forced cells as the released guide's own fill.sh prints them over the translation 6e0893f546fed30c… (all of the seat's roots in one cut). By AI agents, Wed Nov 11 2026. No macro, syntax, notation, axiom, sorry.
-/
import Derived.Test.YbulkcicwFmtChecked
import GoSem.Claim
import GoSem.ClaimJoined
import GoSem.ClaimMapViews
import Derived.JoinedTies
import Derived.KernelRfl
namespace Go.Proofs.YbulkcicwFmt
/- THE CELL 'sum', in the pinned program and in every row, IS THE sha256 OF THE DUMP (.gsa) THAT YbulkcicwFmtProg.lean LOADS. Nothing in Lean hashes anything: it is a label: what it is worth is what the hold of that sum in a sandbox is worth. -/
noncomputable def Ybaf.pinned : Pinned := { name := "ybulkcicwfmt", sum := "6e0893f546fed30c436e1f2ffb1f4f05f4de6efefd437f7891a3f157c5509c36", checked := Ybaf.checked }
namespace Rows
def none {H : Type} : Left H := { results := [], args := [] }

/-- 'dotset.LawS4208CScript': WHATEVER THE INPUT: true; the input reads as it did. -/
def lawS4208CScriptSpec : ChangeSpec := { name := "lawS4208CScript", fn := fun _ => fun
  | [d] => { results := [.lit (.bool true)], args := [d] }
  | _ => none }
def lawS4208CScriptRow : OpenClaim := { program := "ybulkcicwfmt", sum := "6e0893f546fed30c436e1f2ffb1f4f05f4de6efefd437f7891a3f157c5509c36", func := "example.com/dotset/dotset.LawS4208CScript", spec := "lawS4208CScript", stops := ["fmt.Sprintf, its operands' methods called"], inPlace := ["fmt.Sprintf"], unfollowed := true, recurses := true, apart := false }
/-- NO THEOREM (fmt's text is open here; it may be false): for the released tool's asking of the row's closed facts alone. THE STATEMENT IS 'LawS4208CScriptToldSaid' (YbulkcicwFmtCards.lean). -/
def LawS4208CScriptFormAsk : Prop := lawS4208CScriptRow.holds Ybaf.pinned (OpenSpec.ofChange lawS4208CScriptSpec)

/-- ITS FALSE NEIGHBOUR: 'it returns false'. Refute it at one input. -/
def lawS4208CScriptWrong : ChangeSpec := { name := "lawS4208CScript", fn := fun _ => fun
  | [d] => { results := [.lit (.bool false)], args := [d] }
  | _ => none }
def LawS4208CScriptWrongFormAsk : Prop := lawS4208CScriptRow.holds Ybaf.pinned (OpenSpec.ofChange lawS4208CScriptWrong)

/-- 'dotset.LawS4208CRaw': WHATEVER THE INPUT: true; the input reads as it did. -/
def lawS4208CRawSpec : ChangeSpec := { name := "lawS4208CRaw", fn := fun _ => fun
  | [d1, d2, d3, d4] => { results := [.lit (.bool true)], args := [d1, d2, d3, d4] }
  | _ => none }
def lawS4208CRawRow : OpenClaim := { program := "ybulkcicwfmt", sum := "6e0893f546fed30c436e1f2ffb1f4f05f4de6efefd437f7891a3f157c5509c36", func := "example.com/dotset/dotset.LawS4208CRaw", spec := "lawS4208CRaw", stops := ["fmt.Sprintf, its operands' methods called"], inPlace := ["fmt.Sprintf"], unfollowed := true, recurses := true, apart := false }
/-- NO THEOREM (fmt's text is open here; it may be false): for the released tool's asking of the row's closed facts alone. THE STATEMENT IS 'LawS4208CRawToldSaid' (YbulkcicwFmtCards.lean). -/
def LawS4208CRawFormAsk : Prop := lawS4208CRawRow.holds Ybaf.pinned (OpenSpec.ofChange lawS4208CRawSpec)

/-- ITS FALSE NEIGHBOUR: 'it returns false'. Refute it at one input. -/
def lawS4208CRawWrong : ChangeSpec := { name := "lawS4208CRaw", fn := fun _ => fun
  | [d1, d2, d3, d4] => { results := [.lit (.bool false)], args := [d1, d2, d3, d4] }
  | _ => none }
def LawS4208CRawWrongFormAsk : Prop := lawS4208CRawRow.holds Ybaf.pinned (OpenSpec.ofChange lawS4208CRawWrong)

end Rows
end Go.Proofs.YbulkcicwFmt
