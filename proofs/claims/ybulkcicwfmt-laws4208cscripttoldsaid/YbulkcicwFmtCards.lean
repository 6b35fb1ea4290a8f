/-
  DERIVED. GIVEN WITH THE SEED: THE CARDS: each row of YbulkcicwFmtRows.lean that lists a variable, with what it lists TIED to the program's text (the seventh form; the later family's looks); each row that meets fmt, with fmt's text TOLD by the authors' own Lean function (tested against real Go, not proved from fmt's source: count such statements apart). THE CARD IS WHAT COUNTS. Prove the row's statement (the work); the ties are given (YbulkcicwFmtTie.lean); close each card by the builder's one call (the guide's Derived/Test/ToyasCard.lean, 'card_holds'). Laid BY PROGRAM, IN A SANDBOX (cutbox-door.mjs). By AI agents, Wed Nov 11 2026. No macro, syntax, notation, axiom, sorry.
-/
import Derived.Test.YbulkcicwFmtRows
import GoSem.ClaimSeven
namespace Go.Proofs.YbulkcicwFmt
namespace Rows

/-- THE TOLD CARD OF 'dotset.LawS4208CScript'. -/
def lawS4208CScriptCard : Claim7 := { stood := { row := lawS4208CScriptRow, standIns := [], harness := (true, "b54f74cb96c3bd2dfee856c8068a46d076bf8103ce010961fb36018e7f8314cc"), looks := true }, told := true, goes := false }
def LawS4208CScriptToldSaid : Prop := Claim7.holds Ybaf.pinned (.plain (OpenSpec.ofChange lawS4208CScriptSpec)) lawS4208CScriptCard
/-- ITS FALSE NEIGHBOUR. Refute it at one input. -/
def LawS4208CScriptToldWrongFalsely : Prop := Claim7.holds Ybaf.pinned (.plain (OpenSpec.ofChange lawS4208CScriptWrong)) lawS4208CScriptCard

/-- THE TOLD CARD OF 'dotset.LawS4208CRaw'. -/
def lawS4208CRawCard : Claim7 := { stood := { row := lawS4208CRawRow, standIns := [], harness := (true, "b54f74cb96c3bd2dfee856c8068a46d076bf8103ce010961fb36018e7f8314cc"), looks := true }, told := true, goes := false }
def LawS4208CRawToldSaid : Prop := Claim7.holds Ybaf.pinned (.plain (OpenSpec.ofChange lawS4208CRawSpec)) lawS4208CRawCard
/-- ITS FALSE NEIGHBOUR. Refute it at one input. -/
def LawS4208CRawToldWrongFalsely : Prop := Claim7.holds Ybaf.pinned (.plain (OpenSpec.ofChange lawS4208CRawWrong)) lawS4208CRawCard
end Rows
end Go.Proofs.YbulkcicwFmt
