/-
  DERIVED. GIVEN WITH THE SEED: THE CARDS: each row of YbulkyhoFmtRows.lean that lists a variable, with what it lists TIED to the program's text (the seventh form; the later family's looks); each row that meets fmt, with fmt's text TOLD by the authors' own Lean function (tested against real Go, not proved from fmt's source: count such statements apart). THE CARD IS WHAT COUNTS. Prove the row's statement (the work); the ties are given (YbulkyhoFmtTie.lean); close each card by the builder's one call (the guide's Derived/Test/ToyasCard.lean, 'card_holds'). Laid BY PROGRAM, IN A SANDBOX (cutbox-door.mjs). By AI agents, Wed Nov 11 2026. No macro, syntax, notation, axiom, sorry.
-/
import Derived.Test.YbulkyhoFmtRows
import GoSem.ClaimSeven
namespace Go.Proofs.YbulkyhoFmt
namespace Rows

/-- THE TOLD AND TIED CARD OF 'idle-tap.LawS1223BExact'. -/
def lawS1223BExactCard : Claim7 := { stood := { row := lawS1223BExactRow, standIns := [], harness := (true, "f36c8f37cf5f2ba12a268aae409df01d54c14a042abd036ad51a43fcb13dde37"), looks := true }, told := true, laidByText := true, laidKinds := [.sentinel], laidTests := true, laidLooks := .later, goes := false }
def LawS1223BExactToldSaid : Prop := Claim7.holds Ybaf.pinned (.plain (OpenSpec.ofChange lawS1223BExactSpec)) lawS1223BExactCard
/-- ITS FALSE NEIGHBOUR. Refute it at one input. -/
def LawS1223BExactToldWrongFalsely : Prop := Claim7.holds Ybaf.pinned (.plain (OpenSpec.ofChange lawS1223BExactWrong)) lawS1223BExactCard

/-- THE TOLD AND TIED CARD OF 'idle-tap.LawS1223BLiteral'. -/
def lawS1223BLiteralCard : Claim7 := { stood := { row := lawS1223BLiteralRow, standIns := [], harness := (true, "f36c8f37cf5f2ba12a268aae409df01d54c14a042abd036ad51a43fcb13dde37"), looks := true }, told := true, laidByText := true, laidKinds := [.sentinel], laidTests := true, laidLooks := .later, goes := false }
def LawS1223BLiteralToldSaid : Prop := Claim7.holds Ybaf.pinned (.plain (OpenSpec.ofChange lawS1223BLiteralSpec)) lawS1223BLiteralCard
/-- ITS FALSE NEIGHBOUR. Refute it at one input. -/
def LawS1223BLiteralToldWrongFalsely : Prop := Claim7.holds Ybaf.pinned (.plain (OpenSpec.ofChange lawS1223BLiteralWrong)) lawS1223BLiteralCard
end Rows
end Go.Proofs.YbulkyhoFmt
