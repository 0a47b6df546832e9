/-
  NARROWER THAN 'FOR EVERY INPUT', by the rows' own cells (each row's printed sentence says how): LawS1223BExact: ifaces, laid · LawS1223BLiteral: ifaces, laid.
  DERIVED. THE GIVEN ROWS OF THIS SEAT. 2 by the template 'for every input the law returns true; each argument reads behind the call as it read before'; 0 by the template 'total and deterministic' (their statements: YbulkyhoFmtTotals.lean).
  GIVEN WITH THE SEED: the statements are not yours to turn. If you find one false, say at which input.
  Laid BY PROGRAM, IN A SANDBOX (cutbox-rows.mjs): the forced cells as the released guide's own fill.sh prints them over the translation 85b40ec1ebf722f5… (all of the seat's roots in one cut). By AI agents, Wed Nov 11 2026. No macro, syntax, notation, axiom, sorry.
-/
import Derived.Test.YbulkyhoFmtChecked
import GoSem.Claim
import GoSem.ClaimJoined
import GoSem.ClaimMapViews
import Derived.JoinedTies
import Derived.KernelRfl
namespace Go.Proofs.YbulkyhoFmt
/- THE CELL 'sum', in the pinned program and in every row, IS THE sha256 OF THE DUMP (.gsa) THAT YbulkyhoFmtProg.lean LOADS. Nothing in Lean hashes anything: it is a label: what it is worth is what the hold of that sum in a sandbox is worth. -/
noncomputable def Ybaf.pinned : Pinned := { name := "ybulkyhofmt", sum := "85b40ec1ebf722f5c4d6235b36d116054f0f18592f2ae61e96ebaace952ec889", checked := Ybaf.checked }
namespace Rows
def none {H : Type} : Left H := { results := [], args := [] }

/- WHAT THE LISTED PACKAGE-LEVEL VARIABLES READ AS WHEN THE CALL BEGINS. Each datum BY PROGRAM (the guide's laid-datum.mjs) off the statement by which the dump's own 'gosem.cut.vars' lays the variable. In a bare row this is a premise. The card (YbulkyhoFmtCards.lean) ties it to the program's text. -/
def laid_example_com_idle_tap_idle_tap_ErrInvalidRate {H : Type} : DataW H := .iface "*errors.errorString" (.ptr (.agg [.lit (.string [105, 100, 108, 101, 116, 97, 112, 58, 32, 105, 110, 118, 97, 108, 105, 100, 32, 114, 97, 116, 101])]))

/-- 'idle-tap.LawS1223BExact': WHATEVER THE INPUT: true; the input reads as it did. -/
def lawS1223BExactSpec : ChangeSpec := { name := "lawS1223BExact", vars := ["example.com/idle-tap/idle-tap.ErrInvalidRate"], fn := fun _ => fun
  | [d1, d2, d3, g1] => { results := [.lit (.bool true)], args := [d1, d2, d3], vars := [g1] }
  | _ => none }
def lawS1223BExactRow : OpenClaim := { program := "ybulkyhofmt", sum := "85b40ec1ebf722f5c4d6235b36d116054f0f18592f2ae61e96ebaace952ec889", func := "example.com/idle-tap/idle-tap.LawS1223BExact", spec := "lawS1223BExact", stops := ["fmt.errorf, its operands' methods called"], inPlace := ["fmt.errorf", "internal/reflectlite.TypeOf"], unfollowed := true, recurses := true, named := ["example.com/idle-tap/idle-tap.ErrInvalidRate"], ifaces := true, apart := false, laid := [("example.com/idle-tap/idle-tap.ErrInvalidRate", laid_example_com_idle_tap_idle_tap_ErrInvalidRate)] }
/-- NO THEOREM (fmt's text is open here; it may be false): for the released tool's asking of the row's closed facts alone. THE STATEMENT IS 'LawS1223BExactToldSaid' (YbulkyhoFmtCards.lean). -/
def LawS1223BExactFormAsk : Prop := lawS1223BExactRow.holds Ybaf.pinned (OpenSpec.ofChange lawS1223BExactSpec)

/-- ITS FALSE NEIGHBOUR: 'it returns false'. Refute it at one input. -/
def lawS1223BExactWrong : ChangeSpec := { name := "lawS1223BExact", vars := ["example.com/idle-tap/idle-tap.ErrInvalidRate"], fn := fun _ => fun
  | [d1, d2, d3, g1] => { results := [.lit (.bool false)], args := [d1, d2, d3], vars := [g1] }
  | _ => none }
def LawS1223BExactWrongFormAsk : Prop := lawS1223BExactRow.holds Ybaf.pinned (OpenSpec.ofChange lawS1223BExactWrong)

/-- 'idle-tap.LawS1223BLiteral': WHATEVER THE INPUT: true; the input reads as it did. -/
def lawS1223BLiteralSpec : ChangeSpec := { name := "lawS1223BLiteral", vars := ["example.com/idle-tap/idle-tap.ErrInvalidRate"], fn := fun _ => fun
  | [d1, d2, d3, g1] => { results := [.lit (.bool true)], args := [d1, d2, d3], vars := [g1] }
  | _ => none }
def lawS1223BLiteralRow : OpenClaim := { program := "ybulkyhofmt", sum := "85b40ec1ebf722f5c4d6235b36d116054f0f18592f2ae61e96ebaace952ec889", func := "example.com/idle-tap/idle-tap.LawS1223BLiteral", spec := "lawS1223BLiteral", stops := ["fmt.errorf, its operands' methods called"], inPlace := ["fmt.errorf", "internal/reflectlite.TypeOf"], unfollowed := true, recurses := true, named := ["example.com/idle-tap/idle-tap.ErrInvalidRate"], ifaces := true, apart := false, laid := [("example.com/idle-tap/idle-tap.ErrInvalidRate", laid_example_com_idle_tap_idle_tap_ErrInvalidRate)] }
/-- NO THEOREM (fmt's text is open here; it may be false): for the released tool's asking of the row's closed facts alone. THE STATEMENT IS 'LawS1223BLiteralToldSaid' (YbulkyhoFmtCards.lean). -/
def LawS1223BLiteralFormAsk : Prop := lawS1223BLiteralRow.holds Ybaf.pinned (OpenSpec.ofChange lawS1223BLiteralSpec)

/-- ITS FALSE NEIGHBOUR: 'it returns false'. Refute it at one input. -/
def lawS1223BLiteralWrong : ChangeSpec := { name := "lawS1223BLiteral", vars := ["example.com/idle-tap/idle-tap.ErrInvalidRate"], fn := fun _ => fun
  | [d1, d2, d3, g1] => { results := [.lit (.bool false)], args := [d1, d2, d3], vars := [g1] }
  | _ => none }
def LawS1223BLiteralWrongFormAsk : Prop := lawS1223BLiteralRow.holds Ybaf.pinned (OpenSpec.ofChange lawS1223BLiteralWrong)

end Rows
end Go.Proofs.YbulkyhoFmt
