/-
  No cell of these rows narrows 'for every input' (looked for: loops, veiled, ifaces, maps, wideKeys, modest, calm, conditions, laid).
  DERIVED. THE GIVEN ROWS OF THIS SEAT. 3 by the template 'for every input the law returns true; each argument reads behind the call as it read before'; 0 by the template 'total and deterministic' (their statements: YbulkykgTotals.lean).
  GIVEN WITH THE SEED: the statements are not yours to turn. If you find one false, say at which input.
  Laid BY PROGRAM, IN A SANDBOX (cutbox-rows.mjs): the forced cells as the released guide's own fill.sh prints them over the translation 0d2e519fcaa28b1a… (all of the seat's roots in one cut). By AI agents, Wed Nov 11 2026. No macro, syntax, notation, axiom, sorry.
-/
import Derived.Test.YbulkykgChecked
import GoSem.Claim
import GoSem.ClaimJoined
import GoSem.ClaimMapViews
import Derived.JoinedTies
import Derived.KernelRfl
namespace Go.Proofs.Ybulkykg
/- THE CELL 'sum', in the pinned program and in every row, IS THE sha256 OF THE DUMP (.gsa) THAT YbulkykgProg.lean LOADS. Nothing in Lean hashes anything: it is a label: what it is worth is what the hold of that sum in a sandbox is worth. -/
noncomputable def Yba.pinned : Pinned := { name := "ybulkykg", sum := "0d2e519fcaa28b1a0f85625bf776c3c8d7ee0a7dfe6ea82ae5ee911236931d53", checked := Yba.checked }
namespace Rows
def none {H : Type} : Left H := { results := [], args := [] }

/-- 'engine.LawS1228AExact': WHATEVER THE INPUT: true; the input reads as it did. -/
def lawS1228AExactSpec : ChangeSpec := { name := "lawS1228AExact", fn := fun _ => fun
  | [d] => { results := [.lit (.bool true)], args := [d] }
  | _ => none }
def lawS1228AExactRow : OpenClaim := { program := "ybulkykg", sum := "0d2e519fcaa28b1a0f85625bf776c3c8d7ee0a7dfe6ea82ae5ee911236931d53", func := "example.com/ballast/ballast/pkg/engine.LawS1228AExact", spec := "lawS1228AExact", named := ["encoding/binary.BigEndian"], apart := false }
def LawS1228AExactSaid : Prop := lawS1228AExactRow.holds Yba.pinned (OpenSpec.ofChange lawS1228AExactSpec)

/-- ITS FALSE NEIGHBOUR: 'it returns false'. Refute it at one input. -/
def lawS1228AExactWrong : ChangeSpec := { name := "lawS1228AExact", fn := fun _ => fun
  | [d] => { results := [.lit (.bool false)], args := [d] }
  | _ => none }
def LawS1228AExactWrongFalsely : Prop := lawS1228AExactRow.holds Yba.pinned (OpenSpec.ofChange lawS1228AExactWrong)

/-- 'engine.LawS1228AOrder': WHATEVER THE INPUT: true; the input reads as it did. -/
def lawS1228AOrderSpec : ChangeSpec := { name := "lawS1228AOrder", fn := fun _ => fun
  | [d1, d2] => { results := [.lit (.bool true)], args := [d1, d2] }
  | _ => none }
def lawS1228AOrderRow : OpenClaim := { program := "ybulkykg", sum := "0d2e519fcaa28b1a0f85625bf776c3c8d7ee0a7dfe6ea82ae5ee911236931d53", func := "example.com/ballast/ballast/pkg/engine.LawS1228AOrder", spec := "lawS1228AOrder", named := ["encoding/binary.BigEndian"], apart := false }
def LawS1228AOrderSaid : Prop := lawS1228AOrderRow.holds Yba.pinned (OpenSpec.ofChange lawS1228AOrderSpec)

/-- ITS FALSE NEIGHBOUR: 'it returns false'. Refute it at one input. -/
def lawS1228AOrderWrong : ChangeSpec := { name := "lawS1228AOrder", fn := fun _ => fun
  | [d1, d2] => { results := [.lit (.bool false)], args := [d1, d2] }
  | _ => none }
def LawS1228AOrderWrongFalsely : Prop := lawS1228AOrderRow.holds Yba.pinned (OpenSpec.ofChange lawS1228AOrderWrong)

/-- 'engine.LawS1228CSorted': WHATEVER THE INPUT: true; the input reads as it did. -/
def lawS1228CSortedSpec : ChangeSpec := { name := "lawS1228CSorted", fn := fun _ => fun
  | [d1, d2] => { results := [.lit (.bool true)], args := [d1, d2] }
  | _ => none }
def lawS1228CSortedRow : OpenClaim := { program := "ybulkykg", sum := "0d2e519fcaa28b1a0f85625bf776c3c8d7ee0a7dfe6ea82ae5ee911236931d53", func := "example.com/ballast/ballast/pkg/engine.LawS1228CSorted", spec := "lawS1228CSorted", unfollowed := true, recurses := true, apart := false }
def LawS1228CSortedSaid : Prop := lawS1228CSortedRow.holds Yba.pinned (OpenSpec.ofChange lawS1228CSortedSpec)

/-- ITS FALSE NEIGHBOUR: 'it returns false'. Refute it at one input. -/
def lawS1228CSortedWrong : ChangeSpec := { name := "lawS1228CSorted", fn := fun _ => fun
  | [d1, d2] => { results := [.lit (.bool false)], args := [d1, d2] }
  | _ => none }
def LawS1228CSortedWrongFalsely : Prop := lawS1228CSortedRow.holds Yba.pinned (OpenSpec.ofChange lawS1228CSortedWrong)

end Rows
end Go.Proofs.Ybulkykg
