/-
  No cell of these rows narrows 'for every input' (looked for: loops, veiled, ifaces, maps, wideKeys, modest, calm, conditions, laid).
  DERIVED. THE GIVEN ROWS OF THIS SEAT. 1 by the template 'for every input the law returns true; each argument reads behind the call as it read before'; 0 by the template 'total and deterministic' (their statements: YbulkymkTotals.lean).
  GIVEN WITH THE SEED: the statements are not yours to turn. If you find one false, say at which input.
  Laid BY PROGRAM, IN A SANDBOX (cutbox-rows.mjs): the forced cells as the released guide's own fill.sh prints them over the translation b1f2495af7ed1819… (all of the seat's roots in one cut). By AI agents, Wed Nov 11 2026. No macro, syntax, notation, axiom, sorry.
-/
import Derived.Test.YbulkymkChecked
import GoSem.Claim
import GoSem.ClaimJoined
import GoSem.ClaimMapViews
import Derived.JoinedTies
import Derived.KernelRfl
namespace Go.Proofs.Ybulkymk
/- THE CELL 'sum', in the pinned program and in every row, IS THE sha256 OF THE DUMP (.gsa) THAT YbulkymkProg.lean LOADS. Nothing in Lean hashes anything: it is a label: what it is worth is what the hold of that sum in a sandbox is worth. -/
noncomputable def Yba.pinned : Pinned := { name := "ybulkymk", sum := "b1f2495af7ed18196e92ae35ed4e09e4dbe33d24013f5a29e64975788229763c", checked := Yba.checked }
namespace Rows
def none {H : Type} : Left H := { results := [], args := [] }

/-- 'traces.LawS1232CTwice': WHATEVER THE INPUT: true; the input reads as it did. -/
def lawS1232CTwiceSpec : ChangeSpec := { name := "lawS1232CTwice", fn := fun _ => fun
  | [d1, d2, d3, d4, d5] => { results := [.lit (.bool true)], args := [d1, d2, d3, d4, d5] }
  | _ => none }
def lawS1232CTwiceRow : OpenClaim := { program := "ybulkymk", sum := "b1f2495af7ed18196e92ae35ed4e09e4dbe33d24013f5a29e64975788229763c", func := "example.com/amends/amends/internal/traces.LawS1232CTwice", spec := "lawS1232CTwice", apart := false }
def LawS1232CTwiceSaid : Prop := lawS1232CTwiceRow.holds Yba.pinned (OpenSpec.ofChange lawS1232CTwiceSpec)

/-- ITS FALSE NEIGHBOUR: 'it returns false'. Refute it at one input. -/
def lawS1232CTwiceWrong : ChangeSpec := { name := "lawS1232CTwice", fn := fun _ => fun
  | [d1, d2, d3, d4, d5] => { results := [.lit (.bool false)], args := [d1, d2, d3, d4, d5] }
  | _ => none }
def LawS1232CTwiceWrongFalsely : Prop := lawS1232CTwiceRow.holds Yba.pinned (OpenSpec.ofChange lawS1232CTwiceWrong)

end Rows
end Go.Proofs.Ybulkymk
