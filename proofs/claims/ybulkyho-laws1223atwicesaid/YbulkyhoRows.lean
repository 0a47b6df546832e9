/-
  No cell of these rows narrows 'for every input' (looked for: loops, veiled, ifaces, maps, wideKeys, modest, calm, conditions, laid).
  DERIVED. THE GIVEN ROWS OF THIS SEAT. 5 by the template 'for every input the law returns true; each argument reads behind the call as it read before'; 0 by the template 'total and deterministic' (their statements: YbulkyhoTotals.lean).
  GIVEN WITH THE SEED: the statements are not yours to turn. If you find one false, say at which input.
  Laid BY PROGRAM, IN A SANDBOX (cutbox-rows.mjs): the forced cells as the released guide's own fill.sh prints them over the translation 19c4f3d6fcbfe604… (all of the seat's roots in one cut). By AI agents, Wed Nov 11 2026. No macro, syntax, notation, axiom, sorry.
-/
import Derived.Test.YbulkyhoChecked
import GoSem.Claim
import GoSem.ClaimJoined
import GoSem.ClaimMapViews
import Derived.JoinedTies
import Derived.KernelRfl
namespace Go.Proofs.Ybulkyho
/- THE CELL 'sum', in the pinned program and in every row, IS THE sha256 OF THE DUMP (.gsa) THAT YbulkyhoProg.lean LOADS. Nothing in Lean hashes anything: it is a label: what it is worth is what the hold of that sum in a sandbox is worth. -/
noncomputable def Yba.pinned : Pinned := { name := "ybulkyho", sum := "19c4f3d6fcbfe604b5ac73e7eb8344fe431e06cb99136ff99d27717920b8f704", checked := Yba.checked }
namespace Rows
def none {H : Type} : Left H := { results := [], args := [] }

/-- 'idle-tap.LawS1223APublish': WHATEVER THE INPUT: true; the input reads as it did. -/
def lawS1223APublishSpec : ChangeSpec := { name := "lawS1223APublish", fn := fun _ => fun
  | [d1, d2, d3, d4] => { results := [.lit (.bool true)], args := [d1, d2, d3, d4] }
  | _ => none }
def lawS1223APublishRow : OpenClaim := { program := "ybulkyho", sum := "19c4f3d6fcbfe604b5ac73e7eb8344fe431e06cb99136ff99d27717920b8f704", func := "example.com/idle-tap/idle-tap.LawS1223APublish", spec := "lawS1223APublish", inPlace := ["sync/atomic.StoreInt64", "sync/atomic.LoadInt64"], apart := false }
def LawS1223APublishSaid : Prop := lawS1223APublishRow.holds Yba.pinned (OpenSpec.ofChange lawS1223APublishSpec)

/-- ITS FALSE NEIGHBOUR: 'it returns false'. Refute it at one input. -/
def lawS1223APublishWrong : ChangeSpec := { name := "lawS1223APublish", fn := fun _ => fun
  | [d1, d2, d3, d4] => { results := [.lit (.bool false)], args := [d1, d2, d3, d4] }
  | _ => none }
def LawS1223APublishWrongFalsely : Prop := lawS1223APublishRow.holds Yba.pinned (OpenSpec.ofChange lawS1223APublishWrong)

/-- 'idle-tap.LawS1223ATwice': WHATEVER THE INPUT: true; the input reads as it did. -/
def lawS1223ATwiceSpec : ChangeSpec := { name := "lawS1223ATwice", fn := fun _ => fun
  | [d1, d2, d3, d4, d5] => { results := [.lit (.bool true)], args := [d1, d2, d3, d4, d5] }
  | _ => none }
def lawS1223ATwiceRow : OpenClaim := { program := "ybulkyho", sum := "19c4f3d6fcbfe604b5ac73e7eb8344fe431e06cb99136ff99d27717920b8f704", func := "example.com/idle-tap/idle-tap.LawS1223ATwice", spec := "lawS1223ATwice", inPlace := ["sync/atomic.StoreInt64", "sync/atomic.LoadInt64"], apart := false }
def LawS1223ATwiceSaid : Prop := lawS1223ATwiceRow.holds Yba.pinned (OpenSpec.ofChange lawS1223ATwiceSpec)

/-- ITS FALSE NEIGHBOUR: 'it returns false'. Refute it at one input. -/
def lawS1223ATwiceWrong : ChangeSpec := { name := "lawS1223ATwice", fn := fun _ => fun
  | [d1, d2, d3, d4, d5] => { results := [.lit (.bool false)], args := [d1, d2, d3, d4, d5] }
  | _ => none }
def LawS1223ATwiceWrongFalsely : Prop := lawS1223ATwiceRow.holds Yba.pinned (OpenSpec.ofChange lawS1223ATwiceWrong)

/-- 'idle-tap.LawS1223CExact': WHATEVER THE INPUT: true; the input reads as it did. -/
def lawS1223CExactSpec : ChangeSpec := { name := "lawS1223CExact", fn := fun _ => fun
  | [d1, d2] => { results := [.lit (.bool true)], args := [d1, d2] }
  | _ => none }
def lawS1223CExactRow : OpenClaim := { program := "ybulkyho", sum := "19c4f3d6fcbfe604b5ac73e7eb8344fe431e06cb99136ff99d27717920b8f704", func := "example.com/idle-tap/idle-tap.LawS1223CExact", spec := "lawS1223CExact", apart := false }
def LawS1223CExactSaid : Prop := lawS1223CExactRow.holds Yba.pinned (OpenSpec.ofChange lawS1223CExactSpec)

/-- ITS FALSE NEIGHBOUR: 'it returns false'. Refute it at one input. -/
def lawS1223CExactWrong : ChangeSpec := { name := "lawS1223CExact", fn := fun _ => fun
  | [d1, d2] => { results := [.lit (.bool false)], args := [d1, d2] }
  | _ => none }
def LawS1223CExactWrongFalsely : Prop := lawS1223CExactRow.holds Yba.pinned (OpenSpec.ofChange lawS1223CExactWrong)

/-- 'idle-tap.LawS1223CCommute': WHATEVER THE INPUT: true; the input reads as it did. -/
def lawS1223CCommuteSpec : ChangeSpec := { name := "lawS1223CCommute", fn := fun _ => fun
  | [d1, d2] => { results := [.lit (.bool true)], args := [d1, d2] }
  | _ => none }
def lawS1223CCommuteRow : OpenClaim := { program := "ybulkyho", sum := "19c4f3d6fcbfe604b5ac73e7eb8344fe431e06cb99136ff99d27717920b8f704", func := "example.com/idle-tap/idle-tap.LawS1223CCommute", spec := "lawS1223CCommute", apart := false }
def LawS1223CCommuteSaid : Prop := lawS1223CCommuteRow.holds Yba.pinned (OpenSpec.ofChange lawS1223CCommuteSpec)

/-- ITS FALSE NEIGHBOUR: 'it returns false'. Refute it at one input. -/
def lawS1223CCommuteWrong : ChangeSpec := { name := "lawS1223CCommute", fn := fun _ => fun
  | [d1, d2] => { results := [.lit (.bool false)], args := [d1, d2] }
  | _ => none }
def LawS1223CCommuteWrongFalsely : Prop := lawS1223CCommuteRow.holds Yba.pinned (OpenSpec.ofChange lawS1223CCommuteWrong)

/-- 'idle-tap.LawS1223CSmall': WHATEVER THE INPUT: true; the input reads as it did. -/
def lawS1223CSmallSpec : ChangeSpec := { name := "lawS1223CSmall", fn := fun _ => fun
  | [d1, d2] => { results := [.lit (.bool true)], args := [d1, d2] }
  | _ => none }
def lawS1223CSmallRow : OpenClaim := { program := "ybulkyho", sum := "19c4f3d6fcbfe604b5ac73e7eb8344fe431e06cb99136ff99d27717920b8f704", func := "example.com/idle-tap/idle-tap.LawS1223CSmall", spec := "lawS1223CSmall", apart := false }
def LawS1223CSmallSaid : Prop := lawS1223CSmallRow.holds Yba.pinned (OpenSpec.ofChange lawS1223CSmallSpec)

/-- ITS FALSE NEIGHBOUR: 'it returns false'. Refute it at one input. -/
def lawS1223CSmallWrong : ChangeSpec := { name := "lawS1223CSmall", fn := fun _ => fun
  | [d1, d2] => { results := [.lit (.bool false)], args := [d1, d2] }
  | _ => none }
def LawS1223CSmallWrongFalsely : Prop := lawS1223CSmallRow.holds Yba.pinned (OpenSpec.ofChange lawS1223CSmallWrong)

end Rows
end Go.Proofs.Ybulkyho
