/-
  addSat over uint64: what it returns where the sum fits and where it wraps. (By an AI agent.)
-/
import Derived.Test.YbulkyhoRows
import Derived.WalkKit
import Derived.ProofKit
import Derived.OpenShut
import Derived.ShutString
namespace Go.Proofs.Ybulkyho.addSat
open Go.ChangeShapes Go.WideShapes Go.ChangeAt Go.RowKit

/-- The sum fits: addSat returns it. -/
theorem fits (a b : Int) (ha : 0 ≤ a) (hb : 0 ≤ b) (h : a + b ≤ 18446744073709551615) (w : World) :
    Calls Yba.prog 12 #[.int .u64 a, .int .u64 b] w fun e w' => e = .returned (.int .u64 (a + b)) ∧ w' = w := by
  have h1 : a ≤ a + b := by omega
  go_enter Yba.func12, Yba.ntmps12
  go_wp2
  go_ret
  exact ⟨rfl, rfl⟩

/-- The sum wraps: addSat returns the greatest uint64. -/
theorem wraps (a b : Int) (ha : 0 ≤ a) (hb : 0 ≤ b) (ha' : a ≤ 18446744073709551615) (hb' : b ≤ 18446744073709551615) (h : 18446744073709551615 < a + b) (w : World) :
    Calls Yba.prog 12 #[.int .u64 a, .int .u64 b] w fun e w' => e = .returned (.int .u64 18446744073709551615) ∧ w' = w := by
  have h1 : IntKind.u64.wrap (a + b) < a := by simp [IntKind.wrap, IntKind.signed, IntKind.bits]; omega
  go_enter Yba.func12, Yba.ntmps12
  go_wp2
  go_ret
  exact ⟨rfl, rfl⟩

/-- The sum fits, its value named apart. -/
theorem gives (a b c : Int) (ha : 0 ≤ a) (hb : 0 ≤ b) (hc : a + b = c) (h : c ≤ 18446744073709551615) (w : World) :
    Calls Yba.prog 12 #[.int .u64 a, .int .u64 b] w fun e w' => e = .returned (.int .u64 c) ∧ w' = w := by
  subst hc
  exact fits a b ha hb h w
end Go.Proofs.Ybulkyho.addSat
