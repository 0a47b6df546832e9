/-
  errors.Is(e, x), e a *fmt.wrapError that wraps x itself (a sentinel of errors.New's make): true. The guide's worked text SentryIs.lean (its 'is_wrap_same'), turned to this program's numbers. (By an AI agent.)
  29: error · 53: *errors.errorString · 55: errors.errorString · 42: *fmt.wrapError · 44: reflectlite's rtype · 46, 49, 50: the interfaces of Is, Unwrap, Unwrap of several · functions: 9: errors.Is · 11: reflectlite.TypeOf · 42: (rtype).Comparable · 38: (*fmt.wrapError).Unwrap.
-/
import Derived.Test.YbulkyhoFmtRows
import Derived.WalkKit
import Derived.LaidEql
import Derived.Stop.Asserts
import Derived.RowKitTokens
namespace Go.Proofs.YbulkyhoFmt
open Go.RowKit Go.Extern.Stop Go.Stop Go.Extern

theorem Ybaf.isTypeOf (v : Value) (w : World) : (callFunc 11 #[.iface 53 v]).run Ybaf.prog w = .ok (.value (.iface 44 (.agg #[.pointer (some ⟨1, 53, none⟩)]))) w := by kernel_rfl
theorem Ybaf.isComparable (w : World) : (callFunc 42 #[.agg #[.pointer (some ⟨1, 53, none⟩)]]).run Ybaf.prog w = .ok (.value (.bool true)) w := by kernel_rfl
theorem Ybaf.isMethodComparable (v : Value) (w : World) : (Go.method 208 44 v "Comparable").run Ybaf.prog w = .ok (42, v) w := by kernel_rfl
theorem Ybaf.isComp : (Ybaf.prog.info? 53).map (·.comparable) = some true := by kernel_rfl
theorem Ybaf.isSize : (Ybaf.prog.info? 55).map (·.size) = some 1 := by kernel_rfl
theorem Ybaf.noIsW (v : Value) (xT : TypeId) (w : World) : (Instr.typeAssert (.iface 42 v) xT 46 true).run Ybaf.prog w = .ok (.tuple #[.nilIface, .bool false]) w := run_typeAssert_lacksB Ybaf.underlying46 (by kernel_rfl) (by kernel_rfl) v xT w
theorem Ybaf.hasUnwrapW (v : Value) (xT : TypeId) (w : World) : (Instr.typeAssert (.iface 42 v) xT 49 true).run Ybaf.prog w = .ok (.tuple #[.iface 42 v, .bool true]) w := run_typeAssert_hasB Ybaf.underlying49 (by kernel_rfl) v xT w
theorem Ybaf.methodUnwrap (v : Value) (w : World) : (Go.method 208 42 v "Unwrap").run Ybaf.prog w = .ok (38, v) w := by kernel_rfl

/-- errors.Is(e, x), e a *fmt.wrapError that wraps x itself: one Unwrap, then equal. -/
theorem is_wrap_same (pb po : Nat) (b : Addr) (w : World) (h1 : w.cell? ⟨pb, po + 1, none⟩ = some (.iface 53 (.pointer (some b)))) :
    Calls Ybaf.prog 9 #[.iface 42 (.pointer (some ⟨pb, po, none⟩)), .iface 53 (.pointer (some b))] w fun e w' => e = .returned (.bool true) ∧ w' = w := by
  obtain ⟨i, hi, hcmp⟩ := Option.map_eq_some_iff.1 Ybaf.isComp
  obtain ⟨j, hj, hjs⟩ := Option.map_eq_some_iff.1 Ybaf.isSize
  have tT := Ybaf.isTypeOf
  have cT := Ybaf.isComparable
  have mR := Ybaf.isMethodComparable
  have nW := Ybaf.noIsW
  have uW := Ybaf.hasUnwrapW
  have mU := Ybaf.methodUnwrap
  have heq := run_eql_iface_ptr_same (P := Ybaf.prog) w b Ybaf.underlying29 Ybaf.underlying53 hi hcmp hj
  have hty := run_eql_iface_types (P := Ybaf.prog) 42 53 (.pointer (some ⟨pb, po, none⟩)) (.pointer (some b)) Ybaf.underlying29 (by decide) w
  go_enter Ybaf.func9, Ybaf.ntmps9
  go_wp2
  refine wp_loop_rounds 2 ?_
  rw [rounds_succ]
  go_wp2
  rw [rounds_succ]
  go_wp2
  go_ret
  exact ⟨rfl, rfl⟩
end Go.Proofs.YbulkyhoFmt
