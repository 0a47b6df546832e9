/-
  fmt.Errorf over the calling stop, at this program's two formats: the closed facts that the walk wants (after the guide's generated texts PortFmt.lean, LevelsFmt.lean, turned to this program's numbers by hand), and the contract: whatever text fmt gives, the result is a new *fmt.wrapError that holds the sentinel. (By an AI agent.)
  20: interface of no method · 29: error · 9: string · 2: int64 · 22: time.Duration · 53: *errors.errorString (55) · 42: *fmt.wrapError (90) · functions: 10: fmt.Errorf · 13: fmt.errorf (the stop) · 15: (time.Duration).String.
-/
import Derived.Test.YbulkyhoFmtString
import Derived.Stop.CallBack
import Derived.Stop.IfaceNil
import GoSem.ClaimData
import Derived.BigCall
import Derived.Deep.DeepFit
namespace Go.Proofs.YbulkyhoFmt
open Go.RowKit Go.Extern.Stop Go.Stop Go.Extern
set_option linter.unusedVariables false

theorem Ybaf.call13 (args : Array Value) (w : World) : (callFunc 13 args).run Ybaf.prog w = (FmtCalls.errorf #[9, 40] #[29] args).run Ybaf.prog w :=
  run_callFunc_next Ybaf.func13 (by kernel_rfl) (by kernel_rfl) (by kernel_rfl) args w
theorem Ybaf.guard (name : String) (w : World) : (FmtStop.guard name).run Ybaf.prog w = .ok () w := by kernel_rfl
theorem Ybaf.nextTurns : Extern.next FmtCalls.turnsRow = some (FmtCalls.begun #[] #[]) := by kernel_rfl
theorem Ybaf.nextReturned : Extern.next FmtCalls.returnedRow = some (FmtCalls.returned #[] #[]) := by kernel_rfl
theorem Ybaf.fmtA (w : World) : (FmtDoors.printed ⟨#[37, 119, 58, 32, 37, 100, 32, 112, 101, 114, 32, 37, 118, 58, 32, 99, 111, 117, 110, 116, 32, 98, 101, 108, 111, 119, 32, 122, 101, 114, 111]⟩ 3).run Ybaf.prog w = .ok [(0, 119, false), (1, 100, false), (2, 118, false)] w := by kernel_rfl
theorem Ybaf.fmtB (w : World) : (FmtDoors.printed ⟨#[37, 119, 58, 32, 37, 100, 32, 112, 101, 114, 32, 37, 118, 58, 32, 112, 101, 114, 105, 111, 100, 32, 110, 111, 116, 32, 97, 98, 111, 118, 101, 32, 122, 101, 114, 111]⟩ 3).run Ybaf.prog w = .ok [(0, 119, false), (1, 100, false), (2, 118, false)] w := by kernel_rfl
-- type 2: int64
def Ybaf.shape2 : List UInt8 := FmtStop.intCode .i64 :: FmtStop.pack [105, 110, 116, 54, 52]
theorem Ybaf.act2 (name : String) (x : Value) (w : World) : (FmtCalls.act name true 100 false (.iface 2 x)).run Ybaf.prog w = .ok (.closed true) w := by kernel_rfl
theorem Ybaf.op2 (name : String) (x : Int) (w : World) : (FmtStop.operand name true 100 false (.iface 2 (.int .i64 x))).run Ybaf.prog w = .ok (Ybaf.shape2, Go.Extern.Stop.digits 8 (x % 2 ^ 64).toNat) w := by kernel_rfl
theorem Ybaf.str2 (w : World) : (typeStr 2).run Ybaf.prog w = .ok "int64" w := by kernel_rfl
-- type 22: time.Duration: its own String() is called
theorem Ybaf.act22 (name : String) (x : Value) (w : World) : (FmtCalls.act name true 118 false (.iface 22 x)).run Ybaf.prog w = .ok (.call false) w := by kernel_rfl
theorem Ybaf.isString22 (w : World) : (FmtDoors.textMethod 22 "String").run Ybaf.prog w = .ok true w := by kernel_rfl
theorem Ybaf.invokeString22 (x : Value) (w : World) : (invoke (.fn (.method "String") #[]) #[.iface 22 x]).run Ybaf.prog w = .ok (.enter 15 #[x]) w := by kernel_rfl
theorem Ybaf.str22 (w : World) : (typeStr 22).run Ybaf.prog w = .ok "time.Duration" w := by kernel_rfl
-- type 53: *errors.errorString
theorem Ybaf.act53 (name : String) (x : Value) (w : World) : (FmtCalls.act name true 119 false (.iface 53 x)).run Ybaf.prog w = .ok (.closed true) w := by kernel_rfl
theorem Ybaf.isError53 (w : World) : (FmtDoors.textMethod 53 "Error").run Ybaf.prog w = .ok true w := by kernel_rfl
theorem Ybaf.str53 (w : World) : (typeStr 53).run Ybaf.prog w = .ok Ybaf.t53.str w := by kernel_rfl
def Ybaf.plain53 : List UInt8 := 14 :: FmtStop.pack [42, 101, 114, 114, 111, 114, 115, 46, 101, 114, 114, 111, 114, 83, 116, 114, 105, 110, 103]
theorem Ybaf.opPlain53 (name : String) (a : Addr) (s : ByteArray) (w : World) (hc : w.cell? a = some (.string s)) :
    (FmtStop.operand name true 119 false (.iface 53 (.pointer (some a)))).run Ybaf.prog w = .ok (Ybaf.plain53, s.data.toList) w := by
  have h1 := Ybaf.str53 w
  have d3 : Ybaf.t55.desc = .named "errors.errorString" 54 := rfl
  simp [FmtStop.operand, h1, d3, run_load, hc, Ybaf.plain53, Ybaf.t53]
  rfl
-- type 42: *fmt.wrapError
theorem Ybaf.ptr42 (w : World) : (FmtStop.ptrTo "fmt.wrapError").run Ybaf.prog w = .ok 42 w := by kernel_rfl
theorem Ybaf.elem42 (w : World) : (elemOf 42).run Ybaf.prog w = .ok 90 w := by kernel_rfl
theorem Ybaf.isError42 (w : World) : (FmtDoors.textMethod 42 "Error").run Ybaf.prog w = .ok true w := by kernel_rfl

attribute [local go_sem] Ybaf.call13 Ybaf.guard Ybaf.fmtA Ybaf.fmtB Ybaf.act2 Ybaf.op2 Ybaf.str2 Ybaf.act22 Ybaf.isString22 Ybaf.str22 Ybaf.act53 Ybaf.isError53 Ybaf.ptr42 Ybaf.elem42 Ybaf.isError42

set_option maxHeartbeats 800000 in
/-- fmt.Errorf at "count below zero". -/
theorem errorf_count (F : Interp) (ev d : Int) (s : ByteArray) (blk : Nat) (a : Addr) (w : World) (hF : F.answers w.tape) (hd0 : -9223372036854775808 ≤ d) (hd1 : d ≤ 9223372036854775807)
    (hc0 : w.cell? ⟨blk, 0, none⟩ = some (.iface 53 (.pointer (some a)))) (hc1 : w.cell? ⟨blk, 1, none⟩ = some (.iface 2 (.int .i64 ev))) (hc2 : w.cell? ⟨blk, 2, none⟩ = some (.iface 22 (.int .i64 d)))
    (ha : w.cell? a = some (.string s)) :
    Calls Ybaf.prog 10 #[.string ⟨#[37, 119, 58, 32, 37, 100, 32, 112, 101, 114, 32, 37, 118, 58, 32, 99, 111, 117, 110, 116, 32, 98, 101, 108, 111, 119, 32, 122, 101, 114, 111]⟩, .slice (some ⟨blk, 0, none⟩) 3 3] w fun e w' =>
      ∃ (w₃ : World) (t : ByteArray), Below w.heap.size w w₃ ∧ e = .returned (.iface 42 (.pointer (some ⟨w₃.heap.size, 0, none⟩))) ∧
        w' = (w₃.alloc (.cells #[.string t, .iface 53 (.pointer (some a))] 90)).drew := by
  have hF' := answers_open hF
  have hb : blk < w.heap.size := World.block_lt_of_cell? _ _ hc0
  have hop := Ybaf.opPlain53 "fmt.errorf" a s w ha
  go_enter Ybaf.func10, Ybaf.ntmps10
  go_wp2
  apply rows_call Ybaf.nextTurns
  case hr =>
    go_simp
    exact ⟨⟨rfl, rfl, rfl⟩, rfl⟩
  case hi => exact Ybaf.invokeString22 _ _
  case hc =>
    refine (dur.string_any d _ hd0 hd1).mono fun e w₃ ⟨said, he, hx⟩ => ?_
    subst he
    have hF3 := answers_open (show F.answers w₃.tape by rw [hx.tape]; exact hF)
    have hc03 : w₃.cell? ⟨blk, 0, none⟩ = some (.iface 53 (.pointer (some a))) := by rw [hx.cell hb]; exact hc0
    have hc13 : w₃.cell? ⟨blk, 1, none⟩ = some (.iface 2 (.int .i64 ev)) := by rw [hx.cell hb]; exact hc1
    have hc23 : w₃.cell? ⟨blk, 2, none⟩ = some (.iface 22 (.int .i64 d)) := by rw [hx.cell hb]; exact hc2
    apply rows_value Ybaf.nextReturned
    case hr =>
      go_simp
      exact ⟨rfl, rfl⟩
    case h =>
      go_wp2
      go_ret
      exact ⟨w₃, _, hx, rfl, rfl⟩

set_option maxHeartbeats 800000 in
/-- fmt.Errorf at "period not above zero". -/
theorem errorf_period (F : Interp) (ev d : Int) (s : ByteArray) (blk : Nat) (a : Addr) (w : World) (hF : F.answers w.tape) (hd0 : -9223372036854775808 ≤ d) (hd1 : d ≤ 9223372036854775807)
    (hc0 : w.cell? ⟨blk, 0, none⟩ = some (.iface 53 (.pointer (some a)))) (hc1 : w.cell? ⟨blk, 1, none⟩ = some (.iface 2 (.int .i64 ev))) (hc2 : w.cell? ⟨blk, 2, none⟩ = some (.iface 22 (.int .i64 d)))
    (ha : w.cell? a = some (.string s)) :
    Calls Ybaf.prog 10 #[.string ⟨#[37, 119, 58, 32, 37, 100, 32, 112, 101, 114, 32, 37, 118, 58, 32, 112, 101, 114, 105, 111, 100, 32, 110, 111, 116, 32, 97, 98, 111, 118, 101, 32, 122, 101, 114, 111]⟩, .slice (some ⟨blk, 0, none⟩) 3 3] w fun e w' =>
      ∃ (w₃ : World) (t : ByteArray), Below w.heap.size w w₃ ∧ e = .returned (.iface 42 (.pointer (some ⟨w₃.heap.size, 0, none⟩))) ∧
        w' = (w₃.alloc (.cells #[.string t, .iface 53 (.pointer (some a))] 90)).drew := by
  have hF' := answers_open hF
  have hb : blk < w.heap.size := World.block_lt_of_cell? _ _ hc0
  have hop := Ybaf.opPlain53 "fmt.errorf" a s w ha
  go_enter Ybaf.func10, Ybaf.ntmps10
  go_wp2
  apply rows_call Ybaf.nextTurns
  case hr =>
    go_simp
    exact ⟨⟨rfl, rfl, rfl⟩, rfl⟩
  case hi => exact Ybaf.invokeString22 _ _
  case hc =>
    refine (dur.string_any d _ hd0 hd1).mono fun e w₃ ⟨said, he, hx⟩ => ?_
    subst he
    have hF3 := answers_open (show F.answers w₃.tape by rw [hx.tape]; exact hF)
    have hc03 : w₃.cell? ⟨blk, 0, none⟩ = some (.iface 53 (.pointer (some a))) := by rw [hx.cell hb]; exact hc0
    have hc13 : w₃.cell? ⟨blk, 1, none⟩ = some (.iface 2 (.int .i64 ev)) := by rw [hx.cell hb]; exact hc1
    have hc23 : w₃.cell? ⟨blk, 2, none⟩ = some (.iface 22 (.int .i64 d)) := by rw [hx.cell hb]; exact hc2
    apply rows_value Ybaf.nextReturned
    case hr =>
      go_simp
      exact ⟨rfl, rfl⟩
    case h =>
      go_wp2
      go_ret
      exact ⟨w₃, _, hx, rfl, rfl⟩

end Go.Proofs.YbulkyhoFmt
