/-
  (*walk).hold by its contract, over an abstract world. (By an AI agent.)
-/
import Derived.Test.YbulkymkRows
import Derived.WalkKit
import Derived.WalkSpells
import Derived.ProofKit
import Derived.RegionTactic
import Derived.ChangeAlike
import Derived.Deep.QuietTactic
import Derived.BigQuiet
namespace Go.Proofs.Ybulkymk.hold
open Go.RowKit
set_option linter.unusedVariables false

/-- The walk's three numbers: block b (made behind W), cells 0 (limit), 1 (held), 2 (fresh). -/
def Wk (W : World) (b : Nat) (w : World) (l h f : Int) : Prop :=
  W.heap.size ≤ b ∧ Grown W w ∧ w.cell? ⟨b, 0, none⟩ = some (.int .i64 l) ∧ w.cell? ⟨b, 1, none⟩ = some (.int .i64 h) ∧ w.cell? ⟨b, 2, none⟩ = some (.int .i64 f) ∧ w.frozen? ⟨b, 2, none⟩ = false

theorem ne_off {b o o' : Nat} (h : o ≠ o') : (⟨b, o, none⟩ : Addr) ≠ ⟨b, o', none⟩ := fun e => h (congrArg Addr.off e)

theorem Wk.set {W w : World} {b : Nat} {l h f : Int} (k : Wk W b w l h f) (y : Int) : Wk W b (w.setCell ⟨b, 2, none⟩ (.int .i64 y)) l h y := by
  obtain ⟨h0, h1, h2, h3, h4, h5⟩ := k
  refine ⟨h0, h1.setCell h0 _, ?_, ?_, World.cell?_setCell_same _ _ _ h4, ?_⟩
  · rw [World.cell?_setCell_other _ _ _ _ (ne_off (by decide))]; exact h2
  · rw [World.cell?_setCell_other _ _ _ _ (ne_off (by decide))]; exact h3
  · rw [World.frozen?_setCell]; exact h5

theorem Grown.drewN {W w : World} (h : Grown W w) : ∀ n, Grown W (w.drewN n) := fun n => ⟨h.1, h.2.1, h.2.2⟩
theorem Wk.drewN {W w : World} {b : Nat} {l h f : Int} (k : Wk W b w l h f) (n : Nat) : Wk W b (w.drewN n) l h f := by
  obtain ⟨h0, h1, h2, h3, h4, h5⟩ := k
  exact ⟨h0, Grown.drewN h1 n, h2, h3, h4, h5⟩

set_option maxHeartbeats 400000 in
theorem hold_any (W : World) (b : Nat) (w : World) (l h f s : Int) (k : Wk W b w l h f) (h0 : -2199023255552 ≤ h) (h1 : h ≤ 2199023255552) (f0 : -2199023255552 ≤ f) (f1 : f ≤ 2199023255552) (s0 : 0 ≤ s) (s1 : s ≤ 4294967295) :
    Calls Yba.prog 4 #[.pointer (some ⟨b, 0, none⟩), .int .u64 s] w fun e w' => e = .returned (.bool (decide (h + (f + s) ≤ l))) ∧ Wk W b w' l h (f + s) := by
  have c2 := k.2.2.2.2.1
  have z2 := k.2.2.2.2.2
  have K := k.set (f + s)
  have d0 := K.2.2.1
  have d1 := K.2.2.2.1
  have d2 := K.2.2.2.2.1
  clear k
  go_enter Yba.func4, Yba.ntmps4
  go_wp2_with fail
  go_quiet (fail)
  go_wp2_with fail
  go_ret
  exact ⟨rfl, K.drewN _⟩

theorem hold_yes (W : World) (b : Nat) (w : World) (l h f s : Int) (k : Wk W b w l h f) (h0 : -2199023255552 ≤ h) (h1 : h ≤ 2199023255552) (f0 : -2199023255552 ≤ f) (f1 : f ≤ 2199023255552) (s0 : 0 ≤ s) (s1 : s ≤ 4294967295) (q : h + f + s ≤ l) :
    Calls Yba.prog 4 #[.pointer (some ⟨b, 0, none⟩), .int .u64 s] w fun e w' => e = .returned (.bool true) ∧ Wk W b w' l h (f + s) := by
  have q' : decide (h + (f + s) ≤ l) = true := by simp; omega
  rw [← q']
  exact hold_any W b w l h f s k h0 h1 f0 f1 s0 s1
theorem hold_no (W : World) (b : Nat) (w : World) (l h f s : Int) (k : Wk W b w l h f) (h0 : -2199023255552 ≤ h) (h1 : h ≤ 2199023255552) (f0 : -2199023255552 ≤ f) (f1 : f ≤ 2199023255552) (s0 : 0 ≤ s) (s1 : s ≤ 4294967295) (q : ¬ h + f + s ≤ l) :
    Calls Yba.prog 4 #[.pointer (some ⟨b, 0, none⟩), .int .u64 s] w fun e w' => e = .returned (.bool false) ∧ Wk W b w' l h (f + s) := by
  have q' : decide (h + (f + s) ≤ l) = false := by simp; omega
  rw [← q']
  exact hold_any W b w l h f s k h0 h1 f0 f1 s0 s1

/-- The walk as the law makes it: a new block. -/
theorem wk_new (w : World) (l h f : Int) (x y z : Value) : Wk w w.heap.size (w.alloc (.cells #[.int .i64 l, .int .i64 h, .int .i64 f, x, y, z] 28)) l h f := by
  have e := heap_alloc_new w (.cells #[.int .i64 l, .int .i64 h, .int .i64 f, x, y, z] 28)
  refine ⟨Nat.le_refl _, (Grown.refl w).alloc _ _, ?_, ?_, ?_, ?_⟩
  · simp only [World.cell?, e]; rfl
  · simp only [World.cell?, e]; rfl
  · simp only [World.cell?, e]; rfl
  · simp only [World.frozen?, e]; simp
end Go.Proofs.Ybulkymk.hold
