/-
  The limiter as the laws make it: its zero value, a new block of 333 cells; what the first loop lays into its words. (By an AI agent.)
-/
import Derived.Test.YbulkyhoPub
namespace Go.Proofs.Ybulkyho.pub
open Go.RowKit

/-- The limiter's zero value: 333 cells. -/
def zeroL : Array Value := ([.nilIface, .bool false, .int .i64 0, .int .u64 0, .int .i64 0, .pointer none, .int .i64 0, .int .i64 0, .pointer none, .int .u64 0, .pointer none, .int .u64 0, .nilFunc] ++ List.replicate 64 (.int .u8 0)
  ++ (.int .i64 0 :: List.replicate 56 (.int .u8 0)) ++ (.int .i64 0 :: List.replicate 56 (.int .u8 0)) ++ (.int .i64 0 :: List.replicate 56 (.int .u8 0)) ++ (.int .i64 0 :: List.replicate 56 (.int .u8 0))
  ++ [.int .i64 0, .int .u64 0, .int .i64 0, .int .i64 0, .int .i64 0, .int .i64 0, .int .i32 0, .int .u32 0, .int .i64 0, .int .i64 0, .int .i64 0, .int .i64 0, .int .i64 0, .bool false, .int .i64 0, .int .u64 0, .int .i64 0, .pointer none, .int .i64 0, .int .u64 0, .int .u64 0, .slice none 0 0, .int .i64 0, .int .i64 0, .int .u64 0, .int .u64 0, .int .u64 0, .int .i64 0] : List Value).toArray
theorem zero58 (w : World) : (zeroValue 58).run Yba.prog w = .ok (.agg zeroL) w := by kernel_rfl

theorem cell_zero (w : World) (o : Nat) : (w.alloc (.cells zeroL 58)).cell? ⟨w.heap.size, o, none⟩ = zeroL[o]? := by
  have h := heap_alloc_new w (.cells zeroL 58)
  simp only [World.cell?, h]
  rfl
theorem frozen_zero (w : World) (o : Nat) : (w.alloc (.cells zeroL 58)).frozen? ⟨w.heap.size, o, none⟩ = false := by
  have h := heap_alloc_new w (.cells zeroL 58)
  simp only [World.frozen?, h]
  simp
theorem word0 : zeroL[77 + 0 * 57]? = some (.int .i64 0) := by kernel_rfl
theorem word1 : zeroL[77 + 1 * 57]? = some (.int .i64 0) := by kernel_rfl
theorem word2 : zeroL[77 + 2 * 57]? = some (.int .i64 0) := by kernel_rfl
theorem word3 : zeroL[77 + 3 * 57]? = some (.int .i64 0) := by kernel_rfl
theorem lim_zero (w : World) : Lim w w.heap.size (w.alloc (.cells zeroL 58)) 0 0 (fun _ => 0) := by
  refine ⟨Nat.le_refl _, (Grown.refl w).alloc _ _, ?_, ?_, fun j hj => ?_, frozen_zero w⟩
  · rw [cell_zero]; kernel_rfl
  · rw [cell_zero]; kernel_rfl
  · rw [cell_zero]
    match j, hj with
    | 0, _ => exact word0
    | 1, _ => exact word1
    | 2, _ => exact word2
    | 3, _ => exact word3

/-- The words behind k rounds of a law's first loop, which lays 's j' into word j. -/
def laid (s : Nat → Int) (k j : Nat) : Int := if j < k then s j else 0
theorem laid_zero (s : Nat → Int) : laid s 0 = fun _ => 0 := by funext j; simp [laid]
theorem laid_succ (s : Nat → Int) (k j : Nat) : laid s (k + 1) j = if j = k then s k else laid s k j := by
  unfold laid
  by_cases e : j = k
  · subst e; simp
  · by_cases l : j < k
    · simp [e, l, show j < k + 1 by omega]
    · simp [e, l, show ¬ j < k + 1 by omega]
theorem laid_four {s : Nat → Int} {j : Nat} (h : j < 4) : laid s 4 j = s j := by simp [laid, h]
theorem Lim.ext {W w : World} {b : Nat} {sp fu : Int} {g g' : Nat → Int} (h : Lim W b w sp fu g) (hg : ∀ j, j < 4 → g j = g' j) : Lim W b w sp fu g' := by
  obtain ⟨h0, h1, h2, h3, h4, h5⟩ := h
  exact ⟨h0, h1, h2, h3, fun j hj => by rw [← hg j hj]; exact h4 j hj, h5⟩
end Go.Proofs.Ybulkyho.pub
