/-
  What the law's first loop lays: a row of n keyed values in block B = the heap's size when the call began, n positions in the n blocks behind it. (By an AI agent.)
-/
import Derived.Test.YbulkykgCmp
import Derived.Laws.MakeOwn
import Derived.OpenShut
namespace Go.Proofs.Ybulkykg.srt
open Go.RowKit
set_option linter.unusedVariables false

/-- A position's zero value: 44 cells. -/
def zeroQ : Array Value := #[.string ⟨#[]⟩, .pointer none, .bool false, .int .i64 0, .int .i64 0, .int .i64 0, .pointer none, .int .i64 0, .int .i64 0, .pointer none, .int .i64 0, .int .i64 0, .pointer none, .int .i64 0, .int .i64 0, .pointer none, .int .i64 0, .int .i64 0, .int .i64 0, .pointer none, .bool false, .bool false, .bool false, .int .i64 0, .int .i64 0, .pointer none, .int .i64 0, .int .u64 0, .pointer none, .pointer none, .int .i64 0, .int .i64 0, .pointer none, .int .i64 0, .int .u64 0, .pointer none, .int .i64 0, .pointer none, .int .i64 0, .int .i64 0, .int .u64 0, .int .i64 0, .bool false, .bool false]
theorem zero48 (w : World) : (zeroValue 48).run Yba.prog w = .ok (.agg zeroQ) w := by kernel_rfl
theorem zq26 : zeroQ[26]? = some (.int .i64 0) := by kernel_rfl
theorem zq40 : zeroQ[40]? = some (.int .u64 0) := by kernel_rfl
theorem zq41 : zeroQ[41]? = some (.int .i64 0) := by kernel_rfl
theorem info50 : (Yba.prog.info? 50).map (fun i => (i.zero, i.size, i.bytes)) = some (some (.agg #[.int .i64 0, .pointer none]), 2, 16) := by kernel_rfl
theorem make32 (n : Nat) (hn : n ≤ 1024) (w : World) :
    (Instr.makeSlice 32 (.int .i64 n) (.int .i64 n)).run Yba.prog w = .ok (.slice (some ⟨w.heap.size, 0, none⟩) n n) (w.alloc (.cells (madeCells #[.int .i64 0, .pointer none] (n * 2)) 50)) := by
  obtain ⟨i, hi, h⟩ := Option.map_eq_some_iff.1 info50
  simp only [Prod.mk.injEq] at h
  obtain ⟨hz, hs, hb⟩ := h
  have hr := run_make (P := Yba.prog) w 32 50 i _ Yba.underlying32 hi hz .i64 .i64 n n (by omega) (Int.le_refl _) (by rw [hb]; omega) (by omega)
  simp only [Int.toNat_natCast, hs] at hr
  exact hr


/-- A position, as the loop leaves it. -/
def posQ (key at_ name : Int) : Array Value := ((zeroQ.setIfInBounds 26 (.int .i64 key)).setIfInBounds 41 (.int .i64 at_)).setIfInBounds 40 (.int .u64 name)
theorem zqsize : zeroQ.size = 44 := by kernel_rfl
theorem pos26 (k a n : Int) : (posQ k a n)[26]? = some (.int .i64 k) := by
  simp [posQ, zqsize]
theorem pos40 (k a n : Int) : (posQ k a n)[40]? = some (.int .u64 n) := by
  simp [posQ, zqsize]
theorem pos41 (k a n : Int) : (posQ k a n)[41]? = some (.int .i64 a) := by
  simp [posQ, zqsize]

theorem ne_off {b o o' : Nat} (h : o ≠ o') : (⟨b, o, none⟩ : Addr) ≠ ⟨b, o', none⟩ := fun e => h (congrArg Addr.off e)
theorem ne_blk {b b' o o' : Nat} (h : b ≠ b') : (⟨b, o, none⟩ : Addr) ≠ ⟨b', o', none⟩ := fun e => h (congrArg Addr.block e)
theorem cell_of_new (w : World) (c : Array Value) (t : TypeId) (o : Nat) : (w.alloc (.cells c t)).cell? ⟨w.heap.size, o, none⟩ = c[o]? := by
  have h := heap_alloc_new w (.cells c t)
  simp only [World.cell?, h]
  rfl
theorem frozen_of_new (w : World) (c : Array Value) (t : TypeId) (o : Nat) : (w.alloc (.cells c t)).frozen? ⟨w.heap.size, o, none⟩ = false := by
  have h := heap_alloc_new w (.cells c t)
  simp only [World.frozen?, h]
  simp

/-- The world behind k rounds of the loop. -/
def Laid (W : World) (n : Nat) (K A : Nat → Int) (k : Nat) (wr : World) : Prop :=
  Below W.heap.size W wr ∧ wr.heap.size = W.heap.size + 1 + k ∧
  (∀ j, j < n → (∃ v, wr.cell? ⟨W.heap.size, j * 2, none⟩ = some v) ∧ ∃ v, wr.cell? ⟨W.heap.size, j * 2 + 1, none⟩ = some v) ∧
  (∀ o, wr.frozen? ⟨W.heap.size, o, none⟩ = false) ∧
  ∀ j, j < k → wr.cell? ⟨W.heap.size, j * 2, none⟩ = some (.int .i64 (K j)) ∧ wr.cell? ⟨W.heap.size, j * 2 + 1, none⟩ = some (.pointer (some ⟨W.heap.size + 1 + j, 0, none⟩)) ∧
    wr.cell? ⟨W.heap.size + 1 + j, 26, none⟩ = some (.int .i64 (K j)) ∧ wr.cell? ⟨W.heap.size + 1 + j, 40, none⟩ = some (.int .u64 j) ∧ wr.cell? ⟨W.heap.size + 1 + j, 41, none⟩ = some (.int .i64 (A j))

theorem Laid.start (W : World) (n : Nat) (K A : Nat → Int) : Laid W n K A 0 (W.alloc (.cells (madeCells #[.int .i64 0, .pointer none] (n * 2)) 50)) := by
  refine ⟨(Below.refl _ _).alloc (Nat.le_refl _) _, by simp, fun j hj => ?_, frozen_of_new _ _ _, fun j hj => by omega⟩
  have hs := size_madeCells #[.int .i64 0, .pointer none] (n * 2)
  rw [cell_of_new, cell_of_new]
  exact ⟨⟨_, Array.getElem?_eq_getElem (by rw [hs]; omega)⟩, ⟨_, Array.getElem?_eq_getElem (by rw [hs]; omega)⟩⟩

theorem Laid.step {W wr : World} {n : Nat} {K A : Nat → Int} {k : Nat} (h : Laid W n K A k wr) (hk : k < n) :
    Laid W n K A (k + 1) (((wr.setCell ⟨W.heap.size, k * 2, none⟩ (.int .i64 (K k))).setCell ⟨W.heap.size, k * 2 + 1, none⟩ (.pointer (some ⟨wr.heap.size, 0, none⟩))).alloc (.cells (posQ (K k) (A k) k) 48)) := by
  obtain ⟨h0, h1, h2, h3, h4⟩ := h
  obtain ⟨⟨v0, c0⟩, ⟨v1, c1⟩⟩ := h2 k hk
  have b1 := (h0.setCell (p := ⟨W.heap.size, k * 2, none⟩) (Nat.le_refl _) (.int .i64 (K k))).setCell (p := ⟨W.heap.size, k * 2 + 1, none⟩) (Nat.le_refl _) (.pointer (some ⟨wr.heap.size, 0, none⟩))
  have hs : ((wr.setCell ⟨W.heap.size, k * 2, none⟩ (.int .i64 (K k))).setCell ⟨W.heap.size, k * 2 + 1, none⟩ (.pointer (some ⟨wr.heap.size, 0, none⟩))).heap.size = W.heap.size + 1 + k := by simp [World.setCell, h1]
  -- cells of the row's block, and of the older positions, behind the two stores
  have e0 : ((wr.setCell ⟨W.heap.size, k * 2, none⟩ (.int .i64 (K k))).setCell ⟨W.heap.size, k * 2 + 1, none⟩ (.pointer (some ⟨wr.heap.size, 0, none⟩))).cell? ⟨W.heap.size, k * 2, none⟩ = some (.int .i64 (K k)) := by
    rw [World.cell?_setCell_other _ _ _ _ (ne_off (by omega))]
    exact World.cell?_setCell_same _ _ _ c0
  have e1 : ((wr.setCell ⟨W.heap.size, k * 2, none⟩ (.int .i64 (K k))).setCell ⟨W.heap.size, k * 2 + 1, none⟩ (.pointer (some ⟨wr.heap.size, 0, none⟩))).cell? ⟨W.heap.size, k * 2 + 1, none⟩ = some (.pointer (some ⟨wr.heap.size, 0, none⟩)) := by
    exact World.cell?_setCell_same _ _ _ (by rw [World.cell?_setCell_other _ _ _ _ (ne_off (by omega))]; exact c1)
  have eo : ∀ b o, (b ≠ W.heap.size ∨ (o ≠ k * 2 ∧ o ≠ k * 2 + 1)) → ((wr.setCell ⟨W.heap.size, k * 2, none⟩ (.int .i64 (K k))).setCell ⟨W.heap.size, k * 2 + 1, none⟩ (.pointer (some ⟨wr.heap.size, 0, none⟩))).cell? ⟨b, o, none⟩ = wr.cell? ⟨b, o, none⟩ := by
    intro b o hne
    rcases hne with hne | ⟨n1, n2⟩
    · rw [World.cell?_setCell_other _ _ _ _ (ne_blk (by omega)), World.cell?_setCell_other _ _ _ _ (ne_blk (by omega))]
    · rw [World.cell?_setCell_other _ _ _ _ (fun e => n2 (congrArg Addr.off e).symm), World.cell?_setCell_other _ _ _ _ (fun e => n1 (congrArg Addr.off e).symm)]
  generalize hX : ((wr.setCell ⟨W.heap.size, k * 2, none⟩ (.int .i64 (K k))).setCell ⟨W.heap.size, k * 2 + 1, none⟩ (.pointer (some ⟨wr.heap.size, 0, none⟩))) = X at *
  have hfX : ∀ o, X.frozen? ⟨W.heap.size, o, none⟩ = false := fun o => by rw [← hX, World.frozen?_setCell, World.frozen?_setCell]; exact h3 o
  refine ⟨b1.alloc b1.size _, by rw [World.alloc]; simp [hs]; omega, fun j hj => ?_, fun o => ?_, fun j hj => ?_⟩
  · obtain ⟨⟨u0, d0⟩, ⟨u1, d1⟩⟩ := h2 j hj
    by_cases e : j = k
    · subst e
      exact ⟨⟨_, past e0 _⟩, ⟨_, past e1 _⟩⟩
    · exact ⟨⟨u0, past ((eo _ _ (.inr ⟨by omega, by omega⟩)).trans d0) _⟩, ⟨u1, past ((eo _ _ (.inr ⟨by omega, by omega⟩)).trans d1) _⟩⟩
  · rw [frozen?_alloc_cells]; exact hfX o
  · by_cases e : j = k
    · subst e
      have q := fun o => cell_of_new X (posQ (K j) (A j) j) 48 o
      rw [hs] at q
      refine ⟨past e0 _, ?_, ?_, ?_, ?_⟩
      · rw [h1] at e1; exact past e1 _
      · rw [q, pos26]
      · rw [q, pos40]
      · rw [q, pos41]
    · obtain ⟨d0, d1, d2, d3, d4⟩ := h4 j (by omega)
      exact ⟨past ((eo _ _ (.inr ⟨by omega, by omega⟩)).trans d0) _, past ((eo _ _ (.inr ⟨by omega, by omega⟩)).trans d1) _, past ((eo _ _ (.inl (by omega))).trans d2) _, past ((eo _ _ (.inl (by omega))).trans d3) _, past ((eo _ _ (.inl (by omega))).trans d4) _⟩
end Go.Proofs.Ybulkykg.srt
