/-
  What stands behind the sort, and what the second loop marks. (By an AI agent.)
-/
import Derived.Test.YbulkykgLay
namespace Go.Proofs.Ybulkykg.srt
open Go.RowKit
set_option linter.unusedVariables false

/-- Behind the sort: the row holds the keyed values in the order π (a permutation of the n places), ascending by key, then by 'at'; the positions are as they were laid. -/
def Srt (W : World) (n : Nat) (K A : Nat → Int) (π : Nat → Nat) (wr : World) : Prop :=
  Below W.heap.size W wr ∧ (∀ i, i < n → π i < n) ∧ (∀ i j, i < n → j < n → π i = π j → i = j) ∧
  (∀ i j, i < j → j < n → K (π i) ≤ K (π j) ∧ (K (π i) = K (π j) → A (π i) ≤ A (π j))) ∧
  (∀ i, i < n → wr.cell? ⟨W.heap.size, i * 2, none⟩ = some (.int .i64 (K (π i))) ∧ wr.cell? ⟨W.heap.size, i * 2 + 1, none⟩ = some (.pointer (some ⟨W.heap.size + 1 + π i, 0, none⟩))) ∧
  ∀ j, j < n → wr.cell? ⟨W.heap.size + 1 + j, 26, none⟩ = some (.int .i64 (K j)) ∧ wr.cell? ⟨W.heap.size + 1 + j, 40, none⟩ = some (.int .u64 j) ∧ wr.cell? ⟨W.heap.size + 1 + j, 41, none⟩ = some (.int .i64 (A j))

theorem Srt.alloc {W wr : World} {n : Nat} {K A : Nat → Int} {π : Nat → Nat} (h : Srt W n K A π wr) (o : Obj) : Srt W n K A π (wr.alloc o) := by
  obtain ⟨h0, h1, h2, h3, h4, h5⟩ := h
  exact ⟨h0.alloc h0.size o, h1, h2, h3, fun i hi => ⟨past (h4 i hi).1 o, past (h4 i hi).2 o⟩, fun j hj => ⟨past (h5 j hj).1 o, past (h5 j hj).2.1 o, past (h5 j hj).2.2 o⟩⟩
theorem Srt.drewN {W wr : World} {n : Nat} {K A : Nat → Int} {π : Nat → Nat} (h : Srt W n K A π wr) (m : Nat) : Srt W n K A π (wr.drewN m) := by
  obtain ⟨h0, h1, h2, h3, h4, h5⟩ := h
  exact ⟨⟨h0.os, h0.tape, h0.output, h0.size, h0.block⟩, h1, h2, h3, h4, h5⟩
/-- A store into another block. -/
theorem Srt.setCell {W wr : World} {n : Nat} {K A : Nat → Int} {π : Nat → Nat} (h : Srt W n K A π wr) (b o : Nat) (v : Value) (hb : W.heap.size + 1 + n ≤ b) : Srt W n K A π (wr.setCell ⟨b, o, none⟩ v) := by
  obtain ⟨h0, h1, h2, h3, h4, h5⟩ := h
  have e : ∀ b' o', b' ≤ W.heap.size + n → (wr.setCell ⟨b, o, none⟩ v).cell? ⟨b', o', none⟩ = wr.cell? ⟨b', o', none⟩ := fun b' o' hlt =>
    World.cell?_setCell_other _ _ _ _ (ne_blk (by omega))
  refine ⟨h0.setCell (by show W.heap.size ≤ b; omega) v, h1, h2, h3, fun i hi => ?_, fun j hj => ?_⟩
  · rw [e _ _ (by omega), e _ _ (by omega)]; exact h4 i hi
  · rw [e _ _ (by omega), e _ _ (by omega), e _ _ (by omega)]; exact h5 j hj

/-- Which names have been seen behind k rounds. -/
def seenB (π : Nat → Nat) : Nat → Nat → Bool
  | 0, _ => false
  | k + 1, j => if j = π k then true else seenB π k j
theorem seenB_fresh {π : Nat → Nat} {n : Nat} (inj : ∀ i j, i < n → j < n → π i = π j → i = j) : ∀ k i, k ≤ i → i < n → seenB π k (π i) = false
  | 0, _, _, _ => rfl
  | k + 1, i, hk, hi => by
    have : π i ≠ π k := fun e => by have := inj i k hi (by omega) e; omega
    simp [seenB, this, seenB_fresh inj k i (by omega) hi]

/-- The marks: block s, n cells. -/
def Marks (s n : Nat) (π : Nat → Nat) (k : Nat) (wr : World) : Prop :=
  (∀ j, j < n → wr.cell? ⟨s, j, none⟩ = some (.bool (seenB π k j))) ∧ ∀ o, wr.frozen? ⟨s, o, none⟩ = false
theorem Marks.start (W : World) (n : Nat) (π : Nat → Nat) : Marks W.heap.size n π 0 (W.alloc (.cells (madeCells #[.bool false] n) 4)) := by
  refine ⟨fun j hj => ?_, frozen_of_new _ _ _⟩
  rw [cell_of_new]
  simp [madeCells, hj, Nat.mod_one, seenB]
theorem Marks.step {s n : Nat} {π : Nat → Nat} {k : Nat} {wr : World} (h : Marks s n π k wr) (hp : π k < n) : Marks s n π (k + 1) (wr.setCell ⟨s, π k, none⟩ (.bool true)) := by
  refine ⟨fun j hj => ?_, fun o => by rw [World.frozen?_setCell]; exact h.2 o⟩
  by_cases e : j = π k
  · subst e
    rw [World.cell?_setCell_same _ _ _ (h.1 _ hp)]
    simp [seenB]
  · rw [World.cell?_setCell_other _ _ _ _ (ne_off (Ne.symm e)), h.1 j hj]
    simp [seenB, e]
theorem Marks.drewN {s n : Nat} {π : Nat → Nat} {k : Nat} {wr : World} (h : Marks s n π k wr) (m : Nat) : Marks s n π k (wr.drewN m) := h
theorem info4 : (Yba.prog.info? 4).map (fun i => (i.zero, i.size, i.bytes)) = some (some (.bool false), 1, 1) := by kernel_rfl
theorem make54 (n : Nat) (hn : n ≤ 1024) (w : World) :
    (Instr.makeSlice 54 (.int .i64 n) (.int .i64 n)).run Yba.prog w = .ok (.slice (some ⟨w.heap.size, 0, none⟩) n n) (w.alloc (.cells (madeCells #[.bool false] n) 4)) := by
  obtain ⟨i, hi, h⟩ := Option.map_eq_some_iff.1 info4
  simp only [Prod.mk.injEq] at h
  obtain ⟨hz, hs, hb⟩ := h
  have hr := run_make (P := Yba.prog) w 54 4 i _ Yba.underlying54 hi hz .i64 .i64 n n (by omega) (Int.le_refl _) (by rw [hb]; omega) (by omega)
  simp only [Int.toNat_natCast, hs, Nat.mul_one] at hr
  exact hr
end Go.Proofs.Ybulkykg.srt
