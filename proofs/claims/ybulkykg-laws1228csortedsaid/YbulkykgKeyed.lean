/-
  sortKeyed by its contract, at one keyed value or more. (By an AI agent.)
-/
import Derived.Test.YbulkykgSort
namespace Go.Proofs.Ybulkykg.srt
open Go.RowKit Go.Shelf Go.Sort
set_option linter.unusedVariables false

/-- sortKeyed's closure, in every world that the sort passes through. -/
theorem cmp_lays {m B : Nat} {K A : Nat → Int} (N : Nat) (w : World) (bb bo : Nat) (hbo : bo ≠ B) (hpos : ∀ j, j < m + 1 → w.cell? ⟨B + 1 + j, 26, none⟩ = some (.int .i64 (K j)) ∧ w.cell? ⟨B + 1 + j, 41, none⟩ = some (.int .i64 (A j)))
    (ho : w.cell? ⟨bo, 0, none⟩ = some (.func (.func 10) #[] #[.pointer (some ⟨bb, 0, none⟩)])) :
    CmpLays Yba.prog 14 #[.pointer (some ⟨bo, 0, none⟩)] (enc m B K) 2 (cf m K A) B 0 N w := by
  intro n os dk hs x y
  have cell : ∀ b o v, b ≠ B → w.cell? ⟨b, o, none⟩ = some v → (sortWorldK (enc m B K) 2 w B 0 n dk os).cell? ⟨b, o, none⟩ = some v := fun b o v hb h => by
    rw [other_cell w n dk os b o hb (World.block_lt_of_cell? _ _ h)]
    exact h
  refine (closure14 (B + 1 + x) (B + 1 + y) bb bo (K x) (K y) (A x) (A y) _ (cell _ _ _ hbo ho) (cell _ _ _ (by omega) (hpos x x.isLt).1) (cell _ _ _ (by omega) (hpos y y.isLt).1) (cell _ _ _ (by omega) (hpos x x.isLt).2) (cell _ _ _ (by omega) (hpos y y.isLt).2)).mono ?_
  rintro e w' ⟨rfl, q, o1, o2, rfl⟩
  exact ⟨rfl, q, #[o1, o2], by rw [alloc_eq_grow, alloc_eq_grow, grow_grow]; rfl⟩

theorem hk2 (m B : Nat) (K : Nat → Int) (x : Fin (m + 1)) : (enc m B K x).length = 2 := rfl
theorem one2 (m B : Nat) (K : Nat → Int) (x : Fin (m + 1)) : ∀ v ∈ enc m B K x, v.oneCell' = true := by
  intro v hv
  simp [enc] at hv
  rcases hv with rfl | rfl <;> rfl
theorem enters14 (args : Array Value) (w : World) : (callFunc 14 args).run Yba.prog w = .ok (.enter 14 args) w := enters_of Yba.func14 (by kernel_rfl) rfl args w

/-- What the sort leaves, out of its contract's own words. -/
theorem srt_of {m : Nat} {K A : Nat → Int} {W wr : World} (hL : Laid W (m + 1) K A (m + 1) wr) (o1 o2 : Obj) (d' : Array (Fin (m + 1))) (q : Nat) (os : Array Obj)
    (hp : PermIn 0 (m + 1) (places m) d') (hs : SortedIn (ltOf (cf m K A)) 0 (m + 1) d') :
    Srt W (m + 1) K A (fun i => (d'[i]! : Fin (m + 1)).val) (sortWorldK (enc m W.heap.size K) 2 ((wr.alloc o1).alloc o2) W.heap.size 0 q d' os) := by
  have hB : W.heap.size < wr.heap.size := by have := hL.2.1; omega
  have hH : HoldsK (enc m W.heap.size K) 2 ((wr.alloc o1).alloc o2) W.heap.size 0 (places m) := by
    rw [alloc_eq_grow, alloc_eq_grow, grow_grow]
    exact holdsK_grow _ _ _ _ _ _ _ hB (holds_laid hL)
  have hlt : W.heap.size < ((wr.alloc o1).alloc o2).heap.size := by simp; omega
  have hsz : d'.size = (places m).size := hp.1
  have hH' := holdsK_sortWorldK (enc m W.heap.size K) 2 ((wr.alloc o1).alloc o2) W.heap.size 0 q (places m) d' os hlt hH hsz
  have b0 := hL.1
  have b1 : RowKit.Below W.heap.size W ((wr.alloc o1).alloc o2) := (b0.alloc b0.size o1).alloc (by simp; omega) o2
  rw [places_size] at hsz
  refine ⟨b1.trans (below_sort _ q d' os (by omega)), fun i hi => (d'[i]!).isLt, fun i j hi hj e => perm_inj m d' hp i j hi hj e, fun i j hij hj => ?_, fun i hi => ?_, fun j hj => ?_⟩
  · have h := hs i j (Nat.zero_le _) hij hj
    rw [lt_iff] at h
    simp only [decide_eq_false_iff_not] at h
    show K (d'[i]! : Fin (m + 1)).val ≤ K (d'[j]! : Fin (m + 1)).val ∧ (K (d'[i]! : Fin (m + 1)).val = K (d'[j]! : Fin (m + 1)).val → A (d'[i]! : Fin (m + 1)).val ≤ A (d'[j]! : Fin (m + 1)).val)
    constructor
    · omega
    · intro e; omega
  · have h0 := (hH'.cell (i := i) (c := 0) (by omega) (by omega)).1
    have h1 := (hH'.cell (i := i) (c := 1) (by omega) (by omega)).1
    rw [show 0 + i * 2 + 0 = i * 2 by omega] at h0
    rw [show 0 + i * 2 + 1 = i * 2 + 1 by omega] at h1
    exact ⟨h0, h1⟩
  · obtain ⟨_, _, c2, c3, c4⟩ := hL.2.2.2.2 j hj
    have cell : ∀ o v, wr.cell? ⟨W.heap.size + 1 + j, o, none⟩ = some v → (sortWorldK (enc m W.heap.size K) 2 ((wr.alloc o1).alloc o2) W.heap.size 0 q d' os).cell? ⟨W.heap.size + 1 + j, o, none⟩ = some v := fun o v h => by
      have h' := past (past h o1) o2
      rw [other_cell _ q d' os (W.heap.size + 1 + j) o (by omega) (World.block_lt_of_cell? _ _ h')]
      exact h'
    exact ⟨cell _ _ c2, cell _ _ c3, cell _ _ c4⟩

set_option maxRecDepth 100000 in
set_option maxHeartbeats 1000000 in
theorem keyed_some (m : Nat) (K A : Nat → Int) (W wr : World) (hm : m + 1 ≤ 1024) (hL : Laid W (m + 1) K A (m + 1) wr) :
    Calls Yba.prog 9 #[.slice (some ⟨W.heap.size, 0, none⟩) (m + 1 : Nat) (m + 1 : Nat), .func (.func 10) #[] #[.pointer (some ⟨wr.heap.size, 0, none⟩)]] (wr.alloc (.cells #[.bool false] 4)) fun e w' =>
      e = .returned (.tuple #[]) ∧ (∃ π, Srt W (m + 1) K A π w') ∧ w'.cell? ⟨wr.heap.size, 0, none⟩ = some (.bool false) ∧ W.heap.size + 1 + (m + 1) < w'.heap.size := by
  have hB : W.heap.size < wr.heap.size := by have := hL.2.1; omega
  have hcmp := cmp_lays (m := m) (B := W.heap.size) (K := K) (A := A) (places m).size ((wr.alloc (.cells #[.bool false] 4)).alloc (.cells #[.func (.func 10) #[] #[.pointer (some ⟨wr.heap.size, 0, none⟩)]] 53)) wr.heap.size (wr.heap.size + 1) (by omega)
    (fun j hj => ⟨past (past (hL.2.2.2.2 j hj).2.2.1 _) _, past (past (hL.2.2.2.2 j hj).2.2.2.2 _) _⟩)
    (by have e := cell_of_new (wr.alloc (.cells #[.bool false] 4)) #[.func (.func 10) #[] #[.pointer (some ⟨wr.heap.size, 0, none⟩)]] 53 0
        rw [show (wr.alloc (.cells #[.bool false] 4)).heap.size = wr.heap.size + 1 by simp] at e
        exact e)
  have hH : HoldsK (enc m W.heap.size K) 2 ((wr.alloc (.cells #[.bool false] 4)).alloc (.cells #[.func (.func 10) #[] #[.pointer (some ⟨wr.heap.size, 0, none⟩)]] 53)) W.heap.size 0 (places m) := by
    rw [alloc_eq_grow, alloc_eq_grow, grow_grow]
    exact holdsK_grow _ _ _ _ _ _ _ hB (holds_laid hL)
  have hcon := AnyQ.slices_SortFunc Yba.sortK 2 Yba.isAgg50 Yba.sizeOf50 (enc m W.heap.size K) (hk2 m _ K) (one2 m _ K) (cf m K A) (swo m K A) 14 #[.pointer (some ⟨wr.heap.size + 1, 0, none⟩)] W.heap.size 0 (m + 1) (places m) _ enters14 hcmp hH (by simp; omega) (by rw [places_size]; omega)
  rw [places_size] at hcon
  change Calls Yba.prog 13 _ _ _ at hcon
  have HC : Hid (Calls Yba.prog 13 _ _ _) := hcon
  have HL : Hid (Laid W (m + 1) K A (m + 1) wr) := hL
  clear hcon hL hcmp hH
  go_enter Yba.func9, Yba.ntmps9
  go_wp2_with fail
  refine HC.out.mono ?_
  rintro e w' ⟨rfl, d', q, os, hp, hs, hw'⟩
  clear HC
  go_wp2_with fail
  go_end0
  subst hw'
  refine ⟨rfl, ⟨_, srt_of HL.out _ _ d' q os hp hs⟩, ?_, ?_⟩
  · rw [other_cell _ q d' os _ 0 (by omega) (by simp; omega)]
    exact past (cell_of_new wr #[.bool false] 4 0) _
  · have h1 := size_sortWorldK_c (enc m W.heap.size K) 2 ((wr.alloc (.cells #[.bool false] 4)).alloc (.cells #[.func (.func 10) #[] #[.pointer (some ⟨wr.heap.size, 0, none⟩)]] 53)) W.heap.size 0 q d' os
    have h2 := HL.out.2.1
    simp at h1
    omega
end Go.Proofs.Ybulkykg.srt
