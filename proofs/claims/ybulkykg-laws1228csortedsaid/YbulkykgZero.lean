/-
  sortKeyed by its contract, at no keyed value. (By an AI agent.)
-/
import Derived.Test.YbulkykgKeyed
namespace Go.Proofs.Ybulkykg.srt
open Go.RowKit Go.Shelf Go.Sort
set_option linter.unusedVariables false

set_option maxHeartbeats 400000 in
theorem ins_zero (v f : Value) (w : World) : Calls Yba.prog 20 #[v, .int .i64 0, .int .i64 0, f] w fun e w' => e = .returned (.tuple #[]) ∧ w' = w := by
  go_enter Yba.func20, Yba.ntmps20
  go_wp2_with fail
  refine wp_loop_rounds 1 ?_
  rw [rounds_succ]
  go_wp2_with fail
  go_end0
  exact ⟨rfl, rfl⟩

set_option maxRecDepth 100000 in
set_option maxHeartbeats 1000000 in
theorem pdq_zero (v f : Value) (l : Int) (w : World) : Calls Yba.prog 17 #[v, .int .i64 0, .int .i64 0, .int .i64 l, f] w fun e w' => e = .returned (.tuple #[]) ∧ w' = w := by
  go_enter Yba.func17, Yba.ntmps17
  go_wp2_with fail
  refine wp_loop_rounds 1 ?_
  rw [rounds_succ]
  go_wp2_with fail
  refine (ins_zero _ _ _).mono ?_
  rintro e w' ⟨rfl, rfl⟩
  go_wp2_with fail
  first | go_end0 | refine bodyPost_ret (results_none rfl _ _ _) rfl ?_
  exact ⟨rfl, rfl⟩

theorem len_zero (w : World) : Calls Yba.prog 18 #[.int .u64 0] w fun e w' => (∃ l : Int, e = .returned (.int .i64 l)) ∧ w' = w := by
  have L := Yba.sortK
  have h := Any.bits_Len (SlLaysF0.n15.bits (P := Yba.prog) (ρ := Yba.sortK_ren) { L with }) (0 : Int) w (by omega) (by omega)
  change Calls Yba.prog 18 _ _ _ at h
  exact h.mono fun e w' ⟨h1, h2⟩ => ⟨⟨_, h1⟩, h2⟩

set_option maxRecDepth 100000 in
set_option maxHeartbeats 1000000 in
theorem sort_zero (b c : Nat) (f : Value) (w : World) : Calls Yba.prog 13 #[.slice (some ⟨b, 0, none⟩) 0 c, f] w fun e w' => e = .returned (.tuple #[]) ∧ w' = w := by
  go_enter Yba.func13, Yba.ntmps13
  go_wp2_with fail
  refine (len_zero _).mono ?_
  rintro e w' ⟨⟨l, rfl⟩, rfl⟩
  go_wp2_with fail
  refine (pdq_zero _ _ _ _).mono ?_
  rintro e w' ⟨rfl, rfl⟩
  go_wp2_with fail
  go_end0
  exact ⟨rfl, rfl⟩

set_option maxRecDepth 100000 in
set_option maxHeartbeats 1000000 in
theorem keyed_zero (K A : Nat → Int) (W wr : World) (hL : Laid W 0 K A 0 wr) :
    Calls Yba.prog 9 #[.slice (some ⟨W.heap.size, 0, none⟩) 0 0, .func (.func 10) #[] #[.pointer (some ⟨wr.heap.size, 0, none⟩)]] (wr.alloc (.cells #[.bool false] 4)) fun e w' =>
      e = .returned (.tuple #[]) ∧ (∃ π, Srt W 0 K A π w') ∧ w'.cell? ⟨wr.heap.size, 0, none⟩ = some (.bool false) ∧ W.heap.size + 1 + 0 < w'.heap.size := by
  have HL : Hid (Laid W 0 K A 0 wr) := hL
  clear hL
  go_enter Yba.func9, Yba.ntmps9
  go_wp2_with fail
  refine (sort_zero _ _ _ _).mono ?_
  rintro e w' ⟨rfl, rfl⟩
  go_wp2_with fail
  go_end0
  have b0 := HL.out.1
  have h2 := HL.out.2.1
  refine ⟨rfl, ⟨fun i => i, (b0.alloc b0.size _).alloc (by simp; omega) _, fun i hi => by omega, fun i j hi => by omega, fun i j _ hj => by omega, fun i hi => by omega, fun j hj => by omega⟩, past (cell_of_new wr #[.bool false] 4 0) _, by simp; omega⟩

/-- sortKeyed, whatever the number of keyed values. -/
theorem keyed_any (n : Nat) (hn : n ≤ 1024) (K A : Nat → Int) (W wr : World) (hL : Laid W n K A n wr) :
    Calls Yba.prog 9 #[.slice (some ⟨W.heap.size, 0, none⟩) n n, .func (.func 10) #[] #[.pointer (some ⟨wr.heap.size, 0, none⟩)]] (wr.alloc (.cells #[.bool false] 4)) fun e w' =>
      e = .returned (.tuple #[]) ∧ (∃ π, Srt W n K A π w') ∧ w'.cell? ⟨wr.heap.size, 0, none⟩ = some (.bool false) ∧ W.heap.size + 1 + n < w'.heap.size := by
  cases n with
  | zero => exact keyed_zero K A W wr hL
  | succ m => exact keyed_some m K A W wr hn hL
end Go.Proofs.Ybulkykg.srt
