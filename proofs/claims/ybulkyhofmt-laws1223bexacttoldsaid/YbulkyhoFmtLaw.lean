/-
  The law's walks, a way each: Per (fine; a count below 0; a period not above 0), Inf, Every (above 0; not). (By an AI agent.)
-/
import Derived.Test.YbulkyhoFmtValidate
import Derived.Test.YbulkyhoFmtIs
namespace Go.Proofs.YbulkyhoFmt
open Go.RowKit Go.Extern.Stop Go.Stop Go.Extern
set_option linter.unusedVariables false

theorem per_any (ev d : Int) (w : World) :
    Calls Ybaf.prog 5 #[.int .i64 ev, .int .i64 d] w fun e w' => e = .returned (.agg #[.int .i64 ev, .int .i64 d, .bool false]) ∧ Below w.heap.size w w' := by
  go_enter Ybaf.func5, Ybaf.ntmps5
  go_wp2_with fail
  exact bodyPost_ret (v := .agg #[.int .i64 ev, .int .i64 d, .bool false]) (by simp [results, Ybaf.results5, go_sem]) rfl ⟨rfl, (Below.refl _ _).alloc (Nat.le_refl _) _⟩
theorem inf_any (w : World) :
    Calls Ybaf.prog 6 #[] w fun e w' => e = .returned (.agg #[.int .i64 0, .int .i64 0, .bool true]) ∧ Below w.heap.size w w' := by
  go_enter Ybaf.func6, Ybaf.ntmps6
  go_wp2_with fail
  exact bodyPost_ret (v := .agg #[.int .i64 0, .int .i64 0, .bool true]) (by simp [results, Ybaf.results6, go_sem]) rfl ⟨rfl, (Below.refl _ _).alloc (Nat.le_refl _) _⟩
theorem every_pos (d : Int) (w : World) (h : ¬ d ≤ 0) :
    Calls Ybaf.prog 7 #[.int .i64 d] w fun e w' => e = .returned (.agg #[.int .i64 1, .int .i64 d, .bool false]) ∧ Below w.heap.size w w' := by
  go_enter Ybaf.func7, Ybaf.ntmps7
  go_wp2_with fail
  exact bodyPost_ret (v := .agg #[.int .i64 1, .int .i64 d, .bool false]) (by simp [results, Ybaf.results7, go_sem]) rfl ⟨rfl, (Below.refl _ _).alloc (Nat.le_refl _) _⟩

/-- A block of three cells, made by the call, reads behind a callee as it did; nothing in it is frozen. -/
theorem three {w w1 : World} {x y z : Value} {t : TypeId} (hb : Below (w.alloc (.cells #[x, y, z] t)).heap.size (w.alloc (.cells #[x, y, z] t)) w1) :
    w1.heap[w.heap.size]? = some (.cells #[x, y, z] t) := by
  rw [hb.block _ (by simp)]
  exact heap_alloc_new w _
theorem three_cell {w1 : World} {b : Nat} {x y z : Value} {t : TypeId} (h : w1.heap[b]? = some (.cells #[x, y, z] t)) :
    w1.cell? ⟨b, 0, none⟩ = some x ∧ w1.cell? ⟨b, 1, none⟩ = some y ∧ w1.cell? ⟨b, 2, none⟩ = some z ∧ w1.frozen? ⟨b, 0, none⟩ = false ∧ w1.frozen? ⟨b, 1, none⟩ = false ∧ w1.frozen? ⟨b, 2, none⟩ = false := by
  refine ⟨?_, ?_, ?_, ?_, ?_, ?_⟩ <;> simp [World.cell?, World.frozen?, h]

set_option maxHeartbeats 400000 in
theorem every_neg (d : Int) (w : World) (h : d ≤ 0) :
    Calls Ybaf.prog 7 #[.int .i64 d] w fun e w' => e = .returned (.agg #[.int .i64 0, .int .i64 0, .bool true]) ∧ Below w.heap.size w w' := by
  go_enter Ybaf.func7, Ybaf.ntmps7
  go_wp2_with fail
  refine (inf_any _).mono ?_
  rintro e w1 ⟨rfl, hb⟩
  obtain ⟨c0, c1, c2, z0, z1, z2⟩ := three_cell (three hb)
  go_wp2_with fail
  exact bodyPost_ret (v := .agg #[.int .i64 0, .int .i64 0, .bool true]) (by simp [results, Ybaf.results7, go_sem, c0, c1, c2]) rfl
    ⟨rfl, (((((Below.refl _ _).alloc (Nat.le_refl _) _).trans (hb.mono (by simp))).setCell (Nat.le_refl _) _).setCell (Nat.le_refl _) _).setCell (Nat.le_refl _) _⟩

/-- What stands at the law's two ends: 'valid' and nil; not valid and a wrapped sentinel. -/
theorem behind {w w1 : World} {x y z : Value} {t : TypeId} (hb : Below (w.alloc (.cells #[x, y, z] t)).heap.size (w.alloc (.cells #[x, y, z] t)) w1) (p q r : Value) :
    Below w.heap.size w (((w1.setCell ⟨w.heap.size, 0, none⟩ p).setCell ⟨w.heap.size, 1, none⟩ q).setCell ⟨w.heap.size, 2, none⟩ r) :=
  (((((Below.refl _ _).alloc (Nat.le_refl _) _).trans (hb.mono (by simp))).setCell (Nat.le_refl _) _).setCell (Nat.le_refl _) _).setCell (Nat.le_refl _) _

section
variable (F : Interp) (a0 a1 a2 : Int) (s : ByteArray) (a : Addr) (w : World)

set_option maxHeartbeats 1000000 in
theorem law_per_ok (l0 : 0 ≤ a0) (m0 : a0 ≤ 255) (h0 : (a0 % 3 == 0) = true) (he : 0 ≤ a1) (hd : 0 < a2) :
    Calls Ybaf.prog 3 #[.int .u8 a0, .int .i64 a1, .int .i64 a2] w fun e w' => e = .returned (.bool true) ∧ Below w.heap.size w w' := by
  go_enter Ybaf.func3, Ybaf.ntmps3
  go_wp2_with fail
  refine (per_any _ _ _).mono ?_
  rintro e w1 ⟨rfl, hb⟩
  obtain ⟨c0, c1, c2, z0, z1, z2⟩ := three_cell (three hb)
  have hb1 := behind hb (.int .i64 a1) (.int .i64 a2) (.bool false)
  go_wp2_with fail
  refine (validate_ok _ _ _ (by omega) (by omega)).mono ?_
  rintro e w2 ⟨rfl, hb2⟩
  have hb3 := hb1.trans (hb2.mono hb1.size)
  clear hb hb1 hb2 c0 c1 c2 z0 z1 z2
  go_wp2_with fail
  go_ret
  exact ⟨rfl, hb3⟩

set_option maxHeartbeats 1000000 in
theorem law_per_count (l0 : 0 ≤ a0) (m0 : a0 ≤ 255) (h0 : (a0 % 3 == 0) = true) (he : a1 < 0) (hd0 : -9223372036854775808 ≤ a2) (hd1 : a2 ≤ 9223372036854775807)
    (hF : F.answers w.tape) (hg : w.cell? ⟨0, 0, none⟩ = some (.iface 53 (.pointer (some a)))) (ha : w.cell? a = some (.string s)) :
    Calls Ybaf.prog 3 #[.int .u8 a0, .int .i64 a1, .int .i64 a2] w fun e w' => e = .returned (.bool true) ∧ Below w.heap.size w w' := by
  have hg0 : (0 : Nat) < w.heap.size := World.block_lt_of_cell? _ _ hg
  have ha0 : a.block < w.heap.size := World.block_lt_of_cell? _ _ ha
  go_enter Ybaf.func3, Ybaf.ntmps3
  go_wp2_with fail
  refine (per_any _ _ _).mono ?_
  rintro e w1 ⟨rfl, hb⟩
  obtain ⟨c0, c1, c2, z0, z1, z2⟩ := three_cell (three hb)
  have hb1 := behind hb (.int .i64 a1) (.int .i64 a2) (.bool false)
  go_wp2_with fail
  refine (validate_count F a1 a2 s a _ ?_ hd0 hd1 ?_ ?_ he).mono ?_
  · rw [hb1.tape]; exact hF
  · rw [hb1.cell (p := ⟨0, 0, none⟩) hg0]; exact hg
  · rw [hb1.cell ha0]; exact ha
  rintro e w2 ⟨p, rfl, hb2, hp⟩
  have hb3 := hb1.trans (hb2.mono hb1.size)
  have hg3 : w2.cell? ⟨0, 0, none⟩ = some (.iface 53 (.pointer (some a))) := by rw [hb3.cell (p := ⟨0, 0, none⟩) hg0]; exact hg
  clear hb hb1 hb2 c0 c1 c2 z0 z1 z2 hg ha hF
  go_wp2_with fail
  refine (is_wrap_same p 0 a _ hp).mono ?_
  rintro e w4 ⟨rfl, hw4⟩
  subst hw4
  go_wp2_with fail
  go_ret
  exact ⟨rfl, hb3⟩

set_option maxHeartbeats 1000000 in
theorem law_per_period (l0 : 0 ≤ a0) (m0 : a0 ≤ 255) (h0 : (a0 % 3 == 0) = true) (he : 0 ≤ a1) (hd : a2 ≤ 0) (hd0 : -9223372036854775808 ≤ a2) (hd1 : a2 ≤ 9223372036854775807)
    (hF : F.answers w.tape) (hg : w.cell? ⟨0, 0, none⟩ = some (.iface 53 (.pointer (some a)))) (ha : w.cell? a = some (.string s)) :
    Calls Ybaf.prog 3 #[.int .u8 a0, .int .i64 a1, .int .i64 a2] w fun e w' => e = .returned (.bool true) ∧ Below w.heap.size w w' := by
  have hg0 : (0 : Nat) < w.heap.size := World.block_lt_of_cell? _ _ hg
  have ha0 : a.block < w.heap.size := World.block_lt_of_cell? _ _ ha
  go_enter Ybaf.func3, Ybaf.ntmps3
  go_wp2_with fail
  refine (per_any _ _ _).mono ?_
  rintro e w1 ⟨rfl, hb⟩
  obtain ⟨c0, c1, c2, z0, z1, z2⟩ := three_cell (three hb)
  have hb1 := behind hb (.int .i64 a1) (.int .i64 a2) (.bool false)
  go_wp2_with fail
  refine (validate_period F a1 a2 s a _ ?_ hd0 hd1 ?_ ?_ (by omega) hd).mono ?_
  · rw [hb1.tape]; exact hF
  · rw [hb1.cell (p := ⟨0, 0, none⟩) hg0]; exact hg
  · rw [hb1.cell ha0]; exact ha
  rintro e w2 ⟨p, rfl, hb2, hp⟩
  have hb3 := hb1.trans (hb2.mono hb1.size)
  have hg3 : w2.cell? ⟨0, 0, none⟩ = some (.iface 53 (.pointer (some a))) := by rw [hb3.cell (p := ⟨0, 0, none⟩) hg0]; exact hg
  clear hb hb1 hb2 c0 c1 c2 z0 z1 z2 hg ha hF
  go_wp2_with fail
  refine (is_wrap_same p 0 a _ hp).mono ?_
  rintro e w4 ⟨rfl, hw4⟩
  subst hw4
  go_wp2_with fail
  go_ret
  exact ⟨rfl, hb3⟩

set_option maxHeartbeats 1000000 in
theorem law_inf (l0 : 0 ≤ a0) (m0 : a0 ≤ 255) (h0 : (a0 % 3 == 0) = false) (h1 : (a0 % 3 == 1) = true)  :
    Calls Ybaf.prog 3 #[.int .u8 a0, .int .i64 a1, .int .i64 a2] w fun e w' => e = .returned (.bool true) ∧ Below w.heap.size w w' := by
  go_enter Ybaf.func3, Ybaf.ntmps3
  go_wp2_with fail
  refine (inf_any _).mono ?_
  rintro e w1 ⟨rfl, hb⟩
  obtain ⟨c0, c1, c2, z0, z1, z2⟩ := three_cell (three hb)
  have hb1 := behind hb (.int .i64 0) (.int .i64 0) (.bool true)
  go_wp2_with fail
  refine (validate_inf _ _ _).mono ?_
  rintro e w2 ⟨rfl, hb2⟩
  have hb3 := hb1.trans (hb2.mono hb1.size)
  clear hb hb1 hb2 c0 c1 c2 z0 z1 z2
  go_wp2_with fail
  go_ret
  exact ⟨rfl, hb3⟩

set_option maxHeartbeats 1000000 in
theorem law_every_pos (l0 : 0 ≤ a0) (m0 : a0 ≤ 255) (h0 : (a0 % 3 == 0) = false) (h1 : (a0 % 3 == 1) = false) (hd : 0 < a2) :
    Calls Ybaf.prog 3 #[.int .u8 a0, .int .i64 a1, .int .i64 a2] w fun e w' => e = .returned (.bool true) ∧ Below w.heap.size w w' := by
  go_enter Ybaf.func3, Ybaf.ntmps3
  go_wp2_with fail
  refine (every_pos _ _ (by omega)).mono ?_
  rintro e w1 ⟨rfl, hb⟩
  obtain ⟨c0, c1, c2, z0, z1, z2⟩ := three_cell (three hb)
  have hb1 := behind hb (.int .i64 1) (.int .i64 a2) (.bool false)
  go_wp2_with fail
  refine (validate_ok _ _ _ (by omega) (by omega)).mono ?_
  rintro e w2 ⟨rfl, hb2⟩
  have hb3 := hb1.trans (hb2.mono hb1.size)
  clear hb hb1 hb2 c0 c1 c2 z0 z1 z2
  go_wp2_with fail
  go_ret
  exact ⟨rfl, hb3⟩

set_option maxHeartbeats 1000000 in
theorem law_every_neg (l0 : 0 ≤ a0) (m0 : a0 ≤ 255) (h0 : (a0 % 3 == 0) = false) (h1 : (a0 % 3 == 1) = false) (hd : a2 ≤ 0) :
    Calls Ybaf.prog 3 #[.int .u8 a0, .int .i64 a1, .int .i64 a2] w fun e w' => e = .returned (.bool true) ∧ Below w.heap.size w w' := by
  go_enter Ybaf.func3, Ybaf.ntmps3
  go_wp2_with fail
  refine (every_neg _ _ hd).mono ?_
  rintro e w1 ⟨rfl, hb⟩
  obtain ⟨c0, c1, c2, z0, z1, z2⟩ := three_cell (three hb)
  have hb1 := behind hb (.int .i64 0) (.int .i64 0) (.bool true)
  go_wp2_with fail
  refine (validate_inf _ _ _).mono ?_
  rintro e w2 ⟨rfl, hb2⟩
  have hb3 := hb1.trans (hb2.mono hb1.size)
  clear hb hb1 hb2 c0 c1 c2 z0 z1 z2
  go_wp2_with fail
  go_ret
  exact ⟨rfl, hb3⟩

/-- THE WALK, WHATEVER THE INPUT. -/
theorem law_any (l0 : 0 ≤ a0) (m0 : a0 ≤ 255) (hd0 : -9223372036854775808 ≤ a2) (hd1 : a2 ≤ 9223372036854775807)
    (hF : F.answers w.tape) (hg : w.cell? ⟨0, 0, none⟩ = some (.iface 53 (.pointer (some a)))) (ha : w.cell? a = some (.string s)) :
    Calls Ybaf.prog 3 #[.int .u8 a0, .int .i64 a1, .int .i64 a2] w fun e w' => e = .returned (.bool true) ∧ Below w.heap.size w w' := by
  by_cases h0 : a0 % 3 = 0
  · by_cases he : a1 < 0
    · exact law_per_count F a0 a1 a2 s a w l0 m0 (by simpa using h0) he hd0 hd1 hF hg ha
    · by_cases hd : a2 ≤ 0
      · exact law_per_period F a0 a1 a2 s a w l0 m0 (by simpa using h0) (by omega) hd hd0 hd1 hF hg ha
      · exact law_per_ok a0 a1 a2 w l0 m0 (by simpa using h0) (by omega) (by omega)
  · by_cases h1 : a0 % 3 = 1
    · exact law_inf a0 a1 a2 w l0 m0 (by simpa using h0) (by simpa using h1)
    · by_cases hd : a2 ≤ 0
      · exact law_every_neg a0 a1 a2 w l0 m0 (by simpa using h0) (by simpa using h1) hd
      · exact law_every_pos a0 a1 a2 w l0 m0 (by simpa using h0) (by simpa using h1) (by omega)
end
end Go.Proofs.YbulkyhoFmt
