/-
  The law's walk, the sort taken by its contract (the hypothesis H9). (By an AI agent.)
-/
import Derived.Test.YbulkykgSrt
import Derived.RegionTactic
import Derived.BigRegion
namespace Go.Proofs.Ybulkykg.srt
open Go.RowKit
set_option linter.unusedVariables false

set_option maxRecDepth 100000 in
set_option maxHeartbeats 1000000 in
theorem walk (n len1 cap0 cap1 : Nat) (a0 a1 : Option Addr) (K A : Nat → Int) (w : World) (hn : n ≤ 1024) (hm1 : len1 ≤ 9223372036854775807)
    (hkeys : 0 < n → ∃ b0 o0, a0 = some ⟨b0, o0, none⟩ ∧ b0 < w.heap.size ∧ ∀ i, i < n → w.cell? ⟨b0, o0 + i, none⟩ = some (.int .i64 (K i)))
    (hats : 0 < len1 → ∃ b1 o1, ∃ Z : Nat → Int, a1 = some ⟨b1, o1, none⟩ ∧ b1 < w.heap.size ∧ (∀ j, j < len1 → w.cell? ⟨b1, o1 + j, none⟩ = some (.int .u8 (Z j)) ∧ 0 ≤ Z j ∧ Z j ≤ 255) ∧ ∀ i, A i = Z (i % len1))
    (hno : len1 = 0 → ∀ i, A i = 0)
    (H9 : Hid (∀ wr, Laid w n K A n wr → Calls Yba.prog 9 #[.slice (some ⟨w.heap.size, 0, none⟩) n n, .func (.func 10) #[] #[.pointer (some ⟨wr.heap.size, 0, none⟩)]] (wr.alloc (.cells #[.bool false] 4)) fun e w' =>
      e = .returned (.tuple #[]) ∧ (∃ π, Srt w n K A π w') ∧ w'.cell? ⟨wr.heap.size, 0, none⟩ = some (.bool false) ∧ w.heap.size + 1 + n < w'.heap.size)) :
    Calls Yba.prog 5 #[.slice a0 n cap0, .slice a1 len1 cap1] w fun e w' => e = .returned (.bool true) ∧ Below w.heap.size w w' := by
  have hmk := make32 n hn
  have hz := zero48
  have hn' : ¬ (n : Int) > 1024 := by omega
  have Hkeys : Hid (0 < n → ∃ b0 o0, a0 = some ⟨b0, o0, none⟩ ∧ b0 < w.heap.size ∧ ∀ i, i < n → w.cell? ⟨b0, o0 + i, none⟩ = some (.int .i64 (K i))) := hkeys
  have Hats : Hid (0 < len1 → ∃ b1 o1, ∃ Z : Nat → Int, a1 = some ⟨b1, o1, none⟩ ∧ b1 < w.heap.size ∧ (∀ j, j < len1 → w.cell? ⟨b1, o1 + j, none⟩ = some (.int .u8 (Z j)) ∧ 0 ≤ Z j ∧ Z j ≤ 255) ∧ ∀ i, A i = Z (i % len1)) := hats
  have Hno : Hid (len1 = 0 → ∀ i, A i = 0) := hno
  clear hkeys hats hno
  go_enter Yba.func5, Yba.ntmps5
  go_wp2_with fail
  go_loopw [7] (fun i wr => ∃ k : Nat, k ≤ n ∧ i = .int .i64 k ∧ Laid w n K A k wr) (fun i _ => n - (intOf i).toNat)
  case atStart => exact ⟨0, Nat.zero_le _, rfl, Laid.start _ _ _ _⟩
  case round =>
    obtain ⟨k, hk, rfl, hL⟩ := hrel
    clear hmk
    by_cases hlt : k < n
    · obtain ⟨b0, o0, rfl, hb0, hk0⟩ := Hkeys.out (by omega)
      have z26 := zq26
      have z40 := zq40
      have z41 := zq41
      obtain ⟨⟨v0, c0⟩, ⟨v1, c1⟩⟩ := hL.2.2.1 k hlt
      have f0 := hL.2.2.2.1 (k * 2)
      have f1 := hL.2.2.2.1 (k * 2 + 1)
      have ck : wr.cell? ⟨b0, o0 + k, none⟩ = some (.int .i64 (K k)) := by rw [hL.1.cell (p := ⟨b0, o0 + k, none⟩) hb0]; exact hk0 k hlt
      have hb0' : b0 < wr.heap.size := World.block_lt_of_cell? _ _ ck
      have hb1 : w.heap.size < wr.heap.size := World.block_lt_of_cell? _ _ c0
      have hne : b0 ≠ w.heap.size := by omega
      have hS := hL.step hlt
      clear hk0
      by_cases hl1 : 0 < len1
      · obtain ⟨b1, o1, Z, rfl, hb1', hZ, hA⟩ := Hats.out hl1
        obtain ⟨hz1, hz2, hz3⟩ := hZ (k % len1) (Nat.mod_lt _ hl1)
        have cz : wr.cell? ⟨b1, o1 + k % len1, none⟩ = some (.int .u8 (Z (k % len1))) := by rw [hL.1.cell (p := ⟨b1, o1 + k % len1, none⟩) hb1']; exact hz1
        have hAk : Hid (A k = Z (k % len1)) := hA k
        have hl1' : (0 : Int) < (len1 : Int) := by omega
        clear hA hZ hz1
        generalize hz0 : Z (k % len1) = z at *
        clear hz0
        have hmod0 : (0 : Int) ≤ (k : Int) % (len1 : Int) := Int.emod_nonneg _ (by omega)
        have hmod1 : (k : Int) % (len1 : Int) < (len1 : Int) := Int.emod_lt_of_pos _ hl1'
        go_wp2_with fail
        go_roundw
        case rel => exact ⟨k + 1, by omega, by go_num, by rw [posQ, hAk.out] at hS; exact hS⟩
        case measure => simp [intOf]; omega
      · have hl1' : ¬ (0 : Int) < (len1 : Int) := by omega
        have hAk : Hid (A k = 0) := Hno.out (by omega) k
        go_wp2_with fail
        go_roundw
        case rel => exact ⟨k + 1, by omega, by go_num, by rw [posQ, hAk.out] at hS; exact hS⟩
        case measure => simp [intOf]; omega
    · obtain rfl : k = n := by omega
      have C := H9.out wr hL
      have C' : Hid (Calls Yba.prog 9 _ _ _) := C
      clear C H9 hz
      go_wp2_with fail
      refine C'.out.mono ?_
      rintro e w1 ⟨rfl, ⟨π, hS⟩, hbad, hsz⟩
      clear C' hL hk hlt
      have hmk2 := make54 k hn
      have M0 := Marks.start w1 k π
      have S0 := hS.alloc (.cells (madeCells #[.bool false] k) 4)
      clear hS
      go_wp2_with fail
      go_loopw [12] (fun i wr => ∃ m : Nat, m ≤ k ∧ i = .int .i64 m ∧ Srt w k K A π wr ∧ Marks w1.heap.size k π m wr) (fun i _ => k - (intOf i).toNat)
      case atStart => exact ⟨0, Nat.zero_le _, rfl, S0, M0⟩
      case round =>
        clear hmk2 M0 S0 hbad
        obtain ⟨m, hm, rfl, hS, hM⟩ := hrel
        by_cases hlt : m < k
        · obtain ⟨b0, o0, rfl, hb0, hk0⟩ := Hkeys.out (by omega)
          have hp : π m < k := hS.2.1 m hlt
          obtain ⟨r0, r1⟩ := hS.2.2.2.2.1 m hlt
          obtain ⟨q0, q1, q2⟩ := hS.2.2.2.2.2 (π m) hp
          have cm : wr.cell? ⟨w1.heap.size, π m, none⟩ = some (.bool false) := by rw [hM.1 _ hp, seenB_fresh hS.2.2.1 m m (Nat.le_refl _) hlt]
          have fm := hM.2 (π m)
          have ck : wr.cell? ⟨b0, o0 + π m, none⟩ = some (.int .i64 (K (π m))) := by rw [hS.1.cell (p := ⟨b0, o0 + π m, none⟩) hb0]; exact hk0 _ hp
          have hpi : ((π m : Nat) : Int) < (k : Int) := by omega
          have hge : ¬ (k : Int) ≤ ((π m : Nat) : Int) := by omega
          have S1 := hS.setCell w1.heap.size (π m) (.bool true) (by omega)
          have M1 := hM.step hp
          clear hk0 hS hM
          go_wp2_with fail
          go_quiet (fail)
          go_wp2_with fail
          go_quiet (fail)
          go_wp2_with fail
          go_roundw
          case rel => exact ⟨m + 1, by omega, by go_num, (S1.drewN _).drewN _, (M1.drewN _).drewN _⟩
          case measure => simp [intOf]; omega
        · obtain rfl : m = k := by omega
          clear hM hm hlt
          go_wp2_with fail
          go_loopw [14] (fun i wr => ∃ j : Nat, j ≤ m ∧ i = .int .i64 j ∧ Srt w m K A π wr) (fun i _ => m - (intOf i).toNat)
          case atStart => exact ⟨0, Nat.zero_le _, rfl, hS⟩
          case round =>
            clear hS
            obtain ⟨j, hj, rfl, hS⟩ := hrel
            by_cases hlt : j + 1 < m
            · have hp : π j < m := hS.2.1 j (by omega)
              have hp' : π (j + 1) < m := hS.2.1 (j + 1) hlt
              obtain ⟨r0, r1⟩ := hS.2.2.2.2.1 j (by omega)
              obtain ⟨s0, s1⟩ := hS.2.2.2.2.1 (j + 1) hlt
              obtain ⟨q0, q1, q2⟩ := hS.2.2.2.2.2 (π j) hp
              obtain ⟨t0, t1, t2⟩ := hS.2.2.2.2.2 (π (j + 1)) hp'
              obtain ⟨le1, le2⟩ := hS.2.2.2.1 j (j + 1) (by omega) hlt
              have hlt' : (j : Int) + 1 < (m : Int) := by omega
              have hBw : w.heap.size < wr.heap.size := World.block_lt_of_cell? _ _ r0
              have hBw1 : w.heap.size < wr.heap.size + 1 := by omega
              have hq : w.heap.size + 1 + π j < wr.heap.size := World.block_lt_of_cell? _ _ q0
              have ht : w.heap.size + 1 + π (j + 1) < wr.heap.size := World.block_lt_of_cell? _ _ t0
              have hq1 : w.heap.size + 1 + π j < wr.heap.size + 1 := by omega
              have ht1 : w.heap.size + 1 + π (j + 1) < wr.heap.size + 1 := by omega
              have hji : (j : Int) < (m : Int) := by omega
              have S2 := fun o1 o2 n => ((hS.alloc o1).alloc o2).drewN n
              have S2' : Hid (∀ o1 o2 n, Srt w m K A π (((wr.alloc o1).alloc o2).drewN n)) := S2
              clear hS S2 q1 t1 q0 t0 hp hp'
              generalize K (π j) = x at *
              generalize K (π (j + 1)) = y at *
              generalize A (π j) = ax at *
              generalize A (π (j + 1)) = ay at *
              generalize π j = pj at *
              generalize π (j + 1) = pk at *
              by_cases hE : x = y
              · have le3 := le2 hE
                subst hE
                clear le1 le2
                go_wp2_with fail
                go_region
                all_goals (go_wp2_with fail)
                all_goals (go_quiet (fail))
                all_goals (go_wp2_with fail)
                all_goals
                  go_roundw
                  case rel => exact ⟨j + 1, by omega, by go_num, S2'.out _ _ _⟩
                  case measure => simp [intOf]; omega
              · have hE' : (x == y) = false := by simpa using hE
                clear le2 hE
                go_wp2_with fail
                go_region
                all_goals (go_wp2_with fail)
                all_goals (go_quiet (fail))
                all_goals (go_wp2_with fail)
                all_goals
                  go_roundw
                  case rel => exact ⟨j + 1, by omega, by go_num, S2'.out _ _ _⟩
                  case measure => simp [intOf]; omega
            · have hge : ¬ (j : Int) + 1 < (m : Int) := by omega
              go_wp2_with fail
              go_ret
              exact ⟨rfl, hS.1⟩
end Go.Proofs.Ybulkykg.srt
