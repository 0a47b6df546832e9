/-
  The comparisons under sortKeyed: cmp.Compare at int and int64, the law's own order, sortKeyed's closure. (By an AI agent.)
  A position is a block of 44 cells: cell 26: key · 40: name · 41: at.
-/
import Derived.Test.YbulkykgRows
import Derived.WalkKit
import Derived.WalkSpells
import Derived.ProofKit
import Derived.Deep.QuietTactic
import Derived.BigQuiet
namespace Go.Proofs.Ybulkykg.srt
open Go.RowKit
set_option linter.unusedVariables false

/-- cmp.Compare. -/
def cmpI (a b : Int) : Int := if a < b then -1 else if b < a then 1 else 0
theorem cmpI_lt {a b : Int} (h : a < b) : cmpI a b = -1 := by simp [cmpI, h]
theorem cmpI_gt {a b : Int} (h : b < a) : cmpI a b = 1 := by simp [cmpI, h, show ¬ a < b by omega]
theorem cmpI_eq (a : Int) : cmpI a a = 0 := by simp [cmpI]

theorem cmp15 (a b : Int) (w : World) : Calls Yba.prog 15 #[.int .i64 a, .int .i64 b] w fun e w' => e = .returned (.int .i64 (cmpI a b)) ∧ w' = w := by
  by_cases h1 : a < b
  · rw [cmpI_lt h1]
    go_enter Yba.func15, Yba.ntmps15
    go_wp2
    go_ret
    exact ⟨rfl, rfl⟩
  · by_cases h2 : b < a
    · rw [cmpI_gt h2]
      go_enter Yba.func15, Yba.ntmps15
      go_wp2
      go_ret
      exact ⟨rfl, rfl⟩
    · obtain rfl : a = b := by omega
      rw [cmpI_eq]
      go_enter Yba.func15, Yba.ntmps15
      go_wp2
      go_ret
      exact ⟨rfl, rfl⟩

theorem cmp11 (a b : Int) (w : World) : Calls Yba.prog 11 #[.int .i64 a, .int .i64 b] w fun e w' => e = .returned (.int .i64 (cmpI a b)) ∧ w' = w := by
  by_cases h1 : a < b
  · rw [cmpI_lt h1]
    go_enter Yba.func11, Yba.ntmps11
    go_wp2
    go_ret
    exact ⟨rfl, rfl⟩
  · by_cases h2 : b < a
    · rw [cmpI_gt h2]
      go_enter Yba.func11, Yba.ntmps11
      go_wp2
      go_ret
      exact ⟨rfl, rfl⟩
    · obtain rfl : a = b := by omega
      rw [cmpI_eq]
      go_enter Yba.func11, Yba.ntmps11
      go_wp2
      go_ret
      exact ⟨rfl, rfl⟩

theorem drewN_two (w : World) (n m : Nat) : (w.drewN n).drewN m = w.drewN (n + m) := by
  simp [World.drewN, Nat.add_assoc]
theorem past {w : World} {a : Addr} {v : Value} (h : w.cell? a = some v) (o : Obj) : (w.alloc o).cell? a = some v := by
  have hlt := World.block_lt_of_cell? _ _ h
  rw [← h]
  simp only [World.cell?, World.alloc, Array.getElem?_push, Nat.ne_of_lt hlt, if_false]

set_option maxHeartbeats 400000 in
/-- The law's own order, asked of two positions of ONE key: their 'at's compared; nothing is written. -/
theorem order10 (p q bb : Nat) (k x y : Int) (w : World) (kp : w.cell? ⟨p, 26, none⟩ = some (.int .i64 k)) (kq : w.cell? ⟨q, 26, none⟩ = some (.int .i64 k))
    (xp : w.cell? ⟨p, 41, none⟩ = some (.int .i64 x)) (yq : w.cell? ⟨q, 41, none⟩ = some (.int .i64 y)) :
    Calls Yba.prog 10 #[.pointer (some ⟨p, 0, none⟩), .pointer (some ⟨q, 0, none⟩), .pointer (some ⟨bb, 0, none⟩)] w fun e w' => e = .returned (.int .i64 (cmpI x y)) ∧ ∃ n, w' = w.drewN n := by
  go_enter Yba.func10, Yba.ntmps10
  go_wp2_with fail
  go_quiet (fail)
  go_wp2_with fail
  go_quiet ((go_at_call 11; exact (cmp11 _ _ _).mono fun _ _ ⟨he, hw⟩ => ⟨he, _, hw⟩))
  go_wp2_with fail
  go_ret
  exact ⟨rfl, _, drewN_two _ _ _⟩

/-- The order of two positions: by key, then by 'at'. -/
def cmp2 (k1 x k2 y : Int) : Int := if k1 = k2 then cmpI x y else cmpI k1 k2

set_option maxHeartbeats 400000 in
/-- sortKeyed's closure, at two positions p and q whose keyed values bear their keys. -/
theorem closure14 (p q bb bo : Nat) (k1 k2 x y : Int) (w : World) (ho : w.cell? ⟨bo, 0, none⟩ = some (.func (.func 10) #[] #[.pointer (some ⟨bb, 0, none⟩)]))
    (kp : w.cell? ⟨p, 26, none⟩ = some (.int .i64 k1)) (kq : w.cell? ⟨q, 26, none⟩ = some (.int .i64 k2))
    (xp : w.cell? ⟨p, 41, none⟩ = some (.int .i64 x)) (yq : w.cell? ⟨q, 41, none⟩ = some (.int .i64 y)) :
    Calls Yba.prog 14 #[.agg #[.int .i64 k1, .pointer (some ⟨p, 0, none⟩)], .agg #[.int .i64 k2, .pointer (some ⟨q, 0, none⟩)], .pointer (some ⟨bo, 0, none⟩)] w fun e w' =>
      e = .returned (.int .i64 (cmp2 k1 x k2 y)) ∧ ∃ n o1 o2, w' = ((w.alloc o1).alloc o2).drewN n := by
  by_cases hk : k1 = k2
  · subst hk
    have e : cmp2 k1 x k1 y = cmpI x y := by simp [cmp2]
    rw [e]
    go_enter Yba.func14, Yba.ntmps14
    go_wp2_with fail
    refine (cmp15 _ _ _).mono ?_
    rw [cmpI_eq]
    rintro e w' ⟨rfl, rfl⟩
    have ho' := past (past ho (.cells #[.int .i64 k1, .pointer (some ⟨p, 0, none⟩)] 50)) (.cells #[.int .i64 k1, .pointer (some ⟨q, 0, none⟩)] 50)
    go_wp2_with fail
    refine (order10 p q bb k1 x y _ (past (past kp _) _) (past (past kq _) _) (past (past xp _) _) (past (past yq _) _)).mono ?_
    rintro e w' ⟨rfl, n, rfl⟩
    go_wp2_with fail
    go_ret
    exact ⟨rfl, n, _, _, rfl⟩
  · have e : cmp2 k1 x k2 y = cmpI k1 k2 := by simp [cmp2, hk]
    rw [e]
    have hne : (cmpI k1 k2 != 0) = true := by
      unfold cmpI
      by_cases h1 : k1 < k2
      · simp [h1]
      · simp [h1, show k2 < k1 by omega]
    clear e
    have C := cmp15 k1 k2 ((w.alloc (.cells #[.int .i64 k1, .pointer (some ⟨p, 0, none⟩)] 50)).alloc (.cells #[.int .i64 k2, .pointer (some ⟨q, 0, none⟩)] 50))
    generalize cmpI k1 k2 = c at hne C ⊢
    have C' : Hid (Calls Yba.prog 15 _ _ _) := C
    clear C kp kq xp yq ho
    go_enter Yba.func14, Yba.ntmps14
    go_wp2_with fail
    refine C'.out.mono ?_
    rintro e w' ⟨rfl, rfl⟩
    clear C'
    go_wp2_with fail
    go_ret
    exact ⟨rfl, 0, _, _, rfl⟩
end Go.Proofs.Ybulkykg.srt
