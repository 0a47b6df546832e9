/-
  publish and the atomics under it: contracts over an abstract world. (By an AI agent.)
-/
import Derived.Test.YbulkyhoRows
import Derived.WalkKit
import Derived.WalkSpells
import Derived.ProofKit
import Derived.Laws.LoneSync
namespace Go.Proofs.Ybulkyho.pub
open Go.RowKit

theorem n13 : (Yba.f13.name == "runtime.NumGoroutine") = false := by kernel_rfl
theorem x13 : Extern.findNext Yba.f13 = none := by kernel_rfl
theorem e13 : Extern.find Yba.f13 = some Extern.Atomic.storeT := by kernel_rfl
theorem n14 : (Yba.f14.name == "runtime.NumGoroutine") = false := by kernel_rfl
theorem x14 : Extern.findNext Yba.f14 = none := by kernel_rfl
theorem e14 : Extern.find Yba.f14 = some (Extern.Atomic.loadT (.int .i64)) := by kernel_rfl

theorem store_any (a : Addr) (u : Value) (y : Int) (w : World) (hc : w.cell? a = some u) (hz : w.frozen? a = false) :
    Calls Yba.prog 8 #[.pointer (some a), .int .i64 y] w fun e w' => e = .returned (.tuple #[]) ∧ w' = w.setCell a (.int .i64 y) := by
  obtain ⟨b, o, s⟩ := a
  have hs := run_call_store (k := .i64) (y := y) Yba.func13 n13 rfl x13 e13 hc hz
  go_enter Yba.func8, Yba.ntmps8
  go_wp2
  go_end0
  exact ⟨rfl, rfl⟩

theorem load_any (a : Addr) (x : Int) (w : World) (hc : w.cell? a = some (.int .i64 x)) :
    Calls Yba.prog 10 #[.pointer (some a)] w fun e w' => e = .returned (.int .i64 x) ∧ w' = w := by
  obtain ⟨b, o, s⟩ := a
  have hs := run_call_load Yba.func14 n14 rfl x14 .i64 e14 hc
  go_enter Yba.func10, Yba.ntmps10
  go_wp2
  go_ret
  exact ⟨rfl, rfl⟩

/-- What a word holds in the end. -/
def want (i n hi f old : Int) : Int := if i < n then f else if i < hi then 9223372036854775807 else old

theorem want_any (i n hi f old : Int) (w : World) :
    Calls Yba.prog 11 #[.int .i64 i, .int .i64 n, .int .i64 hi, .int .i64 f, .int .i64 old] w fun e w' => e = .returned (.int .i64 (want i n hi f old)) ∧ w' = w := by
  by_cases h1 : i < n
  · have e : want i n hi f old = f := by simp [want, h1]
    rw [e]
    go_enter Yba.func11, Yba.ntmps11
    go_wp2
    go_ret
    exact ⟨rfl, rfl⟩
  · by_cases h2 : i < hi
    · have e : want i n hi f old = 9223372036854775807 := by simp [want, h1, h2]
      rw [e]
      clear e
      go_enter Yba.func11, Yba.ntmps11
      go_wp2
      go_ret
      exact ⟨rfl, rfl⟩
    · have e : want i n hi f old = old := by simp [want, h1, h2]
      rw [e]
      clear e
      go_enter Yba.func11, Yba.ntmps11
      go_wp2
      go_ret
      exact ⟨rfl, rfl⟩

/-- The limiter's cells that publish touches: block b holds it (a block that the law's call has made behind W): 'spread' (cell 7), the four words (cells 77, 134, 191, 248), 'fullUsed' (cell 315). -/
def Lim (W : World) (b : Nat) (w : World) (sp fu : Int) (g : Nat → Int) : Prop :=
  W.heap.size ≤ b ∧ Grown W w ∧ w.cell? ⟨b, 7, none⟩ = some (.int .i64 sp) ∧ w.cell? ⟨b, 315, none⟩ = some (.int .i64 fu) ∧
  (∀ j, j < 4 → w.cell? ⟨b, 77 + j * 57, none⟩ = some (.int .i64 (g j))) ∧ ∀ o, w.frozen? ⟨b, o, none⟩ = false

theorem ne_off {b o o' : Nat} (h : o ≠ o') : (⟨b, o, none⟩ : Addr) ≠ ⟨b, o', none⟩ := fun e => h (congrArg Addr.off e)

theorem Lim.setSp {W w : World} {b : Nat} {sp fu : Int} {g : Nat → Int} (h : Lim W b w sp fu g) (y : Int) : Lim W b (w.setCell ⟨b, 7, none⟩ (.int .i64 y)) y fu g := by
  obtain ⟨h0, h1, h2, h3, h4, h5⟩ := h
  refine ⟨h0, h1.setCell h0 _, World.cell?_setCell_same _ _ _ h2, ?_, fun j hj => ?_, fun o => ?_⟩
  · rw [World.cell?_setCell_other _ _ _ _ (ne_off (by decide))]; exact h3
  · rw [World.cell?_setCell_other _ _ _ _ (ne_off (by omega))]; exact h4 j hj
  · rw [World.frozen?_setCell]; exact h5 o

theorem Lim.setFu {W w : World} {b : Nat} {sp fu : Int} {g : Nat → Int} (h : Lim W b w sp fu g) (y : Int) : Lim W b (w.setCell ⟨b, 315, none⟩ (.int .i64 y)) sp y g := by
  obtain ⟨h0, h1, h2, h3, h4, h5⟩ := h
  refine ⟨h0, h1.setCell h0 _, ?_, World.cell?_setCell_same _ _ _ h3, fun j hj => ?_, fun o => ?_⟩
  · rw [World.cell?_setCell_other _ _ _ _ (ne_off (by decide))]; exact h2
  · rw [World.cell?_setCell_other _ _ _ _ (ne_off (by omega))]; exact h4 j hj
  · rw [World.frozen?_setCell]; exact h5 o

theorem Lim.setWord {W w : World} {b : Nat} {sp fu : Int} {g : Nat → Int} (h : Lim W b w sp fu g) (k : Nat) (hk : k < 4) (y : Int) (g' : Nat → Int) (hg : ∀ j, j < 4 → g' j = if j = k then y else g j) :
    Lim W b (w.setCell ⟨b, 77 + k * 57, none⟩ (.int .i64 y)) sp fu g' := by
  obtain ⟨h0, h1, h2, h3, h4, h5⟩ := h
  refine ⟨h0, h1.setCell h0 _, ?_, ?_, fun j hj => ?_, fun o => ?_⟩
  · rw [World.cell?_setCell_other _ _ _ _ (ne_off (by omega))]; exact h2
  · rw [World.cell?_setCell_other _ _ _ _ (ne_off (by omega))]; exact h3
  · rw [hg j hj]
    by_cases e : j = k
    · subst e; rw [if_pos rfl]; exact World.cell?_setCell_same _ _ _ (h4 j hj)
    · rw [if_neg e, World.cell?_setCell_other _ _ _ _ (ne_off (by omega))]; exact h4 j hj
  · rw [World.frozen?_setCell]; exact h5 o

/-- The words behind k rounds of publish's loop. -/
def upTo (k : Nat) (n f : Int) (g : Nat → Int) (j : Nat) : Int := if j < k then (if (j : Int) < n then f else 9223372036854775807) else g j

theorem upTo_zero (n f : Int) (g : Nat → Int) : upTo 0 n f g = g := by funext j; simp [upTo]
theorem upTo_lt (k : Nat) (n f : Int) (g : Nat → Int) (h : (k : Int) < n) (j : Nat) : upTo (k + 1) n f g j = if j = k then f else upTo k n f g j := by
  unfold upTo
  by_cases e : j = k
  · subst e; simp [h]
  · by_cases l : j < k
    · simp [e, l, show j < k + 1 by omega]
    · simp [e, l, show ¬ j < k + 1 by omega]
theorem upTo_ge (k : Nat) (n f : Int) (g : Nat → Int) (h0 : n ≤ (k : Int)) (j : Nat) : upTo (k + 1) n f g j = if j = k then 9223372036854775807 else upTo k n f g j := by
  have h : ¬ (k : Int) < n := by omega
  unfold upTo
  by_cases e : j = k
  · subst e; simp [h]
  · by_cases l : j < k
    · simp [e, l, show j < k + 1 by omega]
    · simp [e, l, show ¬ j < k + 1 by omega]
theorem upTo_end (k : Nat) (n m f : Int) (g : Nat → Int) (h : (k : Int) = m) (hm : n ≤ m) : upTo k n f g = fun j : Nat => want j n m f (g j) := by
  funext j
  unfold upTo want
  by_cases l : j < k
  · by_cases l' : (j : Int) < n
    · simp [l, l']
    · simp [l, l', show (j : Int) < m by omega]
  · simp [l, show ¬ (j : Int) < n by omega, show ¬ (j : Int) < m by omega]

set_option maxHeartbeats 400000 in
theorem publish_lt (W : World) (b : Nat) (w : World) (sp fu : Int) (g : Nat → Int) (f n : Int) (h : Lim W b w sp fu g) (hn0 : 0 ≤ n) (hm0 : 0 ≤ fu) (hf : fu ≤ 4) (hnm : n ≤ fu) (hlt : n < fu) :
    Calls Yba.prog 9 #[.pointer (some ⟨b, 0, none⟩), .int .i64 f, .int .i64 n] w fun e w' => e = .returned (.tuple #[]) ∧ Lim W b w' n n (fun j => want j n fu f (g j)) := by
    have c1 := h.2.2.1
    have z1 := h.2.2.2.2.2 7
    have H1 := h.setSp n
    have c2 := H1.2.2.2.1
    clear h
    go_enter Yba.func9, Yba.ntmps9
    go_wp2_with fail
    refine (store_any _ _ _ _ c1 z1).mono ?_
    rintro e w' ⟨rfl, rfl⟩
    go_wp2_with fail
    go_loopw [18] (fun i wr => ∃ k : Nat, (k : Int) ≤ fu ∧ i = .int .i64 k ∧ Lim W b wr n fu (upTo k n f g)) (fun i _ => 4 - (intOf i).toNat)
    case atStart => exact ⟨0, hm0, rfl, by rw [upTo_zero]; exact H1⟩
    case round =>
      obtain ⟨k, hk, rfl, hL⟩ := hrel
      clear H1 c2 c1 z1
      by_cases hkm : (k : Int) < fu
      · have ck := hL.2.2.2.2.1 k (by omega)
        have zk := hL.2.2.2.2.2 (77 + k * 57)
        by_cases hkn : (k : Int) < n
        · go_wp2_with fail
          refine (store_any _ _ _ _ ck zk).mono ?_
          rintro e w' ⟨rfl, rfl⟩
          have hL' := hL.setWord k (by omega) f _ (fun j _ => upTo_lt k n f g hkn j)
          clear hL ck zk
          go_wp2_with fail
          go_roundw
          case rel => exact ⟨k + 1, by omega, by go_num, hL'⟩
          case measure => simp [intOf]; omega
        · go_wp2_with fail
          refine (store_any _ _ _ _ ck zk).mono ?_
          rintro e w' ⟨rfl, rfl⟩
          have hL' := hL.setWord k (by omega) 9223372036854775807 _ (fun j _ => upTo_ge k n f g hkn j)
          clear hL ck zk
          go_wp2_with fail
          go_roundw
          case rel => exact ⟨k + 1, by omega, by go_num, hL'⟩
          case measure => simp [intOf]; omega
      · have cu := hL.2.2.2.1
        have zu := hL.2.2.2.2.2 315
        go_wp2_with fail
        go_end0
        exact ⟨rfl, by have e := hL.setFu n; rw [upTo_end k n fu f g (by omega) hnm] at e; exact e⟩

set_option maxHeartbeats 400000 in
theorem publish_ge (W : World) (b : Nat) (w : World) (sp fu : Int) (g : Nat → Int) (f n : Int) (h : Lim W b w sp fu g) (hm0 : 0 ≤ n) (hn : n ≤ 4) (hge : ¬ n < fu) :
    Calls Yba.prog 9 #[.pointer (some ⟨b, 0, none⟩), .int .i64 f, .int .i64 n] w fun e w' => e = .returned (.tuple #[]) ∧ Lim W b w' n n (fun j => want j n n f (g j)) := by
    have c1 := h.2.2.1
    have z1 := h.2.2.2.2.2 7
    have H1 := h.setSp n
    have c2 := H1.2.2.2.1
    have hnm : n ≤ n := Int.le_refl n
    clear h
    go_enter Yba.func9, Yba.ntmps9
    go_wp2_with fail
    refine (store_any _ _ _ _ c1 z1).mono ?_
    rintro e w' ⟨rfl, rfl⟩
    go_wp2_with fail
    go_loopw [18] (fun i wr => ∃ k : Nat, (k : Int) ≤ n ∧ i = .int .i64 k ∧ Lim W b wr n fu (upTo k n f g)) (fun i _ => 4 - (intOf i).toNat)
    case atStart => exact ⟨0, hm0, rfl, by rw [upTo_zero]; exact H1⟩
    case round =>
      obtain ⟨k, hk, rfl, hL⟩ := hrel
      clear H1 c2 c1 z1
      by_cases hkm : (k : Int) < n
      · have ck := hL.2.2.2.2.1 k (by omega)
        have zk := hL.2.2.2.2.2 (77 + k * 57)
        by_cases hkn : (k : Int) < n
        · go_wp2_with fail
          refine (store_any _ _ _ _ ck zk).mono ?_
          rintro e w' ⟨rfl, rfl⟩
          have hL' := hL.setWord k (by omega) f _ (fun j _ => upTo_lt k n f g hkn j)
          clear hL ck zk
          go_wp2_with fail
          go_roundw
          case rel => exact ⟨k + 1, by omega, by go_num, hL'⟩
          case measure => simp [intOf]; omega
        · exact absurd hkm hkn
      · have cu := hL.2.2.2.1
        have zu := hL.2.2.2.2.2 315
        go_wp2_with fail
        go_end0
        exact ⟨rfl, by have e := hL.setFu n; rw [upTo_end k n n f g (by omega) hnm] at e; exact e⟩

theorem publish_any (W : World) (b : Nat) (w : World) (sp fu : Int) (g : Nat → Int) (f n m : Int) (h : Lim W b w sp fu g) (hn0 : 0 ≤ n) (hn : n ≤ 4) (hf0 : 0 ≤ fu) (hf : fu ≤ 4) (hm : m = max n fu) :
    Calls Yba.prog 9 #[.pointer (some ⟨b, 0, none⟩), .int .i64 f, .int .i64 n] w fun e w' => e = .returned (.tuple #[]) ∧ Lim W b w' n n (fun j => want j n m f (g j)) := by
  by_cases hlt : n < fu
  · obtain rfl : m = fu := by omega
    exact publish_lt W b w sp m g f n h hn0 hf0 hf (by omega) hlt
  · obtain rfl : m = n := by omega
    exact publish_ge W b w sp fu g f m h hn0 hn hlt
end Go.Proofs.Ybulkyho.pub
