/-
  (time.Duration).String by a contract: whatever the duration, it returns some string of at most 32 bytes and writes nothing that was there. (By an AI agent.)
  format, fmtFrac, fmtInt write into a block of 32 bytes that the call itself has made; what matters is that the index never runs below 0.
-/
import Derived.Test.YbulkyhoFmtRows
import Derived.WalkKit
import Derived.WalkSpells
import Derived.ProofKit
import Derived.Laws.BytesArg
import Derived.Lib.SlBuf
import Derived.Lib.LazyBuf
namespace Go.Proofs.YbulkyhoFmt.dur
open Go.RowKit
set_option linter.unusedVariables false

/-- The buffer: block b, 32 bytes, made behind W; nothing of W has turned. -/
def Buf (W : World) (b : Nat) (w : World) : Prop :=
  W.heap.size ≤ b ∧ Below W.heap.size W w ∧ (∀ j, j < 32 → ∃ x : Int, w.cell? ⟨b, j, none⟩ = some (.int .u8 x)) ∧ ∀ o, w.frozen? ⟨b, o, none⟩ = false

theorem ne_off {b o o' : Nat} (h : o ≠ o') : (⟨b, o, none⟩ : Addr) ≠ ⟨b, o', none⟩ := fun e => h (congrArg Addr.off e)

theorem Buf.set {W w : World} {b : Nat} (h : Buf W b w) (k : Nat) (hk : k < 32) (x : Int) : Buf W b (w.setCell ⟨b, k, none⟩ (.int .u8 x)) := by
  obtain ⟨h0, h1, h2, h3⟩ := h
  refine ⟨h0, h1.setCell h0 _, fun j hj => ?_, fun o => ?_⟩
  · by_cases e : k = j
    · subst e
      obtain ⟨y, hy⟩ := h2 k hj
      exact ⟨x, World.cell?_setCell_same _ _ _ hy⟩
    · obtain ⟨y, hy⟩ := h2 j hj
      exact ⟨y, by rw [World.cell?_setCell_other _ _ _ _ (ne_off e)]; exact hy⟩
  · rw [World.frozen?_setCell]; exact h3 o

/-- v has at most j decimal digits. -/
def Lt10 (v : Int) (j : Nat) : Prop := v < 10 ^ j
theorem Lt10.zero {v : Int} (h : Lt10 v 0) : v < 1 := by simpa [Lt10] using h
theorem Lt10.succ {v : Int} {j : Nat} (h : Lt10 v (j + 1)) : Lt10 (v / 10) j := by
  unfold Lt10 at h ⊢
  rw [Int.pow_succ] at h
  exact Int.ediv_lt_of_lt_mul (by decide) h

set_option maxHeartbeats 400000 in
theorem fmtInt_any (W : World) (b : Nat) (len k : Nat) (v : Int) (w : World) (h : Buf W b w) (hv0 : 0 ≤ v) (hv1 : v ≤ 18446744073709551615) (hv : Lt10 v k) (hk : 1 ≤ k) (hkl : k ≤ len) (hl : len ≤ 32) :
    Calls Ybaf.prog 19 #[.slice (some ⟨b, 0, none⟩) len 32, .int .u64 v] w fun e w' => ∃ n : Nat, e = .returned (.int .i64 n) ∧ len ≤ n + k ∧ n ≤ len ∧ Buf W b w' := by
  by_cases hz : v = 0
  · subst hz
    obtain ⟨m, rfl⟩ : ∃ m, len = m + 1 := ⟨len - 1, by omega⟩
    obtain ⟨x, hx⟩ := h.2.2.1 m (by omega)
    have zx := h.2.2.2 m
    go_enter Ybaf.func19, Ybaf.ntmps19
    go_wp2_with fail
    go_ret
    exact ⟨m, rfl, by omega, by omega, h.set m (by omega) 48⟩
  · have hz' : (v == 0) = false := by simpa using hz
    go_enter Ybaf.func19, Ybaf.ntmps19
    go_wp2_with fail
    go_loopw [1, 5] (fun t u wr => ∃ (x : Int) (n j : Nat), t = .int .u64 x ∧ u = .int .i64 n ∧ 0 ≤ x ∧ x ≤ 18446744073709551615 ∧ Lt10 x j ∧ len + j ≤ n + k ∧ n ≤ len ∧ Buf W b wr) (fun t _ _ => (intOf t).toNat)
    case atStart => exact ⟨v, len, k, rfl, rfl, hv0, hv1, hv, by omega, by omega, h⟩
    case round =>
      clear h hv hz hz' hv0 hv1
      obtain ⟨x, n, j, rfl, rfl, hx0, hx1, hj, hn, hnl, hB⟩ := hrel
      by_cases hp : 0 < x
      · obtain ⟨i, rfl⟩ : ∃ i, j = i + 1 := by
          cases j with
          | zero => have := hj.zero; omega
          | succ i => exact ⟨i, rfl⟩
        obtain ⟨m, rfl⟩ : ∃ m, n = m + 1 := ⟨n - 1, by omega⟩
        have hj' := hj.succ
        obtain ⟨y, hy⟩ := hB.2.2.1 m (by omega)
        have zy := hB.2.2.2 m
        go_wp2_with fail
        go_roundw
        case rel => exact ⟨x / 10, m, i, rfl, by go_num, by omega, by omega, hj', by omega, by omega, hB.set m (by omega) _⟩
        case measure => simp [intOf]; omega
      · go_wp2_with fail
        go_ret
        exact ⟨n, rfl, by omega, by omega, hB⟩

set_option maxHeartbeats 400000 in
theorem fmtFrac_any (W : World) (b : Nat) (len prec q : Nat) (v : Int) (w : World) (h : Buf W b w) (hv0 : 0 ≤ v) (hv1 : v ≤ 18446744073709551615) (hv : Lt10 v (prec + q)) (hp : prec + 1 ≤ len) (hl : len ≤ 32) :
    Calls Ybaf.prog 18 #[.slice (some ⟨b, 0, none⟩) len 32, .int .u64 v, .int .i64 prec] w fun e w' => ∃ (n : Nat) (x : Int), e = .returned (.tuple #[.int .i64 n, .int .u64 x]) ∧ len ≤ n + prec + 1 ∧ n ≤ len ∧ 0 ≤ x ∧ x ≤ 18446744073709551615 ∧ Lt10 x q ∧ Buf W b w' := by
  go_enter Ybaf.func18, Ybaf.ntmps18
  go_wp2_with fail
  go_loopw [1, 8, 9, 10] (fun t u p i wr => ∃ (x : Int) (n r c : Nat) (bo : Bool), t = .int .u64 x ∧ u = .int .i64 n ∧ p = .bool bo ∧ i = .int .i64 c ∧ 0 ≤ x ∧ x ≤ 18446744073709551615 ∧ Lt10 x (r + q) ∧ c + r = prec ∧ len ≤ n + c ∧ n ≤ len ∧ Buf W b wr) (fun _ _ _ i _ => prec - (intOf i).toNat)
  case atStart => exact ⟨v, len, prec, 0, false, rfl, rfl, rfl, rfl, hv0, hv1, hv, by omega, by omega, by omega, h⟩
  case round =>
    clear h hv hv0 hv1
    obtain ⟨x, n, r, c, bo, rfl, rfl, rfl, rfl, hx0, hx1, hj, hcr, hn, hnl, hB⟩ := hrel
    by_cases hp' : c < prec
    · obtain ⟨i, rfl⟩ : ∃ i, r = i + 1 := ⟨r - 1, by omega⟩
      have hj' : Lt10 (x / 10) (i + q) := Lt10.succ (by rw [show i + q + 1 = i + 1 + q by omega]; exact hj)
      clear hj
      obtain ⟨m, rfl⟩ : ∃ m, n = m + 1 := ⟨n - 1, by omega⟩
      obtain ⟨y, hy⟩ := hB.2.2.1 m (by omega)
      have zy := hB.2.2.2 m
      have hcp : (c : Int) < prec := by omega
      cases bo
      · by_cases hd : x % 10 = 0
        · have hd' : (x % 10 != 0) = false := by simpa using hd
          clear hd
          go_wp2_with fail
          go_roundw
          case rel => exact ⟨x / 10, m + 1, i, c + 1, false, rfl, by go_num, rfl, by go_num, by omega, by omega, hj', by omega, by omega, by omega, hB⟩
          case measure => simp [intOf]; omega
        · have hd' : (x % 10 != 0) = true := by simpa using hd
          clear hd
          go_wp2_with fail
          go_roundw
          case rel => exact ⟨x / 10, m, i, c + 1, true, rfl, by go_num, rfl, by go_num, by omega, by omega, hj', by omega, by omega, by omega, hB.set m (by omega) _⟩
          case measure => simp [intOf]; omega
      · go_wp2_with fail
        go_roundw
        case rel => exact ⟨x / 10, m, i, c + 1, true, rfl, by go_num, rfl, by go_num, by omega, by omega, hj', by omega, by omega, by omega, hB.set m (by omega) _⟩
        case measure => simp [intOf]; omega
    · obtain rfl : r = 0 := by omega
      have hj' : Lt10 x q := by simpa using hj
      clear hj
      have hcp : ¬ (c : Int) < prec := by omega
      obtain ⟨m, rfl⟩ : ∃ m, n = m + 1 := ⟨n - 1, by omega⟩
      obtain ⟨y, hy⟩ := hB.2.2.1 m (by omega)
      have zy := hB.2.2.2 m
      cases bo
      · go_wp2_with fail
        go_ret2
        exact ⟨m + 1, x, rfl, by omega, by omega, hx0, hx1, hj', hB⟩
      · go_wp2_with fail
        go_ret2
        exact ⟨m, x, rfl, by omega, by omega, hx0, hx1, hj', hB.set m (by omega) _⟩
end Go.Proofs.YbulkyhoFmt.dur
