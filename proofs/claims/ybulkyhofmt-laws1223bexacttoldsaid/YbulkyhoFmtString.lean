/-
  (time.Duration).String by its contract: some string; nothing that was there has turned. (By an AI agent.)
-/
import Derived.Test.YbulkyhoFmtFormat
namespace Go.Proofs.YbulkyhoFmt.dur
open Go.RowKit
set_option linter.unusedVariables false
theorem format_any (W : World) (b : Nat) (d : Int) (w : World) (h : Buf W b w) (h0 : -9223372036854775808 ≤ d) (h1 : d ≤ 9223372036854775807) :
    Calls Ybaf.prog 17 #[.int .i64 d, .pointer (some ⟨b, 0, none⟩)] w fun e w' => ∃ n : Nat, e = .returned (.int .i64 n) ∧ n ≤ 31 ∧ Buf W b w' := by
  by_cases hd : d < 0
  · exact format_neg W b d w h h0 hd
  · exact format_pos W b d w h (by omega) h1

theorem buf_new (w : World) : Buf w w.heap.size (w.alloc (.cells #[.int .u8 0, .int .u8 0, .int .u8 0, .int .u8 0, .int .u8 0, .int .u8 0, .int .u8 0, .int .u8 0, .int .u8 0, .int .u8 0, .int .u8 0, .int .u8 0, .int .u8 0, .int .u8 0, .int .u8 0, .int .u8 0, .int .u8 0, .int .u8 0, .int .u8 0, .int .u8 0, .int .u8 0, .int .u8 0, .int .u8 0, .int .u8 0, .int .u8 0, .int .u8 0, .int .u8 0, .int .u8 0, .int .u8 0, .int .u8 0, .int .u8 0, .int .u8 0] 56)) := by
  have h := heap_alloc_new w (.cells #[.int .u8 0, .int .u8 0, .int .u8 0, .int .u8 0, .int .u8 0, .int .u8 0, .int .u8 0, .int .u8 0, .int .u8 0, .int .u8 0, .int .u8 0, .int .u8 0, .int .u8 0, .int .u8 0, .int .u8 0, .int .u8 0, .int .u8 0, .int .u8 0, .int .u8 0, .int .u8 0, .int .u8 0, .int .u8 0, .int .u8 0, .int .u8 0, .int .u8 0, .int .u8 0, .int .u8 0, .int .u8 0, .int .u8 0, .int .u8 0, .int .u8 0, .int .u8 0] 56)
  refine ⟨Nat.le_refl _, (Below.refl _ _).alloc (Nat.le_refl _) _, fun j hj => ⟨0, ?_⟩, fun o => ?_⟩
  · simp only [World.cell?, h]
    match j, hj with
    | 0, _ => rfl
    | 1, _ => rfl
    | 2, _ => rfl
    | 3, _ => rfl
    | 4, _ => rfl
    | 5, _ => rfl
    | 6, _ => rfl
    | 7, _ => rfl
    | 8, _ => rfl
    | 9, _ => rfl
    | 10, _ => rfl
    | 11, _ => rfl
    | 12, _ => rfl
    | 13, _ => rfl
    | 14, _ => rfl
    | 15, _ => rfl
    | 16, _ => rfl
    | 17, _ => rfl
    | 18, _ => rfl
    | 19, _ => rfl
    | 20, _ => rfl
    | 21, _ => rfl
    | 22, _ => rfl
    | 23, _ => rfl
    | 24, _ => rfl
    | 25, _ => rfl
    | 26, _ => rfl
    | 27, _ => rfl
    | 28, _ => rfl
    | 29, _ => rfl
    | 30, _ => rfl
    | 31, _ => rfl
    | k + 32, hk => omega
  · simp only [World.frozen?, h]
    simp

theorem Buf.list {W w : World} {b : Nat} (h : Buf W b w) (n : Nat) : ∀ m, n + m ≤ 32 → ∃ xs : List Int, xs.length = m ∧ ∀ i, i < m → w.cell? ⟨b, n + i, none⟩ = some (.int .u8 (xs.getD i 0)) := by
  intro m
  induction m with
  | zero => exact fun _ => ⟨[], rfl, fun i hi => by omega⟩
  | succ m ih =>
    intro hm
    obtain ⟨xs, hl, hx⟩ := ih (by omega)
    obtain ⟨x, hc⟩ := h.2.2.1 (n + m) (by omega)
    refine ⟨xs ++ [x], by simp [hl], fun i hi => ?_⟩
    by_cases e : i = m
    · subst e
      rw [hc]
      simp [List.getD, hl]
    · rw [hx i (by omega)]
      simp [List.getD, List.getElem?_append_left (show i < xs.length by omega)]

set_option maxHeartbeats 400000 in
theorem string_any (d : Int) (w : World) (h0 : -9223372036854775808 ≤ d) (h1 : d ≤ 9223372036854775807) :
    Calls Ybaf.prog 15 #[.int .i64 d] w fun e w' => ∃ s : ByteArray, e = .returned (.string s) ∧ Below w.heap.size w w' := by
  go_enter Ybaf.func15, Ybaf.ntmps15
  go_wp2_with fail
  refine (format_any w w.heap.size d _ (buf_new w) h0 h1).mono ?_
  rintro e w2 ⟨n, rfl, hn, hB⟩
  obtain ⟨xs, hl, hx⟩ := hB.list n (32 - n) (by omega)
  have hsl := sliceFrom w.heap.size n hn
  have hcv := run_convert_bytes_arg (P := Ybaf.prog) w2 59 5 Ybaf.underlying59 Ybaf.underlying5 w.heap.size n (32 - n) (32 - n) xs hl hx 9 Ybaf.underlying9
  have hbel := hB.2.1
  clear hB hx
  go_wp2_with fail
  go_ret
  exact ⟨_, rfl, hbel⟩
end Go.Proofs.YbulkyhoFmt.dur
