/-
  (time.Duration).format by a contract, negative durations and others apart. (By an AI agent.)
-/
import Derived.Test.YbulkyhoFmtDur
import Derived.Deep.Cut
namespace Go.Proofs.YbulkyhoFmt.dur
open Go.RowKit
set_option linter.unusedVariables false
theorem alen : Ybaf.prog.arrayLen 56 = 32 := by kernel_rfl
theorem asz (w : World) : (sizeOf (Ybaf.prog.elem 56)).run Ybaf.prog w = .ok 1 w := by kernel_rfl
theorem aund : Ybaf.prog.underlying 56 = some (.array (Ybaf.prog.arrayLen 56) (Ybaf.prog.elem 56)) := by kernel_rfl
theorem sliceTo (b n : Nat) (hn : n ≤ 32) (w : World) : (Instr.sliceAt 56 (.pointer (some ⟨b, 0, none⟩)) none (some (.int .i64 n)) none).run Ybaf.prog w = .ok (.slice (some ⟨b, 0, none⟩) n 32) w := by
  rw [run_sliceAt_array_h (P := Ybaf.prog) w 56 ⟨b, 0, none⟩ aund .i64 n (by omega) (by rw [alen]; omega), asz]
  simp [slicedAt, alen, Addr.add]
theorem sliceFrom (b n : Nat) (hn : n ≤ 31) (w : World) : (Instr.sliceAt 56 (.pointer (some ⟨b, 0, none⟩)) (some (.int .i64 n)) none none).run Ybaf.prog w = .ok (.slice (some ⟨b, n, none⟩) (32 - n) (32 - n)) w := by
  rw [run_sliceAt_array_l (P := Ybaf.prog) w 56 ⟨b, 0, none⟩ aund .i64 n (by omega) (by rw [alen]; omega), asz]
  simp [slicedAt, alen, Addr.add, show ¬ 32 = n by omega]
  intro h
  exact h.symm
set_option maxHeartbeats 1000000 in
theorem format_neg (W : World) (b : Nat) (d : Int) (w : World) (h : Buf W b w) (h0 : -9223372036854775808 ≤ d) (h1 : d < 0) :
    Calls Ybaf.prog 17 #[.int .i64 d, .pointer (some ⟨b, 0, none⟩)] w fun e w' => ∃ n : Nat, e = .returned (.int .i64 n) ∧ n ≤ 31 ∧ Buf W b w' := by
  have hu : 0 ≤ IntKind.u64.wrap (-IntKind.u64.wrap d) ∧ IntKind.u64.wrap (-IntKind.u64.wrap d) ≤ 9223372036854775808 := by
    simp [IntKind.wrap, IntKind.signed, IntKind.bits]
    omega
  go_enter Ybaf.func17, Ybaf.ntmps17
  go_upto_region 6 with fail
  generalize IntKind.u64.wrap (-IntKind.u64.wrap d) = u at hu ⊢
  obtain ⟨hu0, hu1⟩ := hu

  by_cases c0 : u < 1000000000
  · obtain ⟨y, hy⟩ := h.2.2.1 31 (by omega)
    have zy := h.2.2.2 31
    have B1 := h.set 31 (by omega) 115
    obtain ⟨y1, hy1⟩ := B1.2.2.1 30 (by omega)
    have zy1 := B1.2.2.2 30
    by_cases c1 : u = 0
    · have c1' : (u == 0) = true := by simpa using c1
      clear c1 hu0 hu1
      go_wp2_with fail
      go_ret
      exact ⟨30, rfl, by omega, B1.set 30 (by omega) 48⟩
    · have c1' : (u == 0) = false := by simpa using c1
      clear c1
      by_cases c2 : u < 1000
      · go_wp2_with fail
        refine (fmtFrac_any W b 30 0 3 u _ (B1.set 30 (by omega) 110) hu0 (by omega) (by show u < 10 ^ (0 + 3); omega) (by omega) (by omega)).mono ?_
        rintro e w2 ⟨n, x, rfl, hn1, hn2, hx0, hx1, hxq, B2⟩
        clear h hy zy B1 hy1 zy1
        have hsl := sliceTo b n (by omega)
        go_wp2_with fail
        refine (fmtInt_any W b n 3 x _ B2 hx0 hx1 hxq (by omega) (by omega) (by omega)).mono ?_
        rintro e w3 ⟨m, rfl, hm1, hm2, B3⟩
        clear B2 hsl
        obtain ⟨m', rfl⟩ : ∃ m', m = m' + 1 := ⟨m - 1, by omega⟩
        obtain ⟨y3, hy3⟩ := B3.2.2.1 m' (by omega)
        have zy3 := B3.2.2.2 m'
        go_wp2_with fail
        go_ret
        exact ⟨m', rfl, by omega, B3.set m' (by omega) 45⟩
      · by_cases c3 : u < 1000000
        · have hcp := run_copy_string (P := Ybaf.prog) (w.setCell ⟨b, 31, none⟩ (.int .u8 115)) 59 9 3 5 b 29 3 3 ⟨#[194, 181]⟩ Ybaf.underlying59 (fun w => by kernel_rfl) (by decide)
            (fun j hj => by obtain ⟨z, hz⟩ := B1.2.2.1 (29 + j) (by have : j < 2 := hj; omega); rw [hz]; rfl) (fun j hj => B1.2.2.2 _)
          have BC : Buf W b ((w.setCell ⟨b, 31, none⟩ (.int .u8 115)).setCells b 29 [.int .u8 194, .int .u8 181]) := (B1.set 29 (by omega) 194).set 30 (by omega) 181
          go_wp2_with fail
          refine (fmtFrac_any W b 29 3 3 u _ BC hu0 (by omega) (by show u < 10 ^ (3 + 3); omega) (by omega) (by omega)).mono ?_
          rintro e w2 ⟨n, x, rfl, hn1, hn2, hx0, hx1, hxq, B2⟩
          clear h hy zy B1 hy1 zy1 hcp BC
          have hsl := sliceTo b n (by omega)
          go_wp2_with fail
          refine (fmtInt_any W b n 3 x _ B2 hx0 hx1 hxq (by omega) (by omega) (by omega)).mono ?_
          rintro e w3 ⟨m, rfl, hm1, hm2, B3⟩
          clear B2 hsl
          obtain ⟨m', rfl⟩ : ∃ m', m = m' + 1 := ⟨m - 1, by omega⟩
          obtain ⟨y3, hy3⟩ := B3.2.2.1 m' (by omega)
          have zy3 := B3.2.2.2 m'
          go_wp2_with fail
          go_ret
          exact ⟨m', rfl, by omega, B3.set m' (by omega) 45⟩
        · go_wp2_with fail
          refine (fmtFrac_any W b 30 6 3 u _ (B1.set 30 (by omega) 109) hu0 (by omega) (by show u < 10 ^ (6 + 3); omega) (by omega) (by omega)).mono ?_
          rintro e w2 ⟨n, x, rfl, hn1, hn2, hx0, hx1, hxq, B2⟩
          clear h hy zy B1 hy1 zy1
          have hsl := sliceTo b n (by omega)
          go_wp2_with fail
          refine (fmtInt_any W b n 3 x _ B2 hx0 hx1 hxq (by omega) (by omega) (by omega)).mono ?_
          rintro e w3 ⟨m, rfl, hm1, hm2, B3⟩
          clear B2 hsl
          obtain ⟨m', rfl⟩ : ∃ m', m = m' + 1 := ⟨m - 1, by omega⟩
          obtain ⟨y3, hy3⟩ := B3.2.2.1 m' (by omega)
          have zy3 := B3.2.2.2 m'
          go_wp2_with fail
          go_ret
          exact ⟨m', rfl, by omega, B3.set m' (by omega) 45⟩
  · obtain ⟨y, hy⟩ := h.2.2.1 31 (by omega)
    have zy := h.2.2.2 31
    have B1 := h.set 31 (by omega) 115
    go_wp2_with fail
    refine (fmtFrac_any W b 31 9 10 u _ B1 hu0 (by omega) (by show u < 10 ^ (9 + 10); omega) (by omega) (by omega)).mono ?_
    rintro e w2 ⟨n, x, rfl, hn1, hn2, hx0, hx1, hxq, B2⟩
    have hx2 : x < 10000000000 := hxq
    clear h hy zy B1 hxq
    have hsl := sliceTo b n (by omega)
    go_wp2_with fail
    refine (fmtInt_any W b n 2 (x % 60) _ B2 (by omega) (by omega) (by show x % 60 < 10 ^ 2; omega) (by omega) (by omega) (by omega)).mono ?_
    rintro e w3 ⟨n3, rfl, hm1, hm2, B3⟩
    clear B2 hsl
    by_cases c4 : 0 < x / 60
    · obtain ⟨n4, rfl⟩ : ∃ n4, n3 = n4 + 1 := ⟨n3 - 1, by omega⟩
      obtain ⟨y4, hy4⟩ := B3.2.2.1 n4 (by omega)
      have zy4 := B3.2.2.2 n4
      have B4 := B3.set n4 (by omega) 109
      have hsl := sliceTo b n4 (by omega)
      go_wp2_with fail
      refine (fmtInt_any W b n4 2 (x / 60 % 60) _ B4 (by omega) (by omega) (by show x / 60 % 60 < 10 ^ 2; omega) (by omega) (by omega) (by omega)).mono ?_
      rintro e w5 ⟨n5, rfl, hm5, hm6, B5⟩
      clear B4 B3 hsl hy4 zy4
      by_cases c5 : 0 < x / 60 / 60
      · obtain ⟨n6, rfl⟩ : ∃ n6, n5 = n6 + 1 := ⟨n5 - 1, by omega⟩
        obtain ⟨y6, hy6⟩ := B5.2.2.1 n6 (by omega)
        have zy6 := B5.2.2.2 n6
        have B6 := B5.set n6 (by omega) 104
        have hsl := sliceTo b n6 (by omega)
        go_wp2_with fail
        refine (fmtInt_any W b n6 7 (x / 60 / 60) _ B6 (by omega) (by omega) (by show x / 60 / 60 < 10 ^ 7; omega) (by omega) (by omega) (by omega)).mono ?_
        rintro e w7 ⟨m, rfl, hm7, hm8, B7⟩
        clear B6 B5 hsl hy6 zy6
        obtain ⟨m', rfl⟩ : ∃ m', m = m' + 1 := ⟨m - 1, by omega⟩
        obtain ⟨y3, hy3⟩ := B7.2.2.1 m' (by omega)
        have zy3 := B7.2.2.2 m'
        go_wp2_with fail
        go_ret
        exact ⟨m', rfl, by omega, B7.set m' (by omega) 45⟩
      · obtain ⟨m', rfl⟩ : ∃ m', n5 = m' + 1 := ⟨n5 - 1, by omega⟩
        obtain ⟨y3, hy3⟩ := B5.2.2.1 m' (by omega)
        have zy3 := B5.2.2.2 m'
        go_wp2_with fail
        go_ret
        exact ⟨m', rfl, by omega, B5.set m' (by omega) 45⟩
    · obtain ⟨m', rfl⟩ : ∃ m', n3 = m' + 1 := ⟨n3 - 1, by omega⟩
      obtain ⟨y3, hy3⟩ := B3.2.2.1 m' (by omega)
      have zy3 := B3.2.2.2 m'
      go_wp2_with fail
      go_ret
      exact ⟨m', rfl, by omega, B3.set m' (by omega) 45⟩

set_option maxHeartbeats 1000000 in
theorem format_pos (W : World) (b : Nat) (u : Int) (w : World) (h : Buf W b w) (hu0 : 0 ≤ u) (hu2 : u ≤ 9223372036854775807) :
    Calls Ybaf.prog 17 #[.int .i64 u, .pointer (some ⟨b, 0, none⟩)] w fun e w' => ∃ n : Nat, e = .returned (.int .i64 n) ∧ n ≤ 31 ∧ Buf W b w' := by
  have hu1 : u ≤ 9223372036854775808 := by omega
  go_enter Ybaf.func17, Ybaf.ntmps17
  go_upto_region 6 with fail

  by_cases c0 : u < 1000000000
  · obtain ⟨y, hy⟩ := h.2.2.1 31 (by omega)
    have zy := h.2.2.2 31
    have B1 := h.set 31 (by omega) 115
    obtain ⟨y1, hy1⟩ := B1.2.2.1 30 (by omega)
    have zy1 := B1.2.2.2 30
    by_cases c1 : u = 0
    · have c1' : (u == 0) = true := by simpa using c1
      clear c1 hu0 hu1
      go_wp2_with fail
      go_ret
      exact ⟨30, rfl, by omega, B1.set 30 (by omega) 48⟩
    · have c1' : (u == 0) = false := by simpa using c1
      clear c1
      by_cases c2 : u < 1000
      · go_wp2_with fail
        refine (fmtFrac_any W b 30 0 3 u _ (B1.set 30 (by omega) 110) hu0 (by omega) (by show u < 10 ^ (0 + 3); omega) (by omega) (by omega)).mono ?_
        rintro e w2 ⟨n, x, rfl, hn1, hn2, hx0, hx1, hxq, B2⟩
        clear h hy zy B1 hy1 zy1
        have hsl := sliceTo b n (by omega)
        go_wp2_with fail
        refine (fmtInt_any W b n 3 x _ B2 hx0 hx1 hxq (by omega) (by omega) (by omega)).mono ?_
        rintro e w3 ⟨m, rfl, hm1, hm2, B3⟩
        clear B2 hsl
        go_wp2_with fail
        go_ret
        exact ⟨m, rfl, by omega, B3⟩
      · by_cases c3 : u < 1000000
        · have hcp := run_copy_string (P := Ybaf.prog) (w.setCell ⟨b, 31, none⟩ (.int .u8 115)) 59 9 3 5 b 29 3 3 ⟨#[194, 181]⟩ Ybaf.underlying59 (fun w => by kernel_rfl) (by decide)
            (fun j hj => by obtain ⟨z, hz⟩ := B1.2.2.1 (29 + j) (by have : j < 2 := hj; omega); rw [hz]; rfl) (fun j hj => B1.2.2.2 _)
          have BC : Buf W b ((w.setCell ⟨b, 31, none⟩ (.int .u8 115)).setCells b 29 [.int .u8 194, .int .u8 181]) := (B1.set 29 (by omega) 194).set 30 (by omega) 181
          go_wp2_with fail
          refine (fmtFrac_any W b 29 3 3 u _ BC hu0 (by omega) (by show u < 10 ^ (3 + 3); omega) (by omega) (by omega)).mono ?_
          rintro e w2 ⟨n, x, rfl, hn1, hn2, hx0, hx1, hxq, B2⟩
          clear h hy zy B1 hy1 zy1 hcp BC
          have hsl := sliceTo b n (by omega)
          go_wp2_with fail
          refine (fmtInt_any W b n 3 x _ B2 hx0 hx1 hxq (by omega) (by omega) (by omega)).mono ?_
          rintro e w3 ⟨m, rfl, hm1, hm2, B3⟩
          clear B2 hsl
          go_wp2_with fail
          go_ret
          exact ⟨m, rfl, by omega, B3⟩
        · go_wp2_with fail
          refine (fmtFrac_any W b 30 6 3 u _ (B1.set 30 (by omega) 109) hu0 (by omega) (by show u < 10 ^ (6 + 3); omega) (by omega) (by omega)).mono ?_
          rintro e w2 ⟨n, x, rfl, hn1, hn2, hx0, hx1, hxq, B2⟩
          clear h hy zy B1 hy1 zy1
          have hsl := sliceTo b n (by omega)
          go_wp2_with fail
          refine (fmtInt_any W b n 3 x _ B2 hx0 hx1 hxq (by omega) (by omega) (by omega)).mono ?_
          rintro e w3 ⟨m, rfl, hm1, hm2, B3⟩
          clear B2 hsl
          go_wp2_with fail
          go_ret
          exact ⟨m, rfl, by omega, B3⟩
  · obtain ⟨y, hy⟩ := h.2.2.1 31 (by omega)
    have zy := h.2.2.2 31
    have B1 := h.set 31 (by omega) 115
    go_wp2_with fail
    refine (fmtFrac_any W b 31 9 10 u _ B1 hu0 (by omega) (by show u < 10 ^ (9 + 10); omega) (by omega) (by omega)).mono ?_
    rintro e w2 ⟨n, x, rfl, hn1, hn2, hx0, hx1, hxq, B2⟩
    have hx2 : x < 10000000000 := hxq
    clear h hy zy B1 hxq
    have hsl := sliceTo b n (by omega)
    go_wp2_with fail
    refine (fmtInt_any W b n 2 (x % 60) _ B2 (by omega) (by omega) (by show x % 60 < 10 ^ 2; omega) (by omega) (by omega) (by omega)).mono ?_
    rintro e w3 ⟨n3, rfl, hm1, hm2, B3⟩
    clear B2 hsl
    by_cases c4 : 0 < x / 60
    · obtain ⟨n4, rfl⟩ : ∃ n4, n3 = n4 + 1 := ⟨n3 - 1, by omega⟩
      obtain ⟨y4, hy4⟩ := B3.2.2.1 n4 (by omega)
      have zy4 := B3.2.2.2 n4
      have B4 := B3.set n4 (by omega) 109
      have hsl := sliceTo b n4 (by omega)
      go_wp2_with fail
      refine (fmtInt_any W b n4 2 (x / 60 % 60) _ B4 (by omega) (by omega) (by show x / 60 % 60 < 10 ^ 2; omega) (by omega) (by omega) (by omega)).mono ?_
      rintro e w5 ⟨n5, rfl, hm5, hm6, B5⟩
      clear B4 B3 hsl hy4 zy4
      by_cases c5 : 0 < x / 60 / 60
      · obtain ⟨n6, rfl⟩ : ∃ n6, n5 = n6 + 1 := ⟨n5 - 1, by omega⟩
        obtain ⟨y6, hy6⟩ := B5.2.2.1 n6 (by omega)
        have zy6 := B5.2.2.2 n6
        have B6 := B5.set n6 (by omega) 104
        have hsl := sliceTo b n6 (by omega)
        go_wp2_with fail
        refine (fmtInt_any W b n6 7 (x / 60 / 60) _ B6 (by omega) (by omega) (by show x / 60 / 60 < 10 ^ 7; omega) (by omega) (by omega) (by omega)).mono ?_
        rintro e w7 ⟨m, rfl, hm7, hm8, B7⟩
        clear B6 B5 hsl hy6 zy6
        go_wp2_with fail
        go_ret
        exact ⟨m, rfl, by omega, B7⟩
      · go_wp2_with fail
        go_ret
        exact ⟨n5, rfl, by omega, B5⟩
    · go_wp2_with fail
      go_ret
      exact ⟨n3, rfl, by omega, B3⟩
end Go.Proofs.YbulkyhoFmt.dur
