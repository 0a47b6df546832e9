/-
  THE PROOF OF 'Rows.LawS1223ATwiceSaid': the shell written by program (proof-skeleton.mjs), the walk filled in by an AI agent.
-/
import Derived.Test.YbulkyhoRows
import Derived.WalkKit
import Derived.ProofKit
import Derived.OpenShut
import Derived.ShutString
import Derived.Test.YbulkyhoZero
namespace Go.Proofs.Ybulkyho.lawS1223ATwice
open Go.ChangeShapes Go.WideShapes Go.ChangeAt Go.RowKit
open Go.ChangeMaps (open_string shut_string)
set_option linter.unusedVariables false      -- a walk need not use every 'w<i>' (that an integer argument fits its kind)

theorem own : ownKnob Yba.prog.godebug = none := by kernel_rfl

/-! ### THE PLAIN LAW: no Go in sight -/
theorem twice (j a b m m' f1 f2 old : Int) (hm : m = max b a) (hm' : m' = max a 0) (ha : 0 ≤ a) : pub.want j b m f2 (pub.want j a m' f1 old) = pub.want j b m f2 old := by
  unfold pub.want
  by_cases h1 : j < b
  · simp [h1]
  · by_cases h2 : j < m
    · simp [h1, h2]
    · simp [h1, h2, show ¬ j < a by omega, show ¬ j < m' by omega]

/-! ### STEP 1: THE WALK: the Go text returns true. 'Grown w w'': the world has at most new blocks (Derived/RowKit3.lean). Part the cases AHEAD of 'go_enter' where a test parts the walk; take each callee by a contract of your own. -/
set_option maxHeartbeats 400000 in
theorem walk (a0 : Int) (a1 : Int) (a2 : Int) (a3 : Int) (a4 : Int) (w0 : (Lit.int .i64 a0).wf = true) (w1 : (Lit.int .i64 a1).wf = true) (w2 : (Lit.int .u8 a2).wf = true) (w3 : (Lit.int .u8 a3).wf = true) (w4 : (Lit.int .i64 a4).wf = true) (w : World) :
    Calls Yba.prog 4 #[.int .i64 a0, .int .i64 a1, .int .u8 a2, .int .u8 a3, .int .i64 a4] w fun e w' => e = .returned (.bool true) ∧ Grown w w' := by
  have hb := pub.zero58
  have L0 := pub.lim_zero w
  obtain ⟨l1, m1⟩ := bounds_u8 w2
  obtain ⟨l2, m2⟩ := bounds_u8 w3
  go_enter Yba.func4, Yba.ntmps4
  go_wp2_with fail
  go_loopw [21] (fun i wr => ∃ k : Nat, k ≤ 4 ∧ i = .int .i64 k ∧ pub.Lim w w.heap.size wr 0 0 (pub.laid (fun j => wrap64 (a4 - j)) k)) (fun i _ => 4 - (intOf i).toNat)
  case atStart => exact ⟨0, by omega, rfl, by rw [pub.laid_zero]; exact L0⟩
  case round =>
    clear hb L0
    obtain ⟨k, hk, rfl, hL⟩ := hrel
    by_cases hk4 : k < 4
    · have ck := hL.2.2.2.2.1 k hk4
      have zk := hL.2.2.2.2.2 (77 + k * 57)
      go_wp2_with fail
      refine (pub.store_any _ _ _ _ ck zk).mono ?_
      rintro e w' ⟨rfl, rfl⟩
      have hL' := hL.setWord k hk4 (wrap64 (a4 - k)) _ (fun j _ => pub.laid_succ (fun j => wrap64 (a4 - j)) k j)
      clear hL ck zk
      go_wp2_with fail
      go_roundw
      case rel => exact ⟨k + 1, by omega, by go_num, hL'⟩
      case measure => simp [intOf]; omega
    · obtain rfl : k = 4 := by omega
      have L1 := hL.ext (fun j hj => pub.laid_four hj)
      clear hL
      have p1 : 0 ≤ a2 % 5 := by omega
      have q1 : a2 % 5 ≤ 4 := by omega
      have p2 : 0 ≤ a3 % 5 := by omega
      have q2 : a3 % 5 ≤ 4 := by omega
      have cu := L1.2.2.2.1
      have zu := L1.2.2.2.2.2 315
      have L2 := L1.setFu 0
      go_wp2_with fail
      refine (pub.publish_any w w.heap.size _ 0 0 _ a0 (a2 % 5) (max (a2 % 5) 0) L2 p1 q1 (by decide) (by decide) rfl).mono ?_
      rintro e w2 ⟨rfl, L3⟩
      clear L1 L2 cu zu
      go_wp2_with fail
      refine (pub.publish_any w w.heap.size w2 (a2 % 5) (a2 % 5) _ a1 (a3 % 5) (max (a3 % 5) (a2 % 5)) L3 p2 q2 p1 q1 rfl).mono ?_
      rintro e w3 ⟨rfl, L3'⟩
      have L4 := L3'.ext (fun j _ => twice j (a2 % 5) (a3 % 5) (max (a3 % 5) (a2 % 5)) (max (a2 % 5) 0) a0 a1 (wrap64 (a4 - j)) rfl rfl p1)
      clear L3 L3'
      have cs := L4.2.2.1
      have cf := L4.2.2.2.1
      go_wp2_with fail
      refine (pub.load_any _ _ _ cs).mono ?_
      rintro e w4 ⟨rfl, hw4⟩
      subst hw4
      by_cases hlt : a2 % 5 < a3 % 5
      · have em : max (a3 % 5) (a2 % 5) = a3 % 5 := by omega
        rw [em] at L4
        clear em
        go_wp2_with fail
        go_loop [73] (fun i => ∃ k : Nat, k ≤ 4 ∧ i = .int .i64 k) (fun i => 4 - (intOf i).toNat)
        case atStart => exact ⟨0, by omega, rfl⟩
        case round =>
          obtain ⟨k, hk, rfl⟩ := hrel
          by_cases hk4 : k < 4
          · have ck : w4.cell? ⟨w.heap.size, 77 + k * 57, none⟩ = some (.int .i64 (pub.want k (a3 % 5) (a3 % 5) a1 (wrap64 (a4 - k)))) := L4.2.2.2.2.1 k hk4
            go_wp2_with fail
            refine (pub.load_any _ _ _ ck).mono ?_
            rintro e w5 ⟨rfl, hw5⟩
            subst hw5
            go_wp2_with fail
            refine (pub.want_any _ _ _ _ _ _).mono ?_
            rintro e w6 ⟨rfl, hw6⟩
            subst hw6
            go_wp2_with fail
            go_round
            case rel => exact ⟨k + 1, by omega, by go_num⟩
            case measure => simp [intOf]; omega
          · go_wp2_with fail
            go_ret
            exact ⟨rfl, L4.2.1⟩
      · have em : max (a3 % 5) (a2 % 5) = a2 % 5 := by omega
        rw [em] at L4
        clear em
        go_wp2_with fail
        go_loop [73] (fun i => ∃ k : Nat, k ≤ 4 ∧ i = .int .i64 k) (fun i => 4 - (intOf i).toNat)
        case atStart => exact ⟨0, by omega, rfl⟩
        case round =>
          obtain ⟨k, hk, rfl⟩ := hrel
          by_cases hk4 : k < 4
          · have ck : w4.cell? ⟨w.heap.size, 77 + k * 57, none⟩ = some (.int .i64 (pub.want k (a3 % 5) (a2 % 5) a1 (wrap64 (a4 - k)))) := L4.2.2.2.2.1 k hk4
            go_wp2_with fail
            refine (pub.load_any _ _ _ ck).mono ?_
            rintro e w5 ⟨rfl, hw5⟩
            subst hw5
            go_wp2_with fail
            refine (pub.want_any _ _ _ _ _ _).mono ?_
            rintro e w6 ⟨rfl, hw6⟩
            subst hw6
            go_wp2_with fail
            go_round
            case rel => exact ⟨k + 1, by omega, by go_num⟩
            case measure => simp [intOf]; omega
          · go_wp2_with fail
            go_ret
            exact ⟨rfl, L4.2.1⟩

/-! ### THE ROW's STEP: WRITTEN OUT: LEAVE IT -/
set_option maxRecDepth 100000 in
theorem lifted (os : Os) (started : os.Started) (H : Type) (enc : TypeId × Value → H) :
    ReturnsInHanded {} Yba.checked os 4 .any (Rows.lawS1223ATwiceSpec.pre6 enc Yba.prog Yba.f4 Rows.lawS1223ATwiceRow.domain false) (Rows.lawS1223ATwiceSpec.post enc Yba.prog Yba.f4 false true false false) := by
  refine returnsInHanded_of_change (C := Yba.checked) own started (by kernel_rfl) Yba.func4
    (ChangeSpec.witness6 (enc := enc) (C := Yba.checked) false ⟨#[], #[.int .i64 0, .int .i64 0, .int .u8 0, .int .u8 0, .int .i64 0], []⟩ 8 (by kernel_rfl) (by kernel_rfl) (by kernel_rfl) (by kernel_rfl)) ?_
  intro W base args ds gs before hval0 hW hcnd _
  have hval : ∀ (j : Nat) t v, Yba.f4.params[j]? = some t → args[j]? = some v → Value.okWide Yba.prog W .any base t v := hval0
  have hW' := hW
  obtain ⟨p, q, hA0, hV, rfl, hfz, hnd⟩ := hW
  have hA : DataW.TrodAll enc Yba.prog W 0 (fun _ => true) true Yba.f4.params.toList args.toList ds p := hA0
  rw [Yba.params4] at hA hval
  obtain ⟨v0, vs0, d0, ds0, p0, q0, hargs, rfl, rfl, h0, r0⟩ := trodAll_cons hA
  obtain ⟨v1, vs1, d1, ds1, p1, q1, rfl, rfl, rfl, h1, r1⟩ := trodAll_cons r0
  obtain ⟨v2, vs2, d2, ds2, p2, q2, rfl, rfl, rfl, h2, r2⟩ := trodAll_cons r1
  obtain ⟨v3, vs3, d3, ds3, p3, q3, rfl, rfl, rfl, h3, r3⟩ := trodAll_cons r2
  obtain ⟨v4, vs4, d4, ds4, p4, q4, rfl, rfl, rfl, h4, r4⟩ := trodAll_cons r3
  obtain ⟨rfl, rfl, rfl⟩ := trodAll_nil r4
  obtain rfl : args = #[v0, v1, v2, v3, v4] := by cases args; simp_all
  obtain ⟨rfl, rfl⟩ := trodVars_none hV
  obtain ⟨a0, rfl, rfl, rfl, w0⟩ := open_int Yba.underlying2 (hval 0 2 v0 rfl rfl) h0
  obtain ⟨a1, rfl, rfl, rfl, w1⟩ := open_int Yba.underlying2 (hval 1 2 v1 rfl rfl) h1
  obtain ⟨a2, rfl, rfl, rfl, w2⟩ := open_int Yba.underlying5 (hval 2 5 v2 rfl rfl) h2
  obtain ⟨a3, rfl, rfl, rfl, w3⟩ := open_int Yba.underlying5 (hval 3 5 v3 rfl rfl) h3
  obtain ⟨a4, rfl, rfl, rfl, w4⟩ := open_int Yba.underlying2 (hval 4 2 v4 rfl rfl) h4
  clear hA0 hval0
  simp only [List.append_nil] at hW'
  refine (walk a0 a1 a2 a3 a4 w0 w1 w2 w3 w4 W).mono fun e W' ⟨he, hg⟩ => ?_
  subst he
  exact ⟨_, rfl, post_of_same (pa := []) (pv := []) hW' (fun _ _ _ => (trodAll_cons_mk (shut_bool Yba.underlying4 _) trodAll_mk0)) (fun sp _ => (trodAll_cons_mk (shut_int Yba.underlying2 w0) (trodAll_cons_mk (shut_int Yba.underlying2 w1) (trodAll_cons_mk (shut_int Yba.underlying5 w2) (trodAll_cons_mk (shut_int Yba.underlying5 w3) (trodAll_cons_mk (shut_int Yba.underlying2 w4) trodAll_mk0)))))) (fun _ _ => rfl) rfl
    (hg.frame _) hg.2.1 (ok_one (by kernel_rfl) rfl (okWide_bool_mk Yba.underlying4 _))⟩

theorem over : Rows.lawS1223ATwiceRow.holds Yba.pinned (OpenSpec.ofChange Rows.lawS1223ATwiceSpec) :=
  OpenClaim.holds_of_wide 4 Yba.f4 rfl rfl rfl rfl rfl rfl rfl ⟨rfl, rfl, rfl, rfl, rfl⟩ rfl rfl rfl rfl rfl (by kernel_rfl) Yba.func4 (by kernel_rfl)
    (of_decide_eq_true (by kernel_rfl)) (by unfold Func.isWrapper; first | (rw [if_pos (by decide +kernel)]; kernel_rfl) | (rw [if_neg (by decide +kernel)]; exact ⟨rfl, rfl⟩))
    (fun os started H enc _ => lifted os started H enc)

/-- ████ THE STATEMENT ████ -/
theorem proved : Rows.LawS1223ATwiceSaid :=
  over
end Go.Proofs.Ybulkyho.lawS1223ATwice
