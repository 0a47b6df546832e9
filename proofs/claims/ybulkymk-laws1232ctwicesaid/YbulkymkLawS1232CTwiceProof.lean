/-
  THE PROOF OF 'Rows.LawS1232CTwiceSaid': the shell written by program (proof-skeleton.mjs), the walk filled in by an AI agent.
-/
import Derived.Test.YbulkymkRows
import Derived.WalkKit
import Derived.ProofKit
import Derived.OpenShut
import Derived.ShutString
import Derived.Test.YbulkymkHold
namespace Go.Proofs.Ybulkymk.lawS1232CTwice
open Go.ChangeShapes Go.WideShapes Go.ChangeAt Go.RowKit
open Go.ChangeMaps (open_string shut_string)
set_option linter.unusedVariables false      -- a walk need not use every 'w<i>' (that an integer argument fits its kind)

theorem own : ownKnob Yba.prog.godebug = none := by kernel_rfl

/-! ### EACH WAY BY ITSELF -/
theorem out_0 (a0 a1 a2 a3 a4 : Int) (w : World) (c0 : a0 < -1099511627776) :
    Calls Yba.prog 3 #[.int .i64 a0, .int .i64 a1, .int .i64 a2, .int .u32 a3, .int .u32 a4] w fun e w' => e = .returned (.bool true) ∧ Grown w w' := by
  go_enter Yba.func3, Yba.ntmps3
  go_wp2_with fail
  go_ret
  exact ⟨rfl, Grown.refl _⟩

theorem out_1 (a0 a1 a2 a3 a4 : Int) (w : World) (c0 : ¬ a0 < -1099511627776) (c1 : 1099511627776 < a0) :
    Calls Yba.prog 3 #[.int .i64 a0, .int .i64 a1, .int .i64 a2, .int .u32 a3, .int .u32 a4] w fun e w' => e = .returned (.bool true) ∧ Grown w w' := by
  go_enter Yba.func3, Yba.ntmps3
  go_wp2_with fail
  go_ret
  exact ⟨rfl, Grown.refl _⟩

theorem out_2 (a0 a1 a2 a3 a4 : Int) (w : World) (c0 : ¬ a0 < -1099511627776) (c1 : ¬ 1099511627776 < a0) (c2 : a1 < -1099511627776) :
    Calls Yba.prog 3 #[.int .i64 a0, .int .i64 a1, .int .i64 a2, .int .u32 a3, .int .u32 a4] w fun e w' => e = .returned (.bool true) ∧ Grown w w' := by
  go_enter Yba.func3, Yba.ntmps3
  go_wp2_with fail
  go_ret
  exact ⟨rfl, Grown.refl _⟩

theorem out_3 (a0 a1 a2 a3 a4 : Int) (w : World) (c0 : ¬ a0 < -1099511627776) (c1 : ¬ 1099511627776 < a0) (c2 : ¬ a1 < -1099511627776) (c3 : 1099511627776 < a1) :
    Calls Yba.prog 3 #[.int .i64 a0, .int .i64 a1, .int .i64 a2, .int .u32 a3, .int .u32 a4] w fun e w' => e = .returned (.bool true) ∧ Grown w w' := by
  go_enter Yba.func3, Yba.ntmps3
  go_wp2_with fail
  go_ret
  exact ⟨rfl, Grown.refl _⟩

theorem out_4 (a0 a1 a2 a3 a4 : Int) (w : World) (c0 : ¬ a0 < -1099511627776) (c1 : ¬ 1099511627776 < a0) (c2 : ¬ a1 < -1099511627776) (c3 : ¬ 1099511627776 < a1) (c4 : a2 < -1099511627776) :
    Calls Yba.prog 3 #[.int .i64 a0, .int .i64 a1, .int .i64 a2, .int .u32 a3, .int .u32 a4] w fun e w' => e = .returned (.bool true) ∧ Grown w w' := by
  go_enter Yba.func3, Yba.ntmps3
  go_wp2_with fail
  go_ret
  exact ⟨rfl, Grown.refl _⟩

theorem out_5 (a0 a1 a2 a3 a4 : Int) (w : World) (c0 : ¬ a0 < -1099511627776) (c1 : ¬ 1099511627776 < a0) (c2 : ¬ a1 < -1099511627776) (c3 : ¬ 1099511627776 < a1) (c4 : ¬ a2 < -1099511627776) (c5 : 1099511627776 < a2) :
    Calls Yba.prog 3 #[.int .i64 a0, .int .i64 a1, .int .i64 a2, .int .u32 a3, .int .u32 a4] w fun e w' => e = .returned (.bool true) ∧ Grown w w' := by
  go_enter Yba.func3, Yba.ntmps3
  go_wp2_with fail
  go_ret
  exact ⟨rfl, Grown.refl _⟩

set_option maxHeartbeats 1000000 in
theorem in_yy (a0 a1 a2 a3 a4 : Int) (w : World) (c0 : ¬ a0 < -1099511627776) (c1 : ¬ 1099511627776 < a0) (c2 : ¬ a1 < -1099511627776) (c3 : ¬ 1099511627776 < a1) (c4 : ¬ a2 < -1099511627776) (c5 : ¬ 1099511627776 < a2) (l3 : 0 ≤ a3) (m3 : a3 ≤ 4294967295) (l4 : 0 ≤ a4) (m4 : a4 ≤ 4294967295) (q1 :  a1 + a2 + a3 ≤ a0) (q2 :  a1 + (a2 + a3 + a4) ≤ a0) :
    Calls Yba.prog 3 #[.int .i64 a0, .int .i64 a1, .int .i64 a2, .int .u32 a3, .int .u32 a4] w fun e w' => e = .returned (.bool true) ∧ Grown w w' := by
  have k0 := fun x y z => hold.wk_new w a0 a1 a2 x y z
  go_enter Yba.func3, Yba.ntmps3
  go_wp2_with fail
  refine (hold.hold_yes w w.heap.size _ a0 a1 a2 a3 (k0 _ _ _) (by omega) (by omega) (by omega) (by omega) l3 m3 (by omega)).mono ?_
  rintro e w1 ⟨rfl, k1⟩
  clear k0
  go_wp2_with fail
  refine (hold.hold_yes w w.heap.size _ a0 a1 (a2 + a3) a4 k1 (by omega) (by omega) (by omega) (by omega) l4 m4 (by omega)).mono ?_
  rintro e w2 ⟨rfl, k2⟩
  clear k1
  have d0 := k2.2.2.1
  have d1 := k2.2.2.2.1
  have d2 := k2.2.2.2.2.1
  go_wp2_with fail
  go_ret
  exact ⟨rfl, k2.2.1⟩

set_option maxHeartbeats 1000000 in
theorem in_yn (a0 a1 a2 a3 a4 : Int) (w : World) (c0 : ¬ a0 < -1099511627776) (c1 : ¬ 1099511627776 < a0) (c2 : ¬ a1 < -1099511627776) (c3 : ¬ 1099511627776 < a1) (c4 : ¬ a2 < -1099511627776) (c5 : ¬ 1099511627776 < a2) (l3 : 0 ≤ a3) (m3 : a3 ≤ 4294967295) (l4 : 0 ≤ a4) (m4 : a4 ≤ 4294967295) (q1 :  a1 + a2 + a3 ≤ a0) (q2 : ¬ a1 + (a2 + a3 + a4) ≤ a0) :
    Calls Yba.prog 3 #[.int .i64 a0, .int .i64 a1, .int .i64 a2, .int .u32 a3, .int .u32 a4] w fun e w' => e = .returned (.bool true) ∧ Grown w w' := by
  have k0 := fun x y z => hold.wk_new w a0 a1 a2 x y z
  go_enter Yba.func3, Yba.ntmps3
  go_wp2_with fail
  refine (hold.hold_yes w w.heap.size _ a0 a1 a2 a3 (k0 _ _ _) (by omega) (by omega) (by omega) (by omega) l3 m3 (by omega)).mono ?_
  rintro e w1 ⟨rfl, k1⟩
  clear k0
  go_wp2_with fail
  refine (hold.hold_no w w.heap.size _ a0 a1 (a2 + a3) a4 k1 (by omega) (by omega) (by omega) (by omega) l4 m4 (by omega)).mono ?_
  rintro e w2 ⟨rfl, k2⟩
  clear k1
  have d0 := k2.2.2.1
  have d1 := k2.2.2.2.1
  have d2 := k2.2.2.2.2.1
  go_wp2_with fail
  go_ret
  exact ⟨rfl, k2.2.1⟩

set_option maxHeartbeats 1000000 in
theorem in_nn (a0 a1 a2 a3 a4 : Int) (w : World) (c0 : ¬ a0 < -1099511627776) (c1 : ¬ 1099511627776 < a0) (c2 : ¬ a1 < -1099511627776) (c3 : ¬ 1099511627776 < a1) (c4 : ¬ a2 < -1099511627776) (c5 : ¬ 1099511627776 < a2) (l3 : 0 ≤ a3) (m3 : a3 ≤ 4294967295) (l4 : 0 ≤ a4) (m4 : a4 ≤ 4294967295) (q1 : ¬ a1 + a2 + a3 ≤ a0) (q2 : ¬ a1 + (a2 + a3 + a4) ≤ a0) :
    Calls Yba.prog 3 #[.int .i64 a0, .int .i64 a1, .int .i64 a2, .int .u32 a3, .int .u32 a4] w fun e w' => e = .returned (.bool true) ∧ Grown w w' := by
  have k0 := fun x y z => hold.wk_new w a0 a1 a2 x y z
  go_enter Yba.func3, Yba.ntmps3
  go_wp2_with fail
  refine (hold.hold_no w w.heap.size _ a0 a1 a2 a3 (k0 _ _ _) (by omega) (by omega) (by omega) (by omega) l3 m3 (by omega)).mono ?_
  rintro e w1 ⟨rfl, k1⟩
  clear k0
  go_wp2_with fail
  refine (hold.hold_no w w.heap.size _ a0 a1 (a2 + a3) a4 k1 (by omega) (by omega) (by omega) (by omega) l4 m4 (by omega)).mono ?_
  rintro e w2 ⟨rfl, k2⟩
  clear k1
  have d0 := k2.2.2.1
  have d1 := k2.2.2.2.1
  have d2 := k2.2.2.2.2.1
  go_wp2_with fail
  go_ret
  exact ⟨rfl, k2.2.1⟩

/-! ### STEP 1: THE WALK: the Go text returns true. 'Grown w w'': the world has at most new blocks (Derived/RowKit3.lean). Part the cases AHEAD of 'go_enter' where a test parts the walk; take each callee by a contract of your own. -/
theorem walk (a0 : Int) (a1 : Int) (a2 : Int) (a3 : Int) (a4 : Int) (w0 : (Lit.int .i64 a0).wf = true) (w1 : (Lit.int .i64 a1).wf = true) (w2 : (Lit.int .i64 a2).wf = true) (w3 : (Lit.int .u32 a3).wf = true) (w4 : (Lit.int .u32 a4).wf = true) (w : World) :
    Calls Yba.prog 3 #[.int .i64 a0, .int .i64 a1, .int .i64 a2, .int .u32 a3, .int .u32 a4] w fun e w' => e = .returned (.bool true) ∧ Grown w w' := by
  obtain ⟨l3, m3⟩ := bounds_u32 w3
  obtain ⟨l4, m4⟩ := bounds_u32 w4
  by_cases c0 : a0 < -1099511627776
  · exact out_0 a0 a1 a2 a3 a4 w c0
  by_cases c1 : 1099511627776 < a0
  · exact out_1 a0 a1 a2 a3 a4 w c0 c1
  by_cases c2 : a1 < -1099511627776
  · exact out_2 a0 a1 a2 a3 a4 w c0 c1 c2
  by_cases c3 : 1099511627776 < a1
  · exact out_3 a0 a1 a2 a3 a4 w c0 c1 c2 c3
  by_cases c4 : a2 < -1099511627776
  · exact out_4 a0 a1 a2 a3 a4 w c0 c1 c2 c3 c4
  by_cases c5 : 1099511627776 < a2
  · exact out_5 a0 a1 a2 a3 a4 w c0 c1 c2 c3 c4 c5
  by_cases q2 : a1 + (a2 + a3 + a4) ≤ a0
  · exact in_yy a0 a1 a2 a3 a4 w c0 c1 c2 c3 c4 c5 l3 m3 l4 m4 (by omega) q2
  by_cases q1 : a1 + a2 + a3 ≤ a0
  · exact in_yn a0 a1 a2 a3 a4 w c0 c1 c2 c3 c4 c5 l3 m3 l4 m4 q1 q2
  · exact in_nn a0 a1 a2 a3 a4 w c0 c1 c2 c3 c4 c5 l3 m3 l4 m4 q1 q2

/-! ### THE ROW's STEP: WRITTEN OUT: LEAVE IT -/
set_option maxRecDepth 100000 in
theorem lifted (os : Os) (started : os.Started) (H : Type) (enc : TypeId × Value → H) :
    ReturnsInHanded {} Yba.checked os 3 .any (Rows.lawS1232CTwiceSpec.pre6 enc Yba.prog Yba.f3 Rows.lawS1232CTwiceRow.domain false) (Rows.lawS1232CTwiceSpec.post enc Yba.prog Yba.f3 false true false false) := by
  refine returnsInHanded_of_change (C := Yba.checked) own started (by kernel_rfl) Yba.func3
    (ChangeSpec.witness6 (enc := enc) (C := Yba.checked) false ⟨#[], #[.int .i64 0, .int .i64 0, .int .i64 0, .int .u32 0, .int .u32 0], []⟩ 8 (by kernel_rfl) (by kernel_rfl) (by kernel_rfl) (by kernel_rfl)) ?_
  intro W base args ds gs before hval0 hW hcnd _
  have hval : ∀ (j : Nat) t v, Yba.f3.params[j]? = some t → args[j]? = some v → Value.okWide Yba.prog W .any base t v := hval0
  have hW' := hW
  obtain ⟨p, q, hA0, hV, rfl, hfz, hnd⟩ := hW
  have hA : DataW.TrodAll enc Yba.prog W 0 (fun _ => true) true Yba.f3.params.toList args.toList ds p := hA0
  rw [Yba.params3] at hA hval
  obtain ⟨v0, vs0, d0, ds0, p0, q0, hargs, rfl, rfl, h0, r0⟩ := trodAll_cons hA
  obtain ⟨v1, vs1, d1, ds1, p1, q1, rfl, rfl, rfl, h1, r1⟩ := trodAll_cons r0
  obtain ⟨v2, vs2, d2, ds2, p2, q2, rfl, rfl, rfl, h2, r2⟩ := trodAll_cons r1
  obtain ⟨v3, vs3, d3, ds3, p3, q3, rfl, rfl, rfl, h3, r3⟩ := trodAll_cons r2
  obtain ⟨v4, vs4, d4, ds4, p4, q4, rfl, rfl, rfl, h4, r4⟩ := trodAll_cons r3
  obtain ⟨rfl, rfl, rfl⟩ := trodAll_nil r4
  obtain rfl : args = #[v0, v1, v2, v3, v4] := by cases args; simp_all
  obtain ⟨rfl, rfl⟩ := trodVars_none hV
  obtain ⟨a0, rfl, rfl, rfl, w0⟩ := open_int Yba.underlying2 (hval 0 2 v0 rfl rfl) h0
  obtain ⟨a1, rfl, rfl, rfl, w1⟩ := open_int Yba.underlying2 (hval 1 2 v1 rfl rfl) h1
  obtain ⟨a2, rfl, rfl, rfl, w2⟩ := open_int Yba.underlying2 (hval 2 2 v2 rfl rfl) h2
  obtain ⟨a3, rfl, rfl, rfl, w3⟩ := open_int Yba.underlying22 (hval 3 22 v3 rfl rfl) h3
  obtain ⟨a4, rfl, rfl, rfl, w4⟩ := open_int Yba.underlying22 (hval 4 22 v4 rfl rfl) h4
  clear hA0 hval0
  simp only [List.append_nil] at hW'
  refine (walk a0 a1 a2 a3 a4 w0 w1 w2 w3 w4 W).mono fun e W' ⟨he, hg⟩ => ?_
  subst he
  exact ⟨_, rfl, post_of_same (pa := []) (pv := []) hW' (fun _ _ _ => (trodAll_cons_mk (shut_bool Yba.underlying4 _) trodAll_mk0)) (fun sp _ => (trodAll_cons_mk (shut_int Yba.underlying2 w0) (trodAll_cons_mk (shut_int Yba.underlying2 w1) (trodAll_cons_mk (shut_int Yba.underlying2 w2) (trodAll_cons_mk (shut_int Yba.underlying22 w3) (trodAll_cons_mk (shut_int Yba.underlying22 w4) trodAll_mk0)))))) (fun _ _ => rfl) rfl
    (hg.frame _) hg.2.1 (ok_one (by kernel_rfl) rfl (okWide_bool_mk Yba.underlying4 _))⟩

theorem over : Rows.lawS1232CTwiceRow.holds Yba.pinned (OpenSpec.ofChange Rows.lawS1232CTwiceSpec) :=
  OpenClaim.holds_of_wide 3 Yba.f3 rfl rfl rfl rfl rfl rfl rfl ⟨rfl, rfl, rfl, rfl, rfl⟩ rfl rfl rfl rfl rfl (by kernel_rfl) Yba.func3 (by kernel_rfl)
    (of_decide_eq_true (by kernel_rfl)) (by unfold Func.isWrapper; first | (rw [if_pos (by decide +kernel)]; kernel_rfl) | (rw [if_neg (by decide +kernel)]; exact ⟨rfl, rfl⟩))
    (fun os started H enc _ => lifted os started H enc)

/-- ████ THE STATEMENT ████ -/
theorem proved : Rows.LawS1232CTwiceSaid :=
  over
end Go.Proofs.Ybulkymk.lawS1232CTwice
