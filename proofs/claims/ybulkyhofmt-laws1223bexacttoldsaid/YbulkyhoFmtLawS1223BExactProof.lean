/-
  THE TOLD AND TIED CARD OF idle-tap's LawS1223BExact ('Rows.LawS1223BExactToldSaid'), PROVED. After the guide's PortTold.lean, PortSeven.lean (told and tied) and SentryProofs.lean (a sentinel that is listed; a bool result). The tie is the given one (YbulkyhoFmtTie.lean). (By an AI agent.)
-/
import Derived.Test.YbulkyhoFmtLaw
import Derived.Test.YbulkyhoFmtTie
import Derived.Test.YbulkyhoFmtCards
import Derived.ProofKit
import Derived.OpenShut
import Derived.Stop.JoinedAt
import Derived.Stop.Texts
import Derived.Stop.JoinedTold
import Derived.Stop.LaidErr
import Derived.WalkSmall
namespace Go.Proofs.YbulkyhoFmt.lawS1223BExact
open Go.ChangeShapes Go.WideShapes Go.ChangeAt Go.RowKit Go.Kit
open Go.Extern.Stop Go.Stop Go.Extern
set_option linter.unusedVariables false

theorem own : ownKnob Ybaf.prog.godebug = none := by kernel_rfl
theorem laidOut : laidOutB Ybaf.pinned.checked.prog = true := by kernel_rfl
theorem stops : Ybaf.pinned.checked.prog.stops = Rows.lawS1223BExactRow.stops := by kernel_rfl
theorem stopKnobs : Ybaf.pinned.checked.prog.stopKnobs = [] := by kernel_rfl
theorem quiet (os : Os) : Stop.quiet Ybaf.pinned.checked.prog os := by
  intro k hk
  rw [stopKnobs] at hk
  cases hk

/-- The sentinel's name, off the given row; its number; its type. -/
def errVar : String := Rows.lawS1223BExactSpec.vars.headD ""
theorem gE : Ybaf.prog.globalNamed errVar = some 0 := by kernel_rfl
theorem gType : (Ybaf.prog.globals[0]?).map (·.type) = some 29 := by kernel_rfl
theorem cells55 : Ybaf.prog.cellsOf 55 = 1 := by kernel_rfl
theorem cells9 : Ybaf.prog.cellsOf 9 = 1 := by kernel_rfl
theorem row53 (u : TypeId) (h : Ybaf.prog.typeName? 3 u = some Ybaf.t53.str) : u = 53 :=
  typeName_ptr_named (nm := "errors.errorString") (by kernel_rfl) (by kernel_rfl) (by decide) u (h.trans (congrArg some (by kernel_rfl)))

/-- A START THAT FITS: the sentinel laid in a new block, the variable pointing at it. -/
theorem laid_met (os : Os) (args : Array Value) : laidMet Ybaf.prog Rows.lawS1223BExactRow.laid
    (({ World.holding Ybaf.prog os ⟨#[.cells #[.string ⟨#[105, 100, 108, 101, 116, 97, 112, 58, 32, 105, 110, 118, 97, 108, 105, 100, 32, 114, 97, 116, 101]⟩] 55], #[], []⟩ with
        heap := (World.holding Ybaf.prog os ⟨#[.cells #[.string ⟨#[105, 100, 108, 101, 116, 97, 112, 58, 32, 105, 110, 118, 97, 108, 105, 100, 32, 114, 97, 116, 101]⟩] 55], #[], []⟩).heap.modify 0 fun
          | .cells _ t frozen => .cells #[.iface 53 (.pointer (some ⟨(World.holding Ybaf.prog default ⟨#[], #[], []⟩).heap.size, 0, none⟩))] t frozen
          | o => o } : World).forCall (fun _ _ => 0) ⟨#[], args, []⟩).memory :=
  laidMet_of_run (ps := [.cell 0 0, .cell (World.holding Ybaf.prog default ⟨#[], #[], []⟩).heap.size 0]) 8 (by kernel_rfl) (by kernel_rfl) (by kernel_rfl)

set_option maxRecDepth 100000 in
set_option maxHeartbeats 1000000 in
theorem lifted (os : Os) (started : os.Started) (H : Type) (enc : TypeId × Value → H) :
    ReturnsInTold none {} Ybaf.checked os 3 .any Input.okWide ((OpenSpec.ofChange Rows.lawS1223BExactSpec).preRow enc Ybaf.prog Ybaf.f3 Rows.lawS1223BExactRow.domain false Rows.lawS1223BExactRow.laid) (fun F => ((OpenSpec.ofChange Rows.lawS1223BExactSpec).at F).post enc Ybaf.prog Ybaf.f3 false true false false) (aloneAtReturn Ybaf.prog) nothingAlways := by
  refine returnsInTold_of_row (C := Ybaf.checked) (s := OpenSpec.ofChange Rows.lawS1223BExactSpec) (by kernel_rfl) own started (by kernel_rfl) Ybaf.func3
    (OpenSpec.witness_stopped_at (enc := enc) (C := Ybaf.checked) false
      ({ World.holding Ybaf.prog os ⟨#[.cells #[.string ⟨#[105, 100, 108, 101, 116, 97, 112, 58, 32, 105, 110, 118, 97, 108, 105, 100, 32, 114, 97, 116, 101]⟩] 55], #[], []⟩ with
        heap := (World.holding Ybaf.prog os ⟨#[.cells #[.string ⟨#[105, 100, 108, 101, 116, 97, 112, 58, 32, 105, 110, 118, 97, 108, 105, 100, 32, 114, 97, 116, 101]⟩] 55], #[], []⟩).heap.modify 0 fun
          | .cells _ t frozen => .cells #[.iface 53 (.pointer (some ⟨(World.holding Ybaf.prog default ⟨#[], #[], []⟩).heap.size, 0, none⟩))] t frozen
          | o => o } : World) #[.int .u8 0, .int .i64 0, .int .i64 0] rfl (by kernel_rfl) (by kernel_rfl) (by kernel_rfl)
      (OpenSpec.preRow_of_B rfl 8 (by kernel_rfl) (by kernel_rfl) (laid_met os _))) ?_
  intro F W base args ds gs before _ hF hval0 hW _ _ _ hL _
  have hval : ∀ (j : Nat) t v, Ybaf.f3.params[j]? = some t → args[j]? = some v → Value.okWide Ybaf.prog W .any base t v := hval0
  have hW' := hW
  obtain ⟨p, q, hA0, hV0, rfl, _, _⟩ := hW
  have hA : DataW.TrodAll enc Ybaf.prog W 0 (fun _ => true) true Ybaf.f3.params.toList args.toList ds p := hA0
  have hV : DataW.TrodVars enc Ybaf.prog W (fun _ => true) [errVar] gs q := hV0
  rw [Ybaf.params3] at hA hval
  obtain ⟨v0, v1, v2, d0, d1, d2, p0, p1, p2, rfl, rfl, rfl, h0, h1, h2⟩ := trodAll_three hA
  obtain ⟨a0, rfl, rfl, rfl, w0⟩ := open_int Ybaf.underlying5 (hval 0 5 v0 rfl rfl) h0
  obtain ⟨a1, rfl, rfl, rfl, w1⟩ := open_int Ybaf.underlying2 (hval 1 2 v1 rfl rfl) h1
  obtain ⟨a2, rfl, rfl, rfl, w2⟩ := open_int Ybaf.underlying2 (hval 2 2 v2 rfl rfl) h2
  have hL' : laidMet Ybaf.prog [(errVar, Rows.laid_example_com_idle_tap_idle_tap_ErrInvalidRate)] W := hL
  obtain ⟨a, s, hv, hc, _, _⟩ := laid_sentinel hL' gE gType Ybaf.underlying29 row53 Ybaf.underlying53 Ybaf.underlying55 rfl rfl Ybaf.underlying9 cells55 cells9
  obtain ⟨rfl, rfl⟩ := hV.unique (vars_read1 enc gE gType Ybaf.underlying29 hv trivial _)
  clear hA0 hV0 hval0
  have hg : W.cell? ⟨0, 0, none⟩ = some (.iface 53 (.pointer (some a))) := by simpa using World.var?_cell gE hv 0
  obtain ⟨l0, m0⟩ := bounds_u8 w0
  obtain ⟨l2, m2⟩ := bounds_i64 w2
  refine (law_any F.told a0 a1 a2 s a W l0 m0 l2 m2 hF hg hc).mono ?_
  rintro e W' ⟨rfl, bel⟩
  have e1 : ((OpenSpec.ofChange Rows.lawS1223BExactSpec).at F.told).fn H ([.lit (.int .u8 a0), .lit (.int .i64 a1), .lit (.int .i64 a2)] ++ [tok enc (.iface 53 (.pointer (some a)))]) = { results := [.lit (.bool true)], args := [.lit (.int .u8 a0), .lit (.int .i64 a1), .lit (.int .i64 a2)], vars := [tok enc (.iface 53 (.pointer (some a)))] } := rfl
  refine ⟨_, rfl, _, _, _, [], [], [.cell 0 0], hW', ?_, ?_, ?_, bel.frame _, fun h => by cases h⟩
  · rw [e1]; exact trodAll_mk1 (shut_bool Ybaf.underlying4 true)
  · rw [e1]; exact trodAll_cons_mk (shut_int Ybaf.underlying5 w0) (trodAll_cons_mk (shut_int Ybaf.underlying2 w1) (trodAll_cons_mk (shut_int Ybaf.underlying2 w2) trodAll_mk0))
  · rw [e1]; exact vars_read1 enc gE gType Ybaf.underlying29 (var?_below bel gE (World.block_lt_of_cell? _ _ hg) hv) trivial _

/-- ████ THE STATEMENT ████ -/
theorem proved : Rows.LawS1223BExactToldSaid :=
  Claim7.holds_of_told_tied_any_at .later 3 Ybaf.f3 _ [] [] _ _ _ _ _ (by kernel_rfl) rfl rfl rfl laidOut (by kernel_rfl) rfl ⟨rfl, rfl, rfl, rfl, rfl, rfl, rfl⟩ rfl rfl (by kernel_rfl) (by kernel_rfl) Ybaf.func3 (by kernel_rfl)
    (of_decide_eq_true (by kernel_rfl)) (of_decide_eq_true (by kernel_rfl)) stops.symm rfl stopKnobs.symm (by kernel_rfl)
    (by kernel_rfl) (by kernel_rfl) (by kernel_rfl) (by kernel_rfl) (by kernel_rfl) (by kernel_rfl) (by kernel_rfl) (by kernel_rfl) (by kernel_rfl) rfl (by kernel_rfl) rfl rfl
    rfl rfl
    rfl (by kernel_rfl) (by kernel_rfl) (by kernel_rfl) (by decide) (by kernel_rfl) lawS1223BExact_row_tie
    (OpenClaim.moreEntering_of (by kernel_rfl) (by kernel_rfl) (by kernel_rfl) (by kernel_rfl) (by kernel_rfl) (by kernel_rfl) (by kernel_rfl) (by kernel_rfl) (by kernel_rfl) (by kernel_rfl))
    ⟨_, WideRow.started_initial, quiet _⟩
    (fun os started _ H enc _ => lifted os started H enc)
end Go.Proofs.YbulkyhoFmt.lawS1223BExact
