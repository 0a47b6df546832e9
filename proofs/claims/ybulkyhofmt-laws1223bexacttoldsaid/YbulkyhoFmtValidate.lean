/-
  (Rate).Validate by its contracts: nil, or a new *fmt.wrapError that holds the sentinel. (By an AI agent.)
-/
import Derived.Test.YbulkyhoFmtErrorf
namespace Go.Proofs.YbulkyhoFmt
open Go.RowKit Go.Extern.Stop Go.Stop Go.Extern
set_option linter.unusedVariables false

theorem validate_inf (ev d : Int) (w : World) :
    Calls Ybaf.prog 8 #[.agg #[.int .i64 ev, .int .i64 d, .bool true]] w fun e w' => e = .returned .nilIface ∧ Below w.heap.size w w' := by
  go_enter Ybaf.func8, Ybaf.ntmps8
  go_wp2_with fail
  go_ret
  exact ⟨rfl, (Below.refl _ _).alloc (Nat.le_refl _) _⟩

theorem validate_ok (ev d : Int) (w : World) (he : ¬ ev < 0) (hd : ¬ d ≤ 0) :
    Calls Ybaf.prog 8 #[.agg #[.int .i64 ev, .int .i64 d, .bool false]] w fun e w' => e = .returned .nilIface ∧ Below w.heap.size w w' := by
  go_enter Ybaf.func8, Ybaf.ntmps8
  go_wp2_with fail
  go_ret
  exact ⟨rfl, (Below.refl _ _).alloc (Nat.le_refl _) _⟩

theorem past {w : World} {a : Addr} {v : Value} (h : w.cell? a = some v) (o : Obj) : (w.alloc o).cell? a = some v := by
  have hlt := World.block_lt_of_cell? _ _ h
  rw [← h]
  simp only [World.cell?, World.alloc, Array.getElem?_push, Nat.ne_of_lt hlt, if_false]

theorem cell_second (w : World) (x y : Value) (t : TypeId) : ((w.alloc (.cells #[x, y] t)).drew).cell? ⟨w.heap.size, 0 + 1, none⟩ = some y := by
  rw [World.cell?_drew]
  have h := heap_alloc_new w (.cells #[x, y] t)
  simp only [World.cell?, h]
  rfl
theorem cell_of_new (w : World) (c : Array Value) (t : TypeId) (o : Nat) : (w.alloc (.cells c t)).cell? ⟨w.heap.size, o, none⟩ = c[o]? := by
  have h := heap_alloc_new w (.cells c t)
  simp only [World.cell?, h]
  rfl

set_option maxHeartbeats 800000 in
theorem validate_count (F : Interp) (ev d : Int) (s : ByteArray) (a : Addr) (w : World) (hF : F.answers w.tape) (hd0 : -9223372036854775808 ≤ d) (hd1 : d ≤ 9223372036854775807)
    (hg : w.cell? ⟨0, 0, none⟩ = some (.iface 53 (.pointer (some a)))) (ha : w.cell? a = some (.string s)) (he : ev < 0) :
    Calls Ybaf.prog 8 #[.agg #[.int .i64 ev, .int .i64 d, .bool false]] w fun e w' =>
      ∃ p : Nat, e = .returned (.iface 42 (.pointer (some ⟨p, 0, none⟩))) ∧ Below w.heap.size w w' ∧ w'.cell? ⟨p, 0 + 1, none⟩ = some (.iface 53 (.pointer (some a))) := by
  have hz : 0 < w.heap.size := World.block_lt_of_cell? _ _ hg
  have c := fun o => cell_of_new (w.alloc (.cells #[.int .i64 ev, .int .i64 d, .bool false] 24)) #[.iface 53 (.pointer (some a)), .iface 2 (.int .i64 ev), .iface 22 (.int .i64 d)] 20 o
  have hsz : (w.alloc (.cells #[.int .i64 ev, .int .i64 d, .bool false] 24)).heap.size = w.heap.size + 1 := by simp
  rw [hsz] at c
  have C := errorf_count F ev d s (w.heap.size + 1) a ((w.alloc (.cells #[.int .i64 ev, .int .i64 d, .bool false] 24)).alloc (.cells #[.iface 53 (.pointer (some a)), .iface 2 (.int .i64 ev), .iface 22 (.int .i64 d)] 20))
    hF hd0 hd1 (c 0) (c 1) (c 2) (past (past ha _) _)
  have C' : Hid (Calls Ybaf.prog 10 _ _ _) := C
  clear C c hsz hF
  go_enter Ybaf.func8, Ybaf.ntmps8
  go_wp2_with fail
  refine C'.out.mono ?_
  rintro e w' ⟨w₃, t, hb, rfl, rfl⟩
  have hb0 : Below w.heap.size w w₃ := (((Below.refl _ _).alloc (Nat.le_refl _) _).alloc (by simp) _).trans (hb.mono (by simp; omega))
  clear C' hb
  go_wp2_with fail
  go_ret
  exact ⟨w₃.heap.size, rfl, (hb0.alloc hb0.size _).drew, cell_second _ _ _ _⟩

set_option maxHeartbeats 800000 in
theorem validate_period (F : Interp) (ev d : Int) (s : ByteArray) (a : Addr) (w : World) (hF : F.answers w.tape) (hd0 : -9223372036854775808 ≤ d) (hd1 : d ≤ 9223372036854775807)
    (hg : w.cell? ⟨0, 0, none⟩ = some (.iface 53 (.pointer (some a)))) (ha : w.cell? a = some (.string s)) (he : ¬ ev < 0) (hd : d ≤ 0) :
    Calls Ybaf.prog 8 #[.agg #[.int .i64 ev, .int .i64 d, .bool false]] w fun e w' =>
      ∃ p : Nat, e = .returned (.iface 42 (.pointer (some ⟨p, 0, none⟩))) ∧ Below w.heap.size w w' ∧ w'.cell? ⟨p, 0 + 1, none⟩ = some (.iface 53 (.pointer (some a))) := by
  have hz : 0 < w.heap.size := World.block_lt_of_cell? _ _ hg
  have c := fun o => cell_of_new (w.alloc (.cells #[.int .i64 ev, .int .i64 d, .bool false] 24)) #[.iface 53 (.pointer (some a)), .iface 2 (.int .i64 ev), .iface 22 (.int .i64 d)] 20 o
  have hsz : (w.alloc (.cells #[.int .i64 ev, .int .i64 d, .bool false] 24)).heap.size = w.heap.size + 1 := by simp
  rw [hsz] at c
  have C := errorf_period F ev d s (w.heap.size + 1) a ((w.alloc (.cells #[.int .i64 ev, .int .i64 d, .bool false] 24)).alloc (.cells #[.iface 53 (.pointer (some a)), .iface 2 (.int .i64 ev), .iface 22 (.int .i64 d)] 20))
    hF hd0 hd1 (c 0) (c 1) (c 2) (past (past ha _) _)
  have C' : Hid (Calls Ybaf.prog 10 _ _ _) := C
  clear C c hsz hF
  go_enter Ybaf.func8, Ybaf.ntmps8
  go_wp2_with fail
  refine C'.out.mono ?_
  rintro e w' ⟨w₃, t, hb, rfl, rfl⟩
  have hb0 : Below w.heap.size w w₃ := (((Below.refl _ _).alloc (Nat.le_refl _) _).alloc (by simp) _).trans (hb.mono (by simp; omega))
  clear C' hb
  go_wp2_with fail
  go_ret
  exact ⟨w₃.heap.size, rfl, (hb0.alloc hb0.size _).drew, cell_second _ _ _ _⟩
end Go.Proofs.YbulkyhoFmt
