import Derived.Test.YbulkcpoeNew3
import Derived.Deep.QuietTactic
import Derived.BigQuiet
namespace Go.Proofs.Ybulkcpoe
open Go.RowKit

/-- The station's cells, one by one. -/
theorem cells11 {W : World} {st : Nat} {mm ms : Int} {sl ev : Value} {mb : Nat} (h : W.heap[st]? = some (.cells (stationV mm ms sl ev mb) 41)) :
    W.cell? ⟨st, 0, none⟩ = some (.int .i64 (bound mm 1048576)) ∧ W.cell? ⟨st, 1, none⟩ = some (.int .i64 (bound ms 1000)) ∧ W.cell? ⟨st, 2, none⟩ = some sl ∧ W.cell? ⟨st, 3, none⟩ = some ev ∧ W.cell? ⟨st, 6, none⟩ = some (.map (some mb)) ∧
    W.cell? ⟨st, 7, none⟩ = some (.int .i64 0) ∧ W.cell? ⟨st, 8, none⟩ = some (.int .u64 0) ∧ W.cell? ⟨st, 9, none⟩ = some (.int .u64 0) ∧ W.cell? ⟨st, 10, none⟩ = some (.int .u64 0) := by
  have c : ∀ j, W.cell? ⟨st, j, none⟩ = (stationV mm ms sl ev mb)[j]? := fun j => cell_of_row _ _ _ _ _ _ h
  exact ⟨c 0, c 1, c 2, c 3, c 6, c 7, c 8, c 9, c 10⟩

theorem isnil36 (w : World) (r : Option Nat) : (binOp .eql 36 (.map r) (.map none)).run Yba.prog w = .ok (.bool r.isNone) w := run_eql_map_nil (P := Yba.prog) w 36 _ _ r Yba.underlying36
theorem nofunc (w : World) : (binOp .neq 26 .nilFunc .nilFunc).run Yba.prog w = .ok (.bool false) w := by kernel_rfl
theorem nolen {W : World} {mb : Nat} (h : W.heap[mb]? = some (.map #[] 0)) (nq : Nat) (ty : TypeId) : (Builtin.len_ #[36] ty #[.map (some mb)]).run Yba.prog (W.drewN nq) = .ok (.int .i64 0) (W.drewN nq) := by
  have h' : (W.drewN nq).heap[mb]? = some (.map #[] 0) := h
  simp [Builtin.len_, run_underlying Yba.underlying36, MapKept.run_getObj_map h', goInt, Result.andThen]

theorem make0 (w : World) : (Instr.makeSlice 23 (.int .i64 0) (.int .i64 0)).run Yba.prog w = .ok (.slice (some ⟨w.heap.size, 0, none⟩) 0 0) (w.alloc (.cells #[] 51)) := by kernel_rfl

theorem cfg_long (mm ms n : Int) (nl : Bool) (h : 1024 < n) (w : World) :
    Calls Yba.prog 3 #[.int .i64 mm, .int .i64 ms, .int .u16 n, .bool nl] w fun e w' => e = .returned (.bool true) ∧ Below w.heap.size w w' := by
  go_enter Yba.func3, Yba.ntmps3
  go_wp2
  go_ret
  exact ⟨rfl, Below.refl _ _⟩

set_option maxRecDepth 100000 in
set_option maxHeartbeats 2000000 in
theorem cfg_nil (mm ms : Int) (w : World) :
    Calls Yba.prog 3 #[.int .i64 mm, .int .i64 ms, .int .u16 0, .bool true] w fun e w' => e = .returned (.bool true) ∧ Below w.heap.size w w' := by
  have he := isnil23
  have hm := isnil36
  have hf := nofunc
  go_enter Yba.func3, Yba.ntmps3
  go_wp2_with fail
  refine (new_nil mm ms .nilFunc _).mono ?_
  rintro e w1 ⟨st, mb, rfl, hst, hmb, hB⟩
  obtain ⟨c0, c1, c2, c3, c6, c7, c8, c9, c10⟩ := cells11 hst
  have hlen := fun nq ty => nolen hmb nq ty
  have HB : Hid (Below w.heap.size w w1) := hB
  clear hst hmb hB
  by_cases h1 : mm ≤ 0
  · rw [bound_pos h1] at c0
    by_cases h2 : ms ≤ 0
    · rw [bound_pos h2] at c1
      go_wp2_with fail
      go_quiet (fail)
      go_wp2_with fail
      refine wp_loop_rounds 1 ?_
      rw [rounds_succ]
      go_wp2_with fail
      go_ret
      exact ⟨rfl, below_drewN HB.out _⟩
    · rw [bound_neg h2] at c1
      go_wp2_with fail
      go_quiet (fail)
      go_wp2_with fail
      refine wp_loop_rounds 1 ?_
      rw [rounds_succ]
      go_wp2_with fail
      go_ret
      exact ⟨rfl, below_drewN HB.out _⟩
  · rw [bound_neg h1] at c0
    by_cases h2 : ms ≤ 0
    · rw [bound_pos h2] at c1
      go_wp2_with fail
      go_quiet (fail)
      go_wp2_with fail
      refine wp_loop_rounds 1 ?_
      rw [rounds_succ]
      go_wp2_with fail
      go_ret
      exact ⟨rfl, below_drewN HB.out _⟩
    · rw [bound_neg h2] at c1
      go_wp2_with fail
      go_quiet (fail)
      go_wp2_with fail
      refine wp_loop_rounds 1 ?_
      rw [rounds_succ]
      go_wp2_with fail
      go_ret
      exact ⟨rfl, below_drewN HB.out _⟩

set_option maxRecDepth 100000 in
set_option maxHeartbeats 2000000 in
theorem cfg_empty (mm ms : Int) (w : World) :
    Calls Yba.prog 3 #[.int .i64 mm, .int .i64 ms, .int .u16 0, .bool false] w fun e w' => e = .returned (.bool true) ∧ Below w.heap.size w w' := by
  have he := isnil23
  have hm := isnil36
  have hf := nofunc
  have hmk := make0
  go_enter Yba.func3, Yba.ntmps3
  go_wp2_with fail
  refine (new_empty mm ms ⟨w.heap.size, 0, none⟩ 0 _).mono ?_
  rintro e w1 ⟨st, mb, g, rfl, hst, hmb, hB⟩
  obtain ⟨c0, c1, c2, c3, c6, c7, c8, c9, c10⟩ := cells11 hst
  have hlen := fun nq ty => nolen hmb nq ty
  have HB : Hid (Below w.heap.size w w1) := ((Below.refl _ _).alloc (Nat.le_refl _) _).trans (hB.mono (by simp))
  clear hst hmb hB
  by_cases h1 : mm ≤ 0
  · rw [bound_pos h1] at c0
    by_cases h2 : ms ≤ 0
    · rw [bound_pos h2] at c1
      go_wp2_with fail
      go_quiet (fail)
      go_wp2_with fail
      refine wp_loop_rounds 1 ?_
      rw [rounds_succ]
      go_wp2_with fail
      go_ret
      exact ⟨rfl, below_drewN HB.out _⟩
    · rw [bound_neg h2] at c1
      go_wp2_with fail
      go_quiet (fail)
      go_wp2_with fail
      refine wp_loop_rounds 1 ?_
      rw [rounds_succ]
      go_wp2_with fail
      go_ret
      exact ⟨rfl, below_drewN HB.out _⟩
  · rw [bound_neg h1] at c0
    by_cases h2 : ms ≤ 0
    · rw [bound_pos h2] at c1
      go_wp2_with fail
      go_quiet (fail)
      go_wp2_with fail
      refine wp_loop_rounds 1 ?_
      rw [rounds_succ]
      go_wp2_with fail
      go_ret
      exact ⟨rfl, below_drewN HB.out _⟩
    · rw [bound_neg h2] at c1
      go_wp2_with fail
      go_quiet (fail)
      go_wp2_with fail
      refine wp_loop_rounds 1 ?_
      rw [rounds_succ]
      go_wp2_with fail
      go_ret
      exact ⟨rfl, below_drewN HB.out _⟩

end Go.Proofs.Ybulkcpoe
