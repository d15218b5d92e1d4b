import Derived.Test.YbulkcpoeNew1
namespace Go.Proofs.Ybulkcpoe
open Go.RowKit

theorem heap_alloc3 (w : World) (A B C : Obj) : let W := ((w.alloc A).alloc B).alloc C
    W.heap[w.heap.size]? = some A ∧ W.heap[w.heap.size + 1]? = some B ∧ W.heap[w.heap.size + 2]? = some C ∧ W.heap.size = w.heap.size + 3 ∧ Below w.heap.size w W := by
  refine ⟨?_, ?_, ?_, by simp, (((Below.refl _ _).alloc (Nat.le_refl _) _).alloc (by simp) _).alloc (by simp; omega) _⟩
  · show (((w.heap.push A).push B).push C)[w.heap.size]? = _
    simp only [Array.getElem?_push, Array.size_push]
    rw [if_neg (by omega), if_neg (by omega), if_pos trivial]
  · show (((w.heap.push A).push B).push C)[w.heap.size + 1]? = _
    simp only [Array.getElem?_push, Array.size_push]
    rw [if_neg (by omega), if_pos trivial]
  · show (((w.heap.push A).push B).push C)[w.heap.size + 2]? = _
    simp only [Array.getElem?_push, Array.size_push]
    rw [if_pos trivial]

theorem heap_alloc4 (w : World) (A B C D : Obj) : let W := (((w.alloc A).alloc B).alloc C).alloc D
    W.heap[w.heap.size]? = some A ∧ W.heap[w.heap.size + 1]? = some B ∧ W.heap[w.heap.size + 2]? = some C ∧ W.heap[w.heap.size + 3]? = some D ∧ W.heap.size = w.heap.size + 4 ∧ Below w.heap.size w W := by
  refine ⟨?_, ?_, ?_, ?_, by simp, ((((Below.refl _ _).alloc (Nat.le_refl _) _).alloc (by simp) _).alloc (by simp; omega) _).alloc (by simp; omega) _⟩
  · show ((((w.heap.push A).push B).push C).push D)[w.heap.size]? = _
    simp only [Array.getElem?_push, Array.size_push]
    rw [if_neg (by omega), if_neg (by omega), if_neg (by omega), if_pos trivial]
  · show ((((w.heap.push A).push B).push C).push D)[w.heap.size + 1]? = _
    simp only [Array.getElem?_push, Array.size_push]
    rw [if_neg (by omega), if_neg (by omega), if_pos trivial]
  · show ((((w.heap.push A).push B).push C).push D)[w.heap.size + 2]? = _
    simp only [Array.getElem?_push, Array.size_push]
    rw [if_neg (by omega), if_pos trivial]
  · show ((((w.heap.push A).push B).push C).push D)[w.heap.size + 3]? = _
    simp only [Array.getElem?_push, Array.size_push]
    rw [if_pos trivial]


def bound (x d : Int) : Int := if x ≤ 0 then d else x
theorem bound_pos {x d : Int} (h : x ≤ 0) : bound x d = d := if_pos h
theorem bound_neg {x d : Int} (h : ¬ x ≤ 0) : bound x d = x := if_neg h

/-- The station that 'New' makes. -/
def stationV (mm ms : Int) (sl ev : Value) (mb : Nat) : Array Value := #[.int .i64 (bound mm 1048576), .int .i64 (bound ms 1000), sl, ev, .int .i32 0, .int .u32 0, .map (some mb), .int .i64 0, .int .u64 0, .int .u64 0, .int .u64 0]

set_option maxHeartbeats 1000000 in
theorem new_nil (mm ms : Int) (ev : Value) (w : World) :
    Calls Yba.prog 7 #[.agg #[.int .i64 mm, .int .i64 ms, .slice none 0 0, ev]] w fun e w' => ∃ st mb, e = .returned (.pointer (some ⟨st, 0, none⟩)) ∧ w'.heap[st]? = some (.cells (stationV mm ms (.slice none 0 0) ev mb) 41) ∧ w'.heap[mb]? = some (.map #[] 0) ∧ Below w.heap.size w w' := by
  have hmm := @run_makeMap Yba.prog
  by_cases h1 : mm ≤ 0
  · by_cases h2 : ms ≤ 0
    · go_enter Yba.func7, Yba.ntmps7
      go_wp2_with (go_at_call 12; refine (clone_nil _).mono ?_; rintro e w' ⟨rfl, rfl⟩)
      go_ret
      obtain ⟨a0, a1, a2, asz, ab⟩ := heap_alloc3 w (.cells #[.int .i64 (bound mm 1048576), .int .i64 (bound ms 1000), .slice none 0 0, ev] 28) (.map #[] 0) (.cells (stationV mm ms (.slice none 0 0) ev (w.heap.size + 1)) 41)
      unfold stationV at a0 a1 a2 ab
      rw [bound_pos (x := mm) (by omega), bound_pos (x := ms) (by omega)] at a0 a1 a2 ab
      refine ⟨w.heap.size + 2, w.heap.size + 1, rfl, ?_, a1, ab⟩
      unfold stationV
      rw [bound_pos (x := mm) (by omega), bound_pos (x := ms) (by omega)]
      exact a2
    · go_enter Yba.func7, Yba.ntmps7
      go_wp2_with (go_at_call 12; refine (clone_nil _).mono ?_; rintro e w' ⟨rfl, rfl⟩)
      go_ret
      obtain ⟨a0, a1, a2, asz, ab⟩ := heap_alloc3 w (.cells #[.int .i64 (bound mm 1048576), .int .i64 (bound ms 1000), .slice none 0 0, ev] 28) (.map #[] 0) (.cells (stationV mm ms (.slice none 0 0) ev (w.heap.size + 1)) 41)
      unfold stationV at a0 a1 a2 ab
      rw [bound_pos (x := mm) (by omega), bound_neg (x := ms) (by omega)] at a0 a1 a2 ab
      refine ⟨w.heap.size + 2, w.heap.size + 1, rfl, ?_, a1, ab⟩
      unfold stationV
      rw [bound_pos (x := mm) (by omega), bound_neg (x := ms) (by omega)]
      exact a2
  · by_cases h2 : ms ≤ 0
    · go_enter Yba.func7, Yba.ntmps7
      go_wp2_with (go_at_call 12; refine (clone_nil _).mono ?_; rintro e w' ⟨rfl, rfl⟩)
      go_ret
      obtain ⟨a0, a1, a2, asz, ab⟩ := heap_alloc3 w (.cells #[.int .i64 (bound mm 1048576), .int .i64 (bound ms 1000), .slice none 0 0, ev] 28) (.map #[] 0) (.cells (stationV mm ms (.slice none 0 0) ev (w.heap.size + 1)) 41)
      unfold stationV at a0 a1 a2 ab
      rw [bound_neg (x := mm) (by omega), bound_pos (x := ms) (by omega)] at a0 a1 a2 ab
      refine ⟨w.heap.size + 2, w.heap.size + 1, rfl, ?_, a1, ab⟩
      unfold stationV
      rw [bound_neg (x := mm) (by omega), bound_pos (x := ms) (by omega)]
      exact a2
    · go_enter Yba.func7, Yba.ntmps7
      go_wp2_with (go_at_call 12; refine (clone_nil _).mono ?_; rintro e w' ⟨rfl, rfl⟩)
      go_ret
      obtain ⟨a0, a1, a2, asz, ab⟩ := heap_alloc3 w (.cells #[.int .i64 (bound mm 1048576), .int .i64 (bound ms 1000), .slice none 0 0, ev] 28) (.map #[] 0) (.cells (stationV mm ms (.slice none 0 0) ev (w.heap.size + 1)) 41)
      unfold stationV at a0 a1 a2 ab
      rw [bound_neg (x := mm) (by omega), bound_neg (x := ms) (by omega)] at a0 a1 a2 ab
      refine ⟨w.heap.size + 2, w.heap.size + 1, rfl, ?_, a1, ab⟩
      unfold stationV
      rw [bound_neg (x := mm) (by omega), bound_neg (x := ms) (by omega)]
      exact a2

set_option maxHeartbeats 1000000 in
theorem new_empty (mm ms : Int) (a : Addr) (c : Nat) (w : World) :
    Calls Yba.prog 7 #[.agg #[.int .i64 mm, .int .i64 ms, .slice (some a) 0 c, .nilFunc]] w fun e w' => ∃ st mb g, e = .returned (.pointer (some ⟨st, 0, none⟩)) ∧ w'.heap[st]? = some (.cells (stationV mm ms (.slice (some ⟨g, 0, none⟩) 0 0) .nilFunc mb) 41) ∧ w'.heap[mb]? = some (.map #[] 0) ∧ Below w.heap.size w w' := by
  have hmm := @run_makeMap Yba.prog
  by_cases h1 : mm ≤ 0
  · by_cases h2 : ms ≤ 0
    · go_enter Yba.func7, Yba.ntmps7
      go_wp2_with (go_at_call 12; refine (clone_empty a c _).mono ?_; rintro e w' ⟨rfl, rfl⟩)
      go_ret
      obtain ⟨a0, a1, a2, a3, asz, ab⟩ := heap_alloc4 w (.cells #[.int .i64 (bound mm 1048576), .int .i64 (bound ms 1000), .slice (some ⟨w.heap.size + 1, 0, none⟩) 0 0, .nilFunc] 28) (.cells #[] 51) (.map #[] 0) (.cells (stationV mm ms (.slice (some ⟨w.heap.size + 1, 0, none⟩) 0 0) .nilFunc (w.heap.size + 2)) 41)
      unfold stationV at a0 a1 a2 a3 ab
      rw [bound_pos (x := mm) (by omega), bound_pos (x := ms) (by omega)] at a0 a1 a2 a3 ab
      refine ⟨w.heap.size + 3, w.heap.size + 2, w.heap.size + 1, rfl, ?_, a2, ab⟩
      unfold stationV
      rw [bound_pos (x := mm) (by omega), bound_pos (x := ms) (by omega)]
      exact a3
    · go_enter Yba.func7, Yba.ntmps7
      go_wp2_with (go_at_call 12; refine (clone_empty a c _).mono ?_; rintro e w' ⟨rfl, rfl⟩)
      go_ret
      obtain ⟨a0, a1, a2, a3, asz, ab⟩ := heap_alloc4 w (.cells #[.int .i64 (bound mm 1048576), .int .i64 (bound ms 1000), .slice (some ⟨w.heap.size + 1, 0, none⟩) 0 0, .nilFunc] 28) (.cells #[] 51) (.map #[] 0) (.cells (stationV mm ms (.slice (some ⟨w.heap.size + 1, 0, none⟩) 0 0) .nilFunc (w.heap.size + 2)) 41)
      unfold stationV at a0 a1 a2 a3 ab
      rw [bound_pos (x := mm) (by omega), bound_neg (x := ms) (by omega)] at a0 a1 a2 a3 ab
      refine ⟨w.heap.size + 3, w.heap.size + 2, w.heap.size + 1, rfl, ?_, a2, ab⟩
      unfold stationV
      rw [bound_pos (x := mm) (by omega), bound_neg (x := ms) (by omega)]
      exact a3
  · by_cases h2 : ms ≤ 0
    · go_enter Yba.func7, Yba.ntmps7
      go_wp2_with (go_at_call 12; refine (clone_empty a c _).mono ?_; rintro e w' ⟨rfl, rfl⟩)
      go_ret
      obtain ⟨a0, a1, a2, a3, asz, ab⟩ := heap_alloc4 w (.cells #[.int .i64 (bound mm 1048576), .int .i64 (bound ms 1000), .slice (some ⟨w.heap.size + 1, 0, none⟩) 0 0, .nilFunc] 28) (.cells #[] 51) (.map #[] 0) (.cells (stationV mm ms (.slice (some ⟨w.heap.size + 1, 0, none⟩) 0 0) .nilFunc (w.heap.size + 2)) 41)
      unfold stationV at a0 a1 a2 a3 ab
      rw [bound_neg (x := mm) (by omega), bound_pos (x := ms) (by omega)] at a0 a1 a2 a3 ab
      refine ⟨w.heap.size + 3, w.heap.size + 2, w.heap.size + 1, rfl, ?_, a2, ab⟩
      unfold stationV
      rw [bound_neg (x := mm) (by omega), bound_pos (x := ms) (by omega)]
      exact a3
    · go_enter Yba.func7, Yba.ntmps7
      go_wp2_with (go_at_call 12; refine (clone_empty a c _).mono ?_; rintro e w' ⟨rfl, rfl⟩)
      go_ret
      obtain ⟨a0, a1, a2, a3, asz, ab⟩ := heap_alloc4 w (.cells #[.int .i64 (bound mm 1048576), .int .i64 (bound ms 1000), .slice (some ⟨w.heap.size + 1, 0, none⟩) 0 0, .nilFunc] 28) (.cells #[] 51) (.map #[] 0) (.cells (stationV mm ms (.slice (some ⟨w.heap.size + 1, 0, none⟩) 0 0) .nilFunc (w.heap.size + 2)) 41)
      unfold stationV at a0 a1 a2 a3 ab
      rw [bound_neg (x := mm) (by omega), bound_neg (x := ms) (by omega)] at a0 a1 a2 a3 ab
      refine ⟨w.heap.size + 3, w.heap.size + 2, w.heap.size + 1, rfl, ?_, a2, ab⟩
      unfold stationV
      rw [bound_neg (x := mm) (by omega), bound_neg (x := ms) (by omega)]
      exact a3

end Go.Proofs.Ybulkcpoe
