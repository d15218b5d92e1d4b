import Derived.Test.YbulkcpmoUts4
namespace Go.Proofs.Ybulkcpmo
open Go.RowKit

theorem dpNext_pos {dp d : Int} (h : dp < d) : dpNext dp d = d := if_pos h
theorem dpNext_neg {dp d : Int} (h : ¬ dp < d) : dpNext dp d = dp := if_neg h

theorem start4 (w : World) (T N : List Value) (nn lv dp : Int) (w3 : World)
    (h : w3 = (((w.alloc (.cells T.toArray 108)).alloc (.cells N.toArray 111)).alloc (.cells #[.int .i64 nn, .int .i64 lv, .int .i64 0] 113)).setCell ⟨w.heap.size + 2, 2, none⟩ (.int .i64 dp)) :
    w3.heap[w.heap.size]? = some (.cells T.toArray 108) ∧ w3.heap[w.heap.size + 1]? = some (.cells N.toArray 111) ∧ Ctr w3 (w.heap.size + 2) 0 nn lv dp ∧ Below w.heap.size w w3 := by
  have e : w3 = ((w.alloc (.cells T.toArray 108)).alloc (.cells N.toArray 111)).alloc (.cells #[.int .i64 nn, .int .i64 lv, .int .i64 dp] 113) := by rw [h]; go_simp
  have hB : Below ((w.alloc (.cells T.toArray 108)).alloc (.cells N.toArray 111)).heap.size ((w.alloc (.cells T.toArray 108)).alloc (.cells N.toArray 111)) w3 := by rw [e]; exact (Below.refl _ _).alloc (Nat.le_refl _) _
  refine ⟨(hB.block _ (by simp; omega)).trans (heap_alloc2_old w _ _), (hB.block _ (by simp)).trans (heap_alloc2_new w _ _), ?_, ?_⟩
  · have hh : w3.heap[w.heap.size + 2]? = some (.cells #[.int .i64 nn, .int .i64 lv, .int .i64 dp] 113) := by
      rw [e]
      have := heap_alloc_new ((w.alloc (.cells T.toArray 108)).alloc (.cells N.toArray 111)) (.cells #[.int .i64 nn, .int .i64 lv, .int .i64 dp] 113)
      simpa using this
    exact ⟨by rw [cell_of_row _ _ _ _ _ _ hh]; rfl, by rw [cell_of_row _ _ _ _ _ _ hh]; rfl, by rw [cell_of_row _ _ _ _ _ _ hh]; rfl, frozen_of_row _ _ _ _ _ hh, frozen_of_row _ _ _ _ _ hh, frozen_of_row _ _ _ _ _ hh⟩
  · exact (((Below.refl _ _).alloc (Nat.le_refl _) _).alloc (by simp) _).trans (hB.mono (by simp; omega))

set_option maxHeartbeats 2000000 in
theorem lawVisit_any (T N : List Value) (rc m : Int) (q : Nat) (x0 x1 x2 x3 d : Int) (hT : IsTree T rc q m) (hN : IsNode N x0 x1 x2 x3 d) (nn lv dp : Int) (w : World) :
    Calls Yba.prog 4 #[.agg T.toArray, .agg N.toArray, .int .i64 nn, .int .i64 lv, .int .i64 dp] w fun e w' => e = .returned (.bool true) ∧ Below w.heap.size w w' := by
  have HN : Hid (IsNode N x0 x1 x2 x3 d) := hN
  have HT : Hid (IsTree T rc q m) := hT
  clear hT hN
  go_enter Yba.func4, Yba.ntmps4
  go_wp2_with fail
  refine (store64 (w.heap.size + 2) 0 nn (.int .i64 0) _ ?_ ?_).mono ?_
  · go_simp
  · go_simp
  rintro e w' ⟨rfl, rfl⟩
  go_wp2_with fail
  refine (store64 (w.heap.size + 2) 1 lv (.int .i64 0) _ ?_ ?_).mono ?_
  · go_simp
  · go_simp
  rintro e w' ⟨rfl, rfl⟩
  go_wp2_with fail
  refine (store64 (w.heap.size + 2) 2 dp (.int .i64 0) _ ?_ ?_).mono ?_
  · go_simp
  · go_simp
  rintro e w3 ⟨rfl, hw3⟩
  obtain ⟨hT3, hN3, hC3, hB3⟩ := start4 w T N nn lv dp w3 hw3
  have HC3 : Hid (Ctr w3 (w.heap.size + 2) 0 nn lv dp) := hC3
  have HB3 : Hid (Below w.heap.size w w3) := hB3
  clear hw3 hC3 hB3
  go_wp2_with (first | (refine wpList_load_row rfl 108 (.tmp 5) rfl w.heap.size rfl 108 T.toArray (0, 0) _ hT3 Yba.underlying108 rfl (info108' HT.out.size) ?_) | (refine wpList_load_row rfl 111 (.tmp 6) rfl (w.heap.size + 1) rfl 111 N.toArray (0, 0) _ hN3 Yba.underlying111 rfl (info111' HN.out.size) ?_))
  refine (visit_any T N rc m q x0 x1 x2 x3 d HT.out HN.out (w.heap.size + 2) 0 nn lv dp _ HC3.out).mono ?_
  rintro e w4 ⟨rfl, hC4, hB4⟩
  have hT4 : w4.heap[w.heap.size]? = some (.cells T.toArray 108) := (hB4.block _ (by omega)).trans hT3
  have hN4 : w4.heap[w.heap.size + 1]? = some (.cells N.toArray 111) := (hB4.block _ (by omega)).trans hN3
  have HC4 : Hid (Ctr w4 (w.heap.size + 2) 0 (wrap64 (nn + 1)) (lvNext (kids rc m q x0 x1 x2 x3 d) lv) (dpNext dp d)) := hC4
  have HB4 : Hid (Below w.heap.size w w4) := HB3.out.trans (hB4.mono (by omega))
  clear hT3 hN3 HC3 HB3 hC4 hB4
  go_wp2_with (first | (refine wpList_load_row rfl 108 (.tmp 5) rfl w.heap.size rfl 108 T.toArray (0, 0) _ hT4 Yba.underlying108 rfl (info108' HT.out.size) ?_) | (refine wpList_load_row rfl 111 (.tmp 6) rfl (w.heap.size + 1) rfl 111 N.toArray (0, 0) _ hN4 Yba.underlying111 rfl (info111' HN.out.size) ?_))
  refine (children_any T N rc m q x0 x1 x2 x3 d HT.out HN.out _).mono ?_
  rintro e w5 ⟨rfl, hB5⟩
  have hlt : w.heap.size + 2 < w4.heap.size := HC4.out.lt
  have HC5 : Hid (Ctr w5 (w.heap.size + 2) 0 (wrap64 (nn + 1)) (lvNext (kids rc m q x0 x1 x2 x3 d) lv) (dpNext dp d)) := HC4.out.below hB5 hlt
  have HB5 : Hid (Below w.heap.size w w5) := HB4.out.trans (hB5.mono (by omega))
  have hN5 : w5.cell? ⟨w.heap.size + 1, 20, none⟩ = some (.int .i64 d) := by
    rw [cell_of_row _ _ _ _ _ _ ((hB5.block _ (by omega)).trans hN4)]; simpa using HN.out.c20
  clear hT4 hN4 HC4 HB4 hB5 hlt HN HT
  cases hk : (kids rc m q x0 x1 x2 x3 d == 0)
  · rw [lvNext_neg hk] at HC5
    by_cases hd : dp < d
    · rw [dpNext_pos hd] at HC5
      go_wp2_with (first | (go_at_call 14; first | (refine (load64 (w.heap.size + 2) 0 _ _ HC5.out.c0).mono ?_; rintro e w' ⟨rfl, rfl⟩) | (refine (load64 (w.heap.size + 2) 1 _ _ HC5.out.c1).mono ?_; rintro e w' ⟨rfl, rfl⟩) | (refine (load64 (w.heap.size + 2) 2 _ _ HC5.out.c2).mono ?_; rintro e w' ⟨rfl, rfl⟩)))
      go_ret
      exact ⟨rfl, HB5.out⟩
    · rw [dpNext_neg hd] at HC5
      go_wp2_with (first | (go_at_call 14; first | (refine (load64 (w.heap.size + 2) 0 _ _ HC5.out.c0).mono ?_; rintro e w' ⟨rfl, rfl⟩) | (refine (load64 (w.heap.size + 2) 1 _ _ HC5.out.c1).mono ?_; rintro e w' ⟨rfl, rfl⟩) | (refine (load64 (w.heap.size + 2) 2 _ _ HC5.out.c2).mono ?_; rintro e w' ⟨rfl, rfl⟩)))
      go_ret
      exact ⟨rfl, HB5.out⟩
  · rw [lvNext_pos hk] at HC5
    by_cases hd : dp < d
    · rw [dpNext_pos hd] at HC5
      go_wp2_with (first | (go_at_call 14; first | (refine (load64 (w.heap.size + 2) 0 _ _ HC5.out.c0).mono ?_; rintro e w' ⟨rfl, rfl⟩) | (refine (load64 (w.heap.size + 2) 1 _ _ HC5.out.c1).mono ?_; rintro e w' ⟨rfl, rfl⟩) | (refine (load64 (w.heap.size + 2) 2 _ _ HC5.out.c2).mono ?_; rintro e w' ⟨rfl, rfl⟩)))
      go_ret
      exact ⟨rfl, HB5.out⟩
    · rw [dpNext_neg hd] at HC5
      go_wp2_with (first | (go_at_call 14; first | (refine (load64 (w.heap.size + 2) 0 _ _ HC5.out.c0).mono ?_; rintro e w' ⟨rfl, rfl⟩) | (refine (load64 (w.heap.size + 2) 1 _ _ HC5.out.c1).mono ?_; rintro e w' ⟨rfl, rfl⟩) | (refine (load64 (w.heap.size + 2) 2 _ _ HC5.out.c2).mono ?_; rintro e w' ⟨rfl, rfl⟩)))
      go_ret
      exact ⟨rfl, HB5.out⟩
end Go.Proofs.Ybulkcpmo
