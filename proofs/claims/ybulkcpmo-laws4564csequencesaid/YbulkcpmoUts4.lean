import Derived.Test.YbulkcpmoUts3
namespace Go.Proofs.Ybulkcpmo
open Go.RowKit

/-- The counter at ⟨cb, co⟩ holds these three numbers, and may be written. -/
structure Ctr (w : World) (cb co : Nat) (nn lv dp : Int) : Prop where
  c0 : w.cell? ⟨cb, co, none⟩ = some (.int .i64 nn)
  c1 : w.cell? ⟨cb, co + 1, none⟩ = some (.int .i64 lv)
  c2 : w.cell? ⟨cb, co + 2, none⟩ = some (.int .i64 dp)
  f0 : w.frozen? ⟨cb, co, none⟩ = false
  f1 : w.frozen? ⟨cb, co + 1, none⟩ = false
  f2 : w.frozen? ⟨cb, co + 2, none⟩ = false

theorem Ctr.lt {w : World} {cb co : Nat} {nn lv dp : Int} (h : Ctr w cb co nn lv dp) : cb < w.heap.size := World.block_lt_of_cell? _ _ h.c0

theorem Ctr.below {B : Nat} {W w1 : World} {cb co : Nat} {nn lv dp : Int} (hb : Below B W w1) (hB : cb < B) (h : Ctr W cb co nn lv dp) : Ctr w1 cb co nn lv dp :=
  ⟨(hb.cell (p := ⟨cb, co, none⟩) hB).trans h.c0, (hb.cell (p := ⟨cb, co + 1, none⟩) hB).trans h.c1, (hb.cell (p := ⟨cb, co + 2, none⟩) hB).trans h.c2,
   (hb.frozen (p := ⟨cb, co, none⟩) hB).trans h.f0, (hb.frozen (p := ⟨cb, co + 1, none⟩) hB).trans h.f1, (hb.frozen (p := ⟨cb, co + 2, none⟩) hB).trans h.f2⟩

/-- All blocks but number cb stand. -/
structure Kept (cb : Nat) (w w' : World) : Prop where
  os : w'.os = w.os
  tape : w'.tape = w.tape
  output : w'.output = w.output
  size : w'.heap.size = w.heap.size
  block : ∀ k, k ≠ cb → w'.heap[k]? = w.heap[k]?

theorem Kept.set (w : World) (cb o : Nat) (v : Value) : Kept cb w (w.setCell ⟨cb, o, none⟩ v) :=
  ⟨rfl, rfl, rfl, by simp [World.setCell], fun k hk => Below.heap_setCell _ _ _ _ hk⟩
theorem Kept.below {cb : Nat} {w w' : World} (h : Kept cb w w') : Below cb w w' :=
  ⟨h.os, h.tape, h.output, by rw [h.size]; exact Nat.le_refl _, fun k hk => h.block k (by omega)⟩

theorem add_nodes {cb co : Nat} {nn lv dp : Int} {w : World} (h : Ctr w cb co nn lv dp) :
    Calls Yba.prog 27 #[.pointer (some ⟨cb, co, none⟩), .int .i64 1] w fun e w' => e = .returned (.int .i64 (wrap64 (nn + 1))) ∧ Ctr w' cb co (wrap64 (nn + 1)) lv dp ∧ Kept cb w w' :=
  (add64 cb co nn 1 w h.c0 h.f0).mono fun e w' ⟨he, hw⟩ => ⟨he, by
    subst hw
    exact ⟨World.cell?_setCell_same w _ _ h.c0, (World.cell?_setCell_other w _ _ _ (by simp)).trans h.c1, (World.cell?_setCell_other w _ _ _ (by simp)).trans h.c2, by simp [h.f0], by simp [h.f1], by simp [h.f2]⟩, hw ▸ Kept.set w cb co _⟩
theorem add_leaves {cb co : Nat} {nn lv dp : Int} {w : World} (h : Ctr w cb co nn lv dp) :
    Calls Yba.prog 27 #[.pointer (some ⟨cb, co + 1, none⟩), .int .i64 1] w fun e w' => e = .returned (.int .i64 (wrap64 (lv + 1))) ∧ Ctr w' cb co nn (wrap64 (lv + 1)) dp ∧ Kept cb w w' :=
  (add64 cb (co + 1) lv 1 w h.c1 h.f1).mono fun e w' ⟨he, hw⟩ => ⟨he, by
    subst hw
    exact ⟨(World.cell?_setCell_other w _ _ _ (by simp)).trans h.c0, World.cell?_setCell_same w _ _ h.c1, (World.cell?_setCell_other w _ _ _ (by simp)).trans h.c2, by simp [h.f0], by simp [h.f1], by simp [h.f2]⟩, hw ▸ Kept.set w cb (co + 1) _⟩
theorem cas_depth {cb co : Nat} {nn lv dp d : Int} {w : World} (h : Ctr w cb co nn lv dp) :
    Calls Yba.prog 28 #[.pointer (some ⟨cb, co + 2, none⟩), .int .i64 dp, .int .i64 d] w fun e w' => e = .returned (.bool true) ∧ Ctr w' cb co nn lv d ∧ Kept cb w w' :=
  (cas64_hit cb (co + 2) dp d w h.c2 h.f2).mono fun e w' ⟨he, hw⟩ => ⟨he, by
    subst hw
    exact ⟨(World.cell?_setCell_other w _ _ _ (by simp)).trans h.c0, (World.cell?_setCell_other w _ _ _ (by simp)).trans h.c1, World.cell?_setCell_same w _ _ h.c2, by simp [h.f0], by simp [h.f1], by simp [h.f2]⟩, hw ▸ Kept.set w cb (co + 2) _⟩

theorem info108' {T : List Value} (h : T.length = 4) : (Yba.prog.info? 108).map (·.size) = some T.toArray.size := by
  rw [List.size_toArray, h]; exact Yba.info108
theorem info111' {N : List Value} (h : N.length = 21) : (Yba.prog.info? 111).map (·.size) = some N.toArray.size := by
  rw [List.size_toArray, h]; exact Yba.info111

def lvNext (k lv : Int) : Int := if k = 0 then wrap64 (lv + 1) else lv
def dpNext (dp d : Int) : Int := if dp < d then d else dp
theorem lvNext_pos {k lv : Int} (h : (k == 0) = true) : lvNext k lv = wrap64 (lv + 1) := by unfold lvNext; rw [if_pos (by simpa using h)]
theorem lvNext_neg {k lv : Int} (h : (k == 0) = false) : lvNext k lv = lv := by unfold lvNext; rw [if_neg (by simpa using h)]

set_option maxHeartbeats 400000 in
theorem visit_any (T N : List Value) (rc m : Int) (q : Nat) (x0 x1 x2 x3 d : Int) (hT : IsTree T rc q m) (hN : IsNode N x0 x1 x2 x3 d) (cb co : Nat) (nn lv dp : Int) (w : World)
    (hC : Ctr w cb co nn lv dp) :
    Calls Yba.prog 12 #[.pointer (some ⟨cb, co, none⟩), .agg T.toArray, .agg N.toArray] w fun e w' => e = .returned (.int .i64 (kids rc m q x0 x1 x2 x3 d)) ∧
      Ctr w' cb co (wrap64 (nn + 1)) (lvNext (kids rc m q x0 x1 x2 x3 d) lv) (dpNext dp d) ∧ Below cb w w' := by
  have HN : Hid (IsNode N x0 x1 x2 x3 d) := hN
  have HT : Hid (IsTree T rc q m) := hT
  have HC : Hid (Ctr w cb co nn lv dp) := hC
  have hb : cb < w.heap.size := hC.lt
  have n20 := hN.c20
  clear hT hN hC
  go_enter Yba.func12, Yba.ntmps12
  go_wp2_with fail
  have hB0 : Below cb w ((w.alloc (Obj.cells T.toArray 108)).alloc (Obj.cells N.toArray 111)) := ((Below.refl _ _).alloc (by omega) _).alloc (by simp; omega) _
  have hBb : Below w.heap.size w ((w.alloc (Obj.cells T.toArray 108)).alloc (Obj.cells N.toArray 111)) := ((Below.refl _ _).alloc (Nat.le_refl _) _).alloc (by simp) _
  refine (add_nodes (HC.out.below hBb hb)).mono ?_
  rintro e w1 ⟨rfl, hC1, hK1⟩
  have hT1 : w1.heap[w.heap.size]? = some (.cells T.toArray 108) := (hK1.block _ (by omega)).trans (heap_alloc2_old w _ _)
  have hN1 : w1.heap[w.heap.size + 1]? = some (.cells N.toArray 111) := (hK1.block _ (by omega)).trans (heap_alloc2_new w _ _)
  have hB1 : Below cb w w1 := hB0.trans hK1.below
  have hs1 : w1.heap.size = w.heap.size + 2 := by rw [hK1.size]; simp
  have hd1 : w1.cell? ⟨w.heap.size + 1, 20, none⟩ = some (.int .i64 d) := by rw [cell_of_row _ _ _ _ _ _ hN1]; simpa using n20
  clear hB0 hBb hK1 HC n20
  have HC1 : Hid (Ctr w1 cb co (wrap64 (nn + 1)) lv dp) := hC1
  have HT1 : Hid (w1.heap[w.heap.size]? = some (.cells T.toArray 108)) := hT1
  have HN1 : Hid (w1.heap[w.heap.size + 1]? = some (.cells N.toArray 111)) := hN1
  have HB1 : Hid (Below cb w w1) := hB1
  have HS1 : Hid (w1.heap.size = w.heap.size + 2) := hs1
  clear hC1 hT1 hN1 hB1 hs1
  go_wp2_with fail
  refine (load64 cb (co + 2) dp _ HC1.out.c2).mono ?_
  rintro e w2 ⟨rfl, rfl⟩
  by_cases hlt : dp < d
  · go_wp2_with fail
    refine wp_loop_rounds 1 ?_
    rw [rounds_succ]
    go_wp2_with fail
    refine (cas_depth HC1.out).mono ?_
    rintro e w3 ⟨rfl, hC3, hK3⟩
    have HC3 : Hid (Ctr w3 cb co (wrap64 (nn + 1)) lv (dpNext dp d)) := by show Ctr _ _ _ _ _ _; unfold dpNext; rw [if_pos hlt]; exact hC3
    have hT3 : w3.heap[w.heap.size]? = some (.cells T.toArray 108) := (hK3.block _ (by omega)).trans HT1.out
    have hN3 : w3.heap[w.heap.size + 1]? = some (.cells N.toArray 111) := (hK3.block _ (by omega)).trans HN1.out
    have HB3 : Hid (Below cb w w3) := HB1.out.trans hK3.below
    have HS3 : Hid (w3.heap.size = w.heap.size + 2) := hK3.size.trans HS1.out
    clear hC3 hK3 HC1 HT1 HN1 HB1 HS1
    go_wp2_with (first | (refine wpList_load_row rfl 108 (.tmp 4) rfl w.heap.size rfl 108 T.toArray (0, 0) _ hT3 Yba.underlying108 rfl (info108' HT.out.size) ?_) | (refine wpList_load_row rfl 111 (.tmp 5) rfl (w.heap.size + 1) rfl 111 N.toArray (0, 0) _ hN3 Yba.underlying111 rfl (info111' HN.out.size) ?_))
    refine (num_any T N rc m q x0 x1 x2 x3 d HT.out HN.out _).mono ?_
    rintro e w4 ⟨rfl, hB4⟩
    have hlt4 : cb < w3.heap.size := by have := HS3.out; omega
    have HC4 : Hid (Ctr w4 cb co (wrap64 (nn + 1)) lv (dpNext dp d)) := HC3.out.below hB4 hlt4
    have HB4 : Hid (Below cb w w4) := HB3.out.trans (hB4.mono (by omega))
    clear hB4 HC3 HB3 hT3 hN3 HS3 hlt4 HN HT
    cases hk : (kids rc m q x0 x1 x2 x3 d == 0)
    · go_wp2
      go_ret
      exact ⟨rfl, by rw [lvNext_neg hk]; exact HC4.out, HB4.out⟩
    · go_wp2_with fail
      refine (add_leaves HC4.out).mono ?_
      rintro e w5 ⟨rfl, hC5, hK5⟩
      have HC5 : Hid (Ctr w5 cb co (wrap64 (nn + 1)) (wrap64 (lv + 1)) (dpNext dp d)) := hC5
      have HB5 : Hid (Below cb w w5) := HB4.out.trans hK5.below
      clear hC5 hK5 HC4 HB4
      go_wp2
      go_ret
      exact ⟨rfl, by rw [lvNext_pos hk]; exact HC5.out, HB5.out⟩
  · have HC3 : Hid (Ctr w2 cb co (wrap64 (nn + 1)) lv (dpNext dp d)) := by show Ctr _ _ _ _ _ _; unfold dpNext; rw [if_neg hlt]; exact HC1.out
    have hT3 := HT1.out
    have hN3 := HN1.out
    have HB3 := HB1
    have HS3 := HS1
    clear HC1 HT1 HN1 HB1 HS1
    go_wp2_with fail
    refine wp_loop_rounds 1 ?_
    rw [rounds_succ]
    obtain ⟨w3, rfl⟩ : ∃ w3 : World, w3 = w2 := ⟨_, rfl⟩
    go_wp2_with (first | (refine wpList_load_row rfl 108 (.tmp 4) rfl w.heap.size rfl 108 T.toArray (0, 0) _ hT3 Yba.underlying108 rfl (info108' HT.out.size) ?_) | (refine wpList_load_row rfl 111 (.tmp 5) rfl (w.heap.size + 1) rfl 111 N.toArray (0, 0) _ hN3 Yba.underlying111 rfl (info111' HN.out.size) ?_))
    refine (num_any T N rc m q x0 x1 x2 x3 d HT.out HN.out _).mono ?_
    rintro e w4 ⟨rfl, hB4⟩
    have hlt4 : cb < w3.heap.size := by have := HS3.out; omega
    have HC4 : Hid (Ctr w4 cb co (wrap64 (nn + 1)) lv (dpNext dp d)) := HC3.out.below hB4 hlt4
    have HB4 : Hid (Below cb w w4) := HB3.out.trans (hB4.mono (by omega))
    clear hB4 HC3 HB3 hT3 hN3 HS3 hlt4 HN HT
    cases hk : (kids rc m q x0 x1 x2 x3 d == 0)
    · go_wp2
      go_ret
      exact ⟨rfl, by rw [lvNext_neg hk]; exact HC4.out, HB4.out⟩
    · go_wp2_with fail
      refine (add_leaves HC4.out).mono ?_
      rintro e w5 ⟨rfl, hC5, hK5⟩
      have HC5 : Hid (Ctr w5 cb co (wrap64 (nn + 1)) (wrap64 (lv + 1)) (dpNext dp d)) := hC5
      have HB5 : Hid (Below cb w w5) := HB4.out.trans hK5.below
      clear hC5 hK5 HC4 HB4
      go_wp2
      go_ret
      exact ⟨rfl, by rw [lvNext_pos hk]; exact HC5.out, HB5.out⟩

end Go.Proofs.Ybulkcpmo
