import Derived.Test.YbulkcpmoUts1
import Derived.Deep.RegionHeld3
namespace Go.Proofs.Ybulkcpmo
open Go.RowKit

theorem Yba.info111 : (Yba.prog.info? 111).map (·.size) = some 21 := by kernel_rfl
theorem Yba.info108 : (Yba.prog.info? 108).map (·.size) = some 4 := by kernel_rfl

theorem rangeAt_new (w : World) (N : List Value) (t : TypeId) (g : Nat) (hg : w.heap[g]? = some (.cells N.toArray t)) : w.rangeAt g 0 N := fun j v hv => by
  rw [cell_of_row w g (0 + j) _ t _ hg]
  simpa using hv

theorem rangeAt_below {W w1 : World} {B g o : Nat} {N : List Value} (hb : Below B W w1) (hg : g < B) (h : W.rangeAt g o N) : w1.rangeAt g o N := fun j v hv =>
  (hb.cell (p := ⟨g, o + j, none⟩) hg).trans (h j v hv)

theorem s29_start (w : World) (T N : List Value) (q : Nat) (m : Int) (t1 : T[1]? = some (.float .f64 q)) (t2 : T[2]? = some (.int .i64 m)) :
    let w' := ((w.alloc (.cells T.toArray 108)).alloc (.cells N.toArray 111)).drew
    w'.cell? ⟨w.heap.size, 1, none⟩ = some (.float .f64 q) ∧ w'.cell? ⟨w.heap.size, 2, none⟩ = some (.int .i64 m) ∧ w'.rangeAt (w.heap.size + 1) 0 N ∧ w.heap.size + 1 < w'.heap.size ∧ Below w.heap.size w w' := by
  refine ⟨by simpa using t1, by simpa using t2, ?_, by simp, (((Below.refl _ _).alloc (Nat.le_refl _) _).alloc (by simp) _).drew⟩
  exact rangeAt_new _ N 111 _ (heap_alloc2_new w _ _)

theorem s29_call {w W w1 : World} {N : List Value} {q : Nat} {m : Int}
    (h : W.cell? ⟨w.heap.size, 1, none⟩ = some (.float .f64 q) ∧ W.cell? ⟨w.heap.size, 2, none⟩ = some (.int .i64 m) ∧ W.rangeAt (w.heap.size + 1) 0 N ∧ w.heap.size + 1 < W.heap.size ∧ Below w.heap.size w W) (hb : Below W.heap.size W w1) :
    w1.cell? ⟨w.heap.size, 1, none⟩ = some (.float .f64 q) ∧ w1.cell? ⟨w.heap.size, 2, none⟩ = some (.int .i64 m) ∧ w1.rangeAt (w.heap.size + 1) 0 N ∧ w.heap.size + 1 < w1.heap.size ∧ Below w.heap.size w w1 := by
  obtain ⟨h1, h2, h3, h4, h5⟩ := h
  refine ⟨(hb.cell (p := ⟨w.heap.size, 1, none⟩) (by show w.heap.size < _; omega)).trans h1, (hb.cell (p := ⟨w.heap.size, 2, none⟩) (by show w.heap.size < _; omega)).trans h2, rangeAt_below hb h4 h3, ?_, h5.trans (hb.mono (by omega))⟩
  have := hb.size
  omega

set_option linter.unusedSimpArgs false in
set_option maxHeartbeats 400000 in
theorem num_any (T N : List Value) (rc m : Int) (q : Nat) (x0 x1 x2 x3 d : Int) (hT : IsTree T rc q m) (hN : IsNode N x0 x1 x2 x3 d) (w : World) :
    Calls Yba.prog 29 #[.agg T.toArray, .agg N.toArray] w fun e w' => e = .returned (.int .i64 (kids rc m q x0 x1 x2 x3 d)) ∧ Below w.heap.size w w' := by
  have HN : Hid (IsNode N x0 x1 x2 x3 d) := hN
  obtain ⟨-, t0, t1, t2⟩ := hT
  obtain ⟨ns, n16, n17, n18, n19, n20⟩ := hN
  by_cases hd : d = 0
  · subst hd
    clear ns
    go_enter Yba.func29, Yba.ntmps29
    go_wp2
    go_ret
    exact ⟨rfl, ((Below.refl _ _).alloc (Nat.le_refl _) _).alloc (by simp) _⟩
  · have hd' : (d == 0) = false := by simpa using hd
    have HK : Hid (∀ b, lessB q x0 x1 x2 x3 = b → kids rc m q x0 x1 x2 x3 d = if b = true then m else 0) := fun b hb => by simp [kids, hd, hb]
    clear hd
    have HI : Hid ((Yba.prog.info? 111).map (·.size) = some N.length) := by show _ = _; rw [ns]; exact Yba.info111
    clear ns
    go_enter Yba.func29, Yba.ntmps29
    go_wp2
    refine wp_region_held_drew (S := fun w' => w'.cell? ⟨w.heap.size, 1, none⟩ = some (.float .f64 q) ∧ w'.cell? ⟨w.heap.size, 2, none⟩ = some (.int .i64 m) ∧ w'.rangeAt (w.heap.size + 1) 0 N ∧ w.heap.size + 1 < w'.heap.size ∧ Below w.heap.size w w') (by kernel_rfl) (s29_start w T N q m t1 t2) (fun hHeld => ?_)
    refine wpAnyH_take (i := 0) (oi := _) (v := .agg N.toArray) rfl (by kernel_rfl) (by kernel_rfl) (by kernel_rfl) (fun _ _ _ h => h) (yieldsIf_load_mid (by rfl) 111 (.tmp 3) rfl (w.heap.size+1) 0 rfl N _ (fun _ h => h.2.2.1) Yba.underlying111 rfl HI.out) (by assumption) ?_
    simp only [Act.put, List.setIfInBounds_toArray, List.set_cons_zero, List.set_cons_succ]
    refine wpAnyH_take (i := 2) (oi := _) (v := .pointer (some ⟨w.heap.size, 1, none⟩)) rfl (by kernel_rfl) (by kernel_rfl) (by kernel_rfl) (fun _ _ _ h => h) (Or.inl ⟨by rfl, fun w hS => by go_simp⟩) (by assumption) ?_
    simp only [Act.put, List.setIfInBounds_toArray, List.set_cons_zero, List.set_cons_succ]
    refine wpAnyH_take (i := 3) (oi := _) (v := .float .f64 q) rfl (by kernel_rfl) (by kernel_rfl) (by kernel_rfl) (fun _ _ _ h => h) (Or.inl ⟨by rfl, fun w hS => by go_simp⟩) (by assumption) ?_
    simp only [Act.put, List.setIfInBounds_toArray, List.set_cons_zero, List.set_cons_succ]
    refine wpAnyH_ready (rs := [1]) (by kernel_rfl) (by simp) ?_
    refine AllReadyH.cons (o := _) rfl (fun K hK => ?_) AllReadyH.nil
    go_simp
    refine (value_any N x0 x1 x2 x3 d HN.out _).mono ?_
    rintro e w' ⟨rfl, hb⟩
    refine hK.out _ _ (s29_call hHeld hb) (fun hHeld => ?_)
    clear hK K
    refine wpAnyH_take (i := 4) (oi := _) (v := .bool (lessB q x0 x1 x2 x3)) rfl (by kernel_rfl) (by kernel_rfl) (by kernel_rfl) (fun _ _ _ h => h) (Or.inl ⟨by rfl, fun w hS => by unfold lessB; go_simp⟩) (by assumption) ?_
    simp only [Act.put, List.setIfInBounds_toArray, List.set_cons_zero, List.set_cons_succ]
    refine wpAnyH_done (by kernel_rfl) ?_ _
    obtain ⟨h1, h2, h3, h4, h5⟩ := hHeld
    clear h3
    cases hl : lessB q x0 x1 x2 x3
    all_goals
      clear hHeld hb h4 HN HI
      go_wp2
      go_ret
      exact ⟨by rw [HK.out _ hl]; rfl, h5⟩

end Go.Proofs.Ybulkcpmo
