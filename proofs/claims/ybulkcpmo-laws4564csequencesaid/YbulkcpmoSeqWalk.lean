import Derived.Test.YbulkcpmoVisitWalk
import Derived.Deep.RegionHeld3
namespace Go.Proofs.Ybulkcpmo
open Go.RowKit

/-- What the walk is told of the slice: at each place below its length lies a Node. -/
def NodesAt (w : World) (b off len : Nat) : Prop := ∀ k, k < len → ∃ (N : List Value) (x0 x1 x2 x3 d : Int), IsNode N x0 x1 x2 x3 d ∧ w.rangeAt b (off + k * 21) N

theorem start5 (w : World) (T : List Value) :
    let w3 := (w.alloc (.cells T.toArray 108)).alloc (.cells #[.int .i64 0, .int .i64 0, .int .i64 0] 113)
    w3.heap[w.heap.size]? = some (.cells T.toArray 108) ∧ Ctr w3 (w.heap.size + 1) 0 0 0 0 ∧ Below w.heap.size w w3 := by
  refine ⟨heap_alloc2_old w _ _, ?_, ((Below.refl _ _).alloc (Nat.le_refl _) _).alloc (by simp) _⟩
  have hh := heap_alloc2_new w (.cells T.toArray 108) (.cells #[.int .i64 0, .int .i64 0, .int .i64 0] 113)
  exact ⟨by rw [cell_of_row _ _ _ _ _ _ hh]; rfl, by rw [cell_of_row _ _ _ _ _ _ hh]; rfl, by rw [cell_of_row _ _ _ _ _ _ hh]; rfl, frozen_of_row _ _ _ _ _ hh, frozen_of_row _ _ _ _ _ hh, frozen_of_row _ _ _ _ _ hh⟩

theorem seq_long (T : List Value) (a : Option Addr) (len cap : Nat) (w : World) (hl : 1024 < len) :
    Calls Yba.prog 5 #[.agg T.toArray, .slice a len cap] w fun e w' => e = .returned (.bool true) ∧ Below w.heap.size w w' := by
  have h : (1024 : Int) < (len : Int) := by omega
  go_enter Yba.func5, Yba.ntmps5
  go_wp2
  go_ret
  exact ⟨rfl, (Below.refl _ _).alloc (Nat.le_refl _) _⟩

set_option maxHeartbeats 2000000 in
theorem seq_empty (T : List Value) (a : Option Addr) (cap : Nat) (w : World) :
    Calls Yba.prog 5 #[.agg T.toArray, .slice a 0 cap] w fun e w' => e = .returned (.bool true) ∧ Below w.heap.size w w' := by
  obtain ⟨hT3, hC3, hB3⟩ := start5 w T
  have HC3 : Hid (Ctr ((w.alloc (.cells T.toArray 108)).alloc (.cells #[.int .i64 0, .int .i64 0, .int .i64 0] 113)) (w.heap.size + 1) 0 0 0 0) := hC3
  clear hT3 hC3
  go_enter Yba.func5, Yba.ntmps5
  go_wp2_with fail
  refine wp_loop_rounds 1 ?_
  rw [rounds_succ]
  go_wp2_with (first | (go_at_call 14; first | (refine (load64 (w.heap.size + 1) 0 _ _ HC3.out.c0).mono ?_; rintro e w' ⟨rfl, rfl⟩) | (refine (load64 (w.heap.size + 1) 1 _ _ HC3.out.c1).mono ?_; rintro e w' ⟨rfl, rfl⟩) | (refine (load64 (w.heap.size + 1) 2 _ _ HC3.out.c2).mono ?_; rintro e w' ⟨rfl, rfl⟩)))
  go_ret
  exact ⟨rfl, hB3⟩

theorem s5_start {w wr : World} {T N : List Value} {b o : Nat} (hr : w.rangeAt b o N) (hb : b < w.heap.size) (hT : wr.rangeAt w.heap.size 0 T ∧ w.heap.size < wr.heap.size ∧ Below w.heap.size w wr) :
    wr.drew.rangeAt w.heap.size 0 T ∧ wr.drew.rangeAt b o N ∧ w.heap.size < wr.drew.heap.size ∧ Below w.heap.size w wr.drew :=
  ⟨hT.1, rangeAt_below hT.2.2.drew hb hr, hT.2.1, hT.2.2.drew⟩

theorem wrap_small (k : Nat) (h : k ≤ 1024) : wrap64 ((k : Int) + 1) = ((k + 1 : Nat) : Int) := by unfold wrap64; omega

theorem Ctr.drew {w : World} {cb co : Nat} {nn lv dp : Int} (h : Ctr w cb co nn lv dp) : Ctr w.drew cb co nn lv dp := ⟨h.c0, h.c1, h.c2, h.f0, h.f1, h.f2⟩
theorem s5_drew {w W : World} {T N : List Value} {b o : Nat} (h : W.rangeAt w.heap.size 0 T ∧ W.rangeAt b o N ∧ w.heap.size < W.heap.size ∧ Below w.heap.size w W) :
    W.drew.rangeAt w.heap.size 0 T ∧ W.drew.rangeAt b o N ∧ w.heap.size < W.drew.heap.size ∧ Below w.heap.size w W.drew := ⟨h.1, h.2.1, h.2.2.1, h.2.2.2.drew⟩
theorem s5_call {w W w1 : World} {T N : List Value} {b o B : Nat} (h : W.rangeAt w.heap.size 0 T ∧ W.rangeAt b o N ∧ w.heap.size < W.heap.size ∧ Below w.heap.size w W) (hb : b < w.heap.size) (hB : Below B W w1) (hlt : w.heap.size < B) :
    w1.rangeAt w.heap.size 0 T ∧ w1.rangeAt b o N ∧ w.heap.size < w1.heap.size ∧ Below w.heap.size w w1 := by
  obtain ⟨h1, h2, h3, h4⟩ := h
  have := hB.size
  exact ⟨rangeAt_below hB hlt h1, rangeAt_below hB (by omega) h2, by omega, h4.trans (hB.mono (by omega))⟩

set_option linter.unusedSimpArgs false in
set_option maxHeartbeats 2000000 in
theorem seq_some (T : List Value) (rc m : Int) (q : Nat) (hT : IsTree T rc q m) (b off len cap : Nat) (w : World) (h0 : 0 < len) (hl : len ≤ 1024) (hn : NodesAt w b off len) :
    Calls Yba.prog 5 #[.agg T.toArray, .slice (some ⟨b, off, none⟩) len cap] w fun e w' => e = .returned (.bool true) ∧ Below w.heap.size w w' := by
  have HT : Hid (IsTree T rc q m) := hT
  have HN : Hid (NodesAt w b off len) := hn
  have hl' : ¬ (1024 : Int) < (len : Int) := by omega
  clear hT hn
  go_enter Yba.func5, Yba.ntmps5
  go_wp2_with fail
  go_loopw [6, 7, 8] (fun l dd i wr => ∃ (k : Nat) (lv dp : Int), k ≤ len ∧ i = .int .i64 k ∧ l = .int .i64 lv ∧ dd = .int .i64 dp ∧ Hid (wr.rangeAt w.heap.size 0 T ∧ w.heap.size < wr.heap.size ∧ Below w.heap.size w wr) ∧ Hid (Ctr wr (w.heap.size + 1) 0 k lv dp)) (fun _ _ i _ => len - (intOf i).toNat)
  case atStart =>
    obtain ⟨hT3, hC3, hB3⟩ := start5 w T
    exact ⟨0, 0, 0, Nat.zero_le _, rfl, rfl, rfl, ⟨rangeAt_new _ T 108 _ hT3, Nat.lt_of_succ_lt hC3.lt, hB3⟩, hC3⟩
  case round =>
    obtain ⟨k, lv, dp, hk, rfl, rfl, rfl, HT1, HC1⟩ := hrel
    by_cases hlt : k < len
    · have hlti : (k : Int) < (len : Int) := by omega
      go_wp2_with fail
      obtain ⟨N, x0, x1, x2, x3, d, hN, hr⟩ := HN.out k hlt
      have hb : b < w.heap.size := World.block_lt_of_cell? _ _ (hr 20 _ hN.c20)
      have HN1 : Hid (IsNode N x0 x1 x2 x3 d) := hN
      have HR : Hid (w.rangeAt b (off + k * 21) N) := hr
      have HI : Hid ((Yba.prog.info? 111).map (·.size) = some N.length) := by show _ = _; rw [hN.size]; exact Yba.info111
      have HJ : Hid ((Yba.prog.info? 108).map (·.size) = some T.length) := by show _ = _; rw [HT.out.size]; exact Yba.info108
      clear hN hr
      have hk0 : (0 : Int) ≤ (k : Int) := by omega
      refine wp_region_held_drew (S := fun w' => w'.rangeAt w.heap.size 0 T ∧ w'.rangeAt b (off + k * 21) N ∧ w.heap.size < w'.heap.size ∧ Below w.heap.size w w') (by kernel_rfl) (s5_start HR.out hb HT1.out) (fun hHeld => ?_)
      refine wpAnyH_take (i := 0) (oi := _) (v := .agg T.toArray) rfl (by kernel_rfl) (by kernel_rfl) (by kernel_rfl) (fun _ _ _ h => h) (yieldsIf_load_mid (by rfl) 108 (.tmp 2) rfl w.heap.size 0 rfl T _ (fun _ h => h.1) Yba.underlying108 rfl HJ.out) (by assumption) ?_
      simp only [Act.put, List.setIfInBounds_toArray, List.set_cons_zero, List.set_cons_succ]
      refine wpAnyH_take (i := 1) (oi := _) (v := .slice (some ⟨b, off, none⟩) len cap) rfl (by kernel_rfl) (by kernel_rfl) (by kernel_rfl) (fun _ _ _ h => h) (Or.inl ⟨by rfl, fun w hS => by go_simp⟩) (by assumption) ?_
      simp only [Act.put, List.setIfInBounds_toArray, List.set_cons_zero, List.set_cons_succ]
      refine wpAnyH_take (i := 2) (oi := _) (v := .int .i64 k) rfl (by kernel_rfl) (by kernel_rfl) (by kernel_rfl) (fun _ _ _ h => h) (Or.inl ⟨by rfl, fun w hS => by go_simp⟩) (by assumption) ?_
      simp only [Act.put, List.setIfInBounds_toArray, List.set_cons_zero, List.set_cons_succ]
      refine wpAnyH_take (i := 3) (oi := _) (v := .pointer (some ⟨b, off + k * 21, none⟩)) rfl (by kernel_rfl) (by kernel_rfl) (by kernel_rfl) (fun _ _ _ h => h) (Or.inl ⟨by rfl, fun w hS => by clear HI HJ; go_simp⟩) (by assumption) ?_
      simp only [Act.put, List.setIfInBounds_toArray, List.set_cons_zero, List.set_cons_succ]
      refine wpAnyH_take (i := 4) (oi := _) (v := .agg N.toArray) rfl (by kernel_rfl) (by kernel_rfl) (by kernel_rfl) (fun _ _ _ h => h) (yieldsIf_load_mid (by rfl) 111 (.tmp 23) rfl b (off + k * 21) rfl N _ (fun _ h => h.2.1) Yba.underlying111 rfl HI.out) (by assumption) ?_
      simp only [Act.put, List.setIfInBounds_toArray, List.set_cons_zero, List.set_cons_succ]
      refine wpAnyH_ready (rs := [5]) (by kernel_rfl) (by simp) ?_
      refine AllReadyH.cons (o := _) rfl (fun K hK => ?_) AllReadyH.nil
      go_simp
      refine (visit_any T N rc m q x0 x1 x2 x3 d HT.out HN1.out (w.heap.size + 1) 0 k lv dp _ HC1.out.drew).mono ?_
      rintro e w2 ⟨rfl, hC2, hB2⟩
      have HC2 : Hid (Ctr w2 (w.heap.size + 1) 0 (wrap64 (k + 1)) (lvNext (kids rc m q x0 x1 x2 x3 d) lv) (dpNext dp d)) := hC2
      refine hK.out _ _ (s5_call hHeld hb hB2 (Nat.lt_succ_self _)) (fun hHeld2 => ?_)
      clear hK K hHeld hC2 HT1 HC1 hB2
      refine wpAnyH_take (i := 6) (oi := _) (v := .int .i64 (kids rc m q x0 x1 x2 x3 d)) rfl (by kernel_rfl) (by kernel_rfl) (by kernel_rfl) (fun _ _ _ h => h) (Or.inl ⟨by rfl, fun w hS => by clear HI HJ; go_simp⟩) (by assumption) ?_
      simp only [Act.put, List.setIfInBounds_toArray, List.set_cons_zero, List.set_cons_succ]
      refine wpAnyH_done (by kernel_rfl) ?_ _
      have HH2 : Hid (w2.rangeAt w.heap.size 0 T ∧ w2.rangeAt b (off + k * 21) N ∧ w.heap.size < w2.heap.size ∧ Below w.heap.size w w2) := hHeld2
      have HIJ : Hid (Hid ((Yba.prog.info? 111).map (·.size) = some N.length) ∧ Hid ((Yba.prog.info? 108).map (·.size) = some T.length)) := ⟨HI, HJ⟩
      clear hHeld2 HI HJ
      go_wp2_with fail
      obtain ⟨HI, HJ⟩ := HIJ.out
      refine wp_region_held_drew (S := fun w' => w'.rangeAt w.heap.size 0 T ∧ w'.rangeAt b (off + k * 21) N ∧ w.heap.size < w'.heap.size ∧ Below w.heap.size w w') (by kernel_rfl) (s5_drew HH2.out) (fun hHeld => ?_)
      refine wpAnyH_take (i := 0) (oi := _) (v := .agg T.toArray) rfl (by kernel_rfl) (by kernel_rfl) (by kernel_rfl) (fun _ _ _ h => h) (yieldsIf_load_mid (by rfl) 108 (.tmp 2) rfl w.heap.size 0 rfl T _ (fun _ h => h.1) Yba.underlying108 rfl HJ.out) (by assumption) ?_
      simp only [Act.put, List.setIfInBounds_toArray, List.set_cons_zero, List.set_cons_succ]
      refine wpAnyH_take (i := 1) (oi := _) (v := .slice (some ⟨b, off, none⟩) len cap) rfl (by kernel_rfl) (by kernel_rfl) (by kernel_rfl) (fun _ _ _ h => h) (Or.inl ⟨by rfl, fun w hS => by go_simp⟩) (by assumption) ?_
      simp only [Act.put, List.setIfInBounds_toArray, List.set_cons_zero, List.set_cons_succ]
      refine wpAnyH_take (i := 2) (oi := _) (v := .int .i64 k) rfl (by kernel_rfl) (by kernel_rfl) (by kernel_rfl) (fun _ _ _ h => h) (Or.inl ⟨by rfl, fun w hS => by go_simp⟩) (by assumption) ?_
      simp only [Act.put, List.setIfInBounds_toArray, List.set_cons_zero, List.set_cons_succ]
      refine wpAnyH_take (i := 3) (oi := _) (v := .pointer (some ⟨b, off + k * 21, none⟩)) rfl (by kernel_rfl) (by kernel_rfl) (by kernel_rfl) (fun _ _ _ h => h) (Or.inl ⟨by rfl, fun w hS => by clear HI HJ; go_simp⟩) (by assumption) ?_
      simp only [Act.put, List.setIfInBounds_toArray, List.set_cons_zero, List.set_cons_succ]
      refine wpAnyH_take (i := 4) (oi := _) (v := .agg N.toArray) rfl (by kernel_rfl) (by kernel_rfl) (by kernel_rfl) (fun _ _ _ h => h) (yieldsIf_load_mid (by rfl) 111 (.tmp 29) rfl b (off + k * 21) rfl N _ (fun _ h => h.2.1) Yba.underlying111 rfl HI.out) (by assumption) ?_
      simp only [Act.put, List.setIfInBounds_toArray, List.set_cons_zero, List.set_cons_succ]
      refine wpAnyH_ready (rs := [5]) (by kernel_rfl) (by simp) ?_
      refine AllReadyH.cons (o := _) rfl (fun K hK => ?_) AllReadyH.nil
      go_simp
      refine (children_any T N rc m q x0 x1 x2 x3 d HT.out HN1.out _).mono ?_
      rintro e w3 ⟨rfl, hB3⟩
      have hsz : w.heap.size + 1 < w2.drew.heap.size := HC2.out.lt
      have HC3 : Hid (Ctr w3 (w.heap.size + 1) 0 (wrap64 (k + 1)) (lvNext (kids rc m q x0 x1 x2 x3 d) lv) (dpNext dp d)) := HC2.out.drew.below hB3 hsz
      refine hK.out _ _ (s5_call hHeld hb hB3 (by omega)) (fun hHeld2 => ?_)
      clear hK K hHeld HC2 hB3 hsz HH2
      refine wpAnyH_take (i := 6) (oi := _) (v := .int .i64 (kids rc m q x0 x1 x2 x3 d)) rfl (by kernel_rfl) (by kernel_rfl) (by kernel_rfl) (fun _ _ _ h => h) (Or.inl ⟨by rfl, fun w hS => by clear HI HJ; go_simp⟩) (by assumption) ?_
      simp only [Act.put, List.setIfInBounds_toArray, List.set_cons_zero, List.set_cons_succ]
      refine wpAnyH_done (by kernel_rfl) ?_ _
      have HH3 : Hid (w3.rangeAt w.heap.size 0 T ∧ w3.rangeAt b (off + k * 21) N ∧ w.heap.size < w3.heap.size ∧ Below w.heap.size w w3) := hHeld2
      have hd3 : w3.cell? ⟨b, off + k * 21 + 20, none⟩ = some (.int .i64 d) := HH3.out.2.1 20 _ HN1.out.c20
      clear hHeld2 HI HJ HIJ HR HN1 HT HN
      rw [wrap_small k (by omega)] at HC3
      cases hk : (kids rc m q x0 x1 x2 x3 d == 0)
      · rw [lvNext_neg hk] at HC3
        by_cases hd : dp < d
        · rw [dpNext_pos hd] at HC3
          go_wp2
          go_roundw
          case rel => exact ⟨k + 1, _, _, by omega, by go_num, rfl, rfl, ⟨HH3.out.1, HH3.out.2.2⟩, HC3⟩
          case measure => simp [intOf]; omega
        · rw [dpNext_neg hd] at HC3
          go_wp2
          go_roundw
          case rel => exact ⟨k + 1, _, _, by omega, by go_num, rfl, rfl, ⟨HH3.out.1, HH3.out.2.2⟩, HC3⟩
          case measure => simp [intOf]; omega
      · rw [lvNext_pos hk] at HC3
        by_cases hd : dp < d
        · rw [dpNext_pos hd] at HC3
          go_wp2
          go_roundw
          case rel => exact ⟨k + 1, _, _, by omega, by go_num, rfl, rfl, ⟨HH3.out.1, HH3.out.2.2⟩, HC3⟩
          case measure => simp [intOf]; omega
        · rw [dpNext_neg hd] at HC3
          go_wp2
          go_roundw
          case rel => exact ⟨k + 1, _, _, by omega, by go_num, rfl, rfl, ⟨HH3.out.1, HH3.out.2.2⟩, HC3⟩
          case measure => simp [intOf]; omega
    · have hge : ¬ (k : Int) < (len : Int) := by omega
      obtain rfl : k = len := by omega
      go_wp2_with (first | (go_at_call 14; first | (refine (load64 (w.heap.size + 1) 0 _ _ HC1.out.c0).mono ?_; rintro e w' ⟨rfl, rfl⟩) | (refine (load64 (w.heap.size + 1) 1 _ _ HC1.out.c1).mono ?_; rintro e w' ⟨rfl, rfl⟩) | (refine (load64 (w.heap.size + 1) 2 _ _ HC1.out.c2).mono ?_; rintro e w' ⟨rfl, rfl⟩)))
      go_ret
      exact ⟨rfl, HT1.out.2.2⟩
end Go.Proofs.Ybulkcpmo
