import Derived.Test.YbulkcpmoTime3
import Derived.Deep.RegionHeld3
namespace Go.Proofs.Ybulkcpmo
open Go.RowKit

/-- A time without a monotonic reading, in no location: x nanoseconds from the zero time. -/
def tvc (x : Int) : Array Value := #[.int .u64 (x % 1000000000), .int .i64 (x / 1000000000), .pointer none]

theorem add_any (x d : Int) (x0 : -10000000000000000000 ≤ x) (x1 : x ≤ 10000000000000000000) (d0 : -100000000000000000 ≤ d) (d1 : d ≤ 100000000000000000) (w : World) :
    Calls Yba.prog 8 #[.agg (tvc x), .int .i64 d] w fun e w' => e = .returned (.agg (tvc (x + d))) ∧ Below w.heap.size w w' := by
  obtain ⟨q, r, hq, hr, hd, r0, r1, q0, q1⟩ := tdivmod d d0 d1
  unfold tvc
  by_cases c1 : 1000000000 ≤ x % 1000000000 + r
  · have e1 : (x + d) % 1000000000 = x % 1000000000 + r - 1000000000 := by omega
    have e2 : (x + d) / 1000000000 = x / 1000000000 + (q + 1) := by omega
    rw [e1, e2]
    exact add_hi _ _ d q r hq hr r0 r1 q0 q1 (by omega) (by omega) (by omega) (by omega) c1 w
  · by_cases c2 : x % 1000000000 + r < 0
    · have e1 : (x + d) % 1000000000 = x % 1000000000 + r + 1000000000 := by omega
      have e2 : (x + d) / 1000000000 = x / 1000000000 + (q - 1) := by omega
      rw [e1, e2]
      exact add_lo _ _ d q r hq hr r0 r1 q0 q1 (by omega) (by omega) (by omega) (by omega) c2 w
    · have e1 : (x + d) % 1000000000 = x % 1000000000 + r := by omega
      have e2 : (x + d) / 1000000000 = x / 1000000000 + q := by omega
      rw [e1, e2]
      exact add_mid _ _ d q r hq hr r0 r1 q0 q1 (by omega) (by omega) (by omega) (by omega) (by omega) (by omega) w

set_option maxHeartbeats 1000000 in
theorem equal_any (n s : Int) (h0 : 0 ≤ n) (h1 : n < 1000000000) (w : World) :
    Calls Yba.prog 35 #[.agg #[.int .u64 n, .int .i64 s, .pointer none], .agg #[.int .u64 n, .int .i64 s, .pointer none]] w fun e w' => e = .returned (.bool true) ∧ Below w.heap.size w w' := by
  have e1 := and_high n h0 (by omega)
  have e2 : bits .and .u64 n n = n := by
    obtain ⟨a, rfl⟩ := Int.eq_ofNat_of_zero_le h0
    rw [bits_and_u64_nat a a (by omega) (by omega), Nat.and_self]
  go_enter Yba.func35, Yba.ntmps35
  go_wp2_with fail
  refine (sec_any w.heap.size 0 n s h0 h1 _ ?_ ?_).mono ?_
  · go_simp
  · go_simp
  rintro e w' ⟨rfl, rfl⟩
  go_wp2_with fail
  refine (sec_any (w.heap.size + 1) 0 n s h0 h1 _ ?_ ?_).mono ?_
  · go_simp
  · go_simp
  rintro e w' ⟨rfl, rfl⟩
  go_wp2_with fail
  refine (nsec_any w.heap.size 0 n (by assumption) (by assumption) _ ?_).mono ?_
  · go_simp
  rintro e w' ⟨rfl, rfl⟩
  go_wp2_with fail
  refine (nsec_any (w.heap.size + 1) 0 n (by assumption) (by assumption) _ ?_).mono ?_
  · go_simp
  rintro e w' ⟨rfl, rfl⟩
  go_wp2
  go_ret
  exact ⟨rfl, ((Below.refl _ _).alloc (Nat.le_refl _) _).alloc (by simp) _⟩

theorem s23_start (w : World) (n s m t : Int) :
    let W := ((w.alloc (.cells #[.int .u64 n, .int .i64 s, .pointer none] 79)).alloc (.cells #[.int .u64 m, .int .i64 t, .pointer none] 79)).drew
    W.cell? ⟨w.heap.size, 0, none⟩ = some (.int .u64 n) ∧ W.cell? ⟨w.heap.size, 1, none⟩ = some (.int .i64 s) ∧ W.cell? ⟨w.heap.size, 2, none⟩ = some (.pointer none) ∧ W.cell? ⟨w.heap.size + 1, 0, none⟩ = some (.int .u64 m) ∧ W.cell? ⟨w.heap.size + 1, 1, none⟩ = some (.int .i64 t) ∧ W.cell? ⟨w.heap.size + 1, 2, none⟩ = some (.pointer none) ∧ w.heap.size + 1 < W.heap.size ∧ Below w.heap.size w W :=
  ⟨by simp, by simp, by simp, by simp, by simp, by simp, by simp, (((Below.refl _ _).alloc (Nat.le_refl _) _).alloc (by simp) _).drew⟩
theorem s23_call {w W w1 : World} {n s m t : Int} (h : W.cell? ⟨w.heap.size, 0, none⟩ = some (.int .u64 n) ∧ W.cell? ⟨w.heap.size, 1, none⟩ = some (.int .i64 s) ∧ W.cell? ⟨w.heap.size, 2, none⟩ = some (.pointer none) ∧ W.cell? ⟨w.heap.size + 1, 0, none⟩ = some (.int .u64 m) ∧ W.cell? ⟨w.heap.size + 1, 1, none⟩ = some (.int .i64 t) ∧ W.cell? ⟨w.heap.size + 1, 2, none⟩ = some (.pointer none) ∧ w.heap.size + 1 < W.heap.size ∧ Below w.heap.size w W) (hb : Below W.heap.size W w1) :
    w1.cell? ⟨w.heap.size, 0, none⟩ = some (.int .u64 n) ∧ w1.cell? ⟨w.heap.size, 1, none⟩ = some (.int .i64 s) ∧ w1.cell? ⟨w.heap.size, 2, none⟩ = some (.pointer none) ∧ w1.cell? ⟨w.heap.size + 1, 0, none⟩ = some (.int .u64 m) ∧ w1.cell? ⟨w.heap.size + 1, 1, none⟩ = some (.int .i64 t) ∧ w1.cell? ⟨w.heap.size + 1, 2, none⟩ = some (.pointer none) ∧ w.heap.size + 1 < w1.heap.size ∧ Below w.heap.size w w1 := by
  obtain ⟨a, b, c, d, e, f, g, k⟩ := h
  have hg : w.heap.size < W.heap.size := by omega
  exact ⟨(hb.cell (p := ⟨w.heap.size, 0, none⟩) hg).trans a, (hb.cell (p := ⟨w.heap.size, 1, none⟩) hg).trans b, (hb.cell (p := ⟨w.heap.size, 2, none⟩) hg).trans c,
    (hb.cell (p := ⟨w.heap.size + 1, 0, none⟩) g).trans d, (hb.cell (p := ⟨w.heap.size + 1, 1, none⟩) g).trans e, (hb.cell (p := ⟨w.heap.size + 1, 2, none⟩) g).trans f, Nat.lt_of_lt_of_le g hb.size, k.trans (hb.mono (by omega))⟩

set_option linter.unusedSimpArgs false in
set_option maxHeartbeats 1000000 in
theorem sub_any (x y : Int) (x0 : -50000000000000000 ≤ x) (x1 : x ≤ 50000000000000000) (y0 : -50000000000000000 ≤ y) (y1 : y ≤ 50000000000000000) (w : World) :
    Calls Yba.prog 23 #[.agg (tvc x), .agg (tvc y)] w fun e w' => e = .returned (.int .i64 (x - y)) ∧ Below w.heap.size w w' := by
  obtain ⟨n, hn⟩ : ∃ n, n = x % 1000000000 := ⟨_, rfl⟩
  obtain ⟨s, hs⟩ : ∃ s, s = x / 1000000000 := ⟨_, rfl⟩
  obtain ⟨m, hm⟩ : ∃ m, m = y % 1000000000 := ⟨_, rfl⟩
  obtain ⟨t, ht⟩ : ∃ t, t = y / 1000000000 := ⟨_, rfl⟩
  have n0 : 0 ≤ n := by omega
  have n1 : n < 1000000000 := by omega
  have m0 : 0 ≤ m := by omega
  have m1 : m < 1000000000 := by omega
  have s0 : -50000001 ≤ s := by omega
  have s1 : s ≤ 50000001 := by omega
  have t0 : -50000001 ≤ t := by omega
  have t1 : t ≤ 50000001 := by omega
  have HX : Hid (x - y = (s - t) * 1000000000 + (n - m)) := by show _ = _; omega
  have HY : Hid (tvc y = #[.int .u64 m, .int .i64 t, .pointer none]) := by rw [hm, ht]; rfl
  have HZ : Hid (tvc x = #[.int .u64 n, .int .i64 s, .pointer none]) := by rw [hn, hs]; rfl
  rw [HX.out, HY.out, HZ.out]
  have HA : Hid (∀ W, Calls Yba.prog 8 #[.agg #[.int .u64 m, .int .i64 t, .pointer none], .int .i64 ((s - t) * 1000000000 + (n - m))] W fun e w' => e = .returned (.agg #[.int .u64 n, .int .i64 s, .pointer none]) ∧ Below W.heap.size W w') := fun W => by
    have h := add_any y ((s - t) * 1000000000 + (n - m)) (by omega) (by omega) (by omega) (by omega) W
    rw [show y + ((s - t) * 1000000000 + (n - m)) = x by omega, HY.out, HZ.out] at h
    exact h
  clear hn hs hm ht HX HY HZ x0 x1 y0 y1
  have e1 := and_high m m0 (by omega)
  have e2 : bits .and .u64 (bits .and .u64 n m) 9223372036854775808 = 0 := by
    obtain ⟨a, rfl⟩ := Int.eq_ofNat_of_zero_le n0
    obtain ⟨b, rfl⟩ := Int.eq_ofNat_of_zero_le m0
    rw [bits_and_u64_nat a b (by omega) (by omega)]
    have : a &&& b ≤ a := Nat.and_le_left
    exact and_high _ (by omega) (by omega)
  go_enter Yba.func23, Yba.ntmps23
  go_wp2_with fail
  refine (sec_any w.heap.size 0 n s (by assumption) (by assumption) _ ?_ ?_).mono ?_
  · go_simp
  · go_simp
  rintro e w' ⟨rfl, rfl⟩
  go_wp2_with fail
  refine (sec_any (w.heap.size + 1) 0 m t (by assumption) (by assumption) _ ?_ ?_).mono ?_
  · go_simp
  · go_simp
  rintro e w' ⟨rfl, rfl⟩
  go_wp2_with fail
  refine (nsec_any w.heap.size 0 n (by assumption) (by assumption) _ ?_).mono ?_
  · go_simp
  rintro e w' ⟨rfl, rfl⟩
  go_wp2_with fail
  refine (nsec_any (w.heap.size + 1) 0 m (by assumption) (by assumption) _ ?_).mono ?_
  · go_simp
  rintro e w' ⟨rfl, rfl⟩
  go_wp2_with fail
  refine wp_region_held_drew (S := fun W => W.cell? ⟨w.heap.size, 0, none⟩ = some (.int .u64 n) ∧ W.cell? ⟨w.heap.size, 1, none⟩ = some (.int .i64 s) ∧ W.cell? ⟨w.heap.size, 2, none⟩ = some (.pointer none) ∧ W.cell? ⟨w.heap.size + 1, 0, none⟩ = some (.int .u64 m) ∧ W.cell? ⟨w.heap.size + 1, 1, none⟩ = some (.int .i64 t) ∧ W.cell? ⟨w.heap.size + 1, 2, none⟩ = some (.pointer none) ∧ w.heap.size + 1 < W.heap.size ∧ Below w.heap.size w W) (by kernel_rfl) (s23_start w n s m t) (fun hHeld => ?_)
  refine wpAnyH_take (i := 0) (oi := _) (v := .agg #[.int .u64 m, .int .i64 t, .pointer none]) rfl (by kernel_rfl) (by kernel_rfl) (by kernel_rfl) (fun _ _ _ h => h) (Or.inl ⟨by rfl, fun w hS => by go_simp⟩) (by assumption) ?_
  simp only [Act.put, List.setIfInBounds_toArray, List.set_cons_zero, List.set_cons_succ]
  refine wpAnyH_take (i := 1) (oi := _) (v := .int .i64 ((s - t) * 1000000000 + (n - m))) rfl (by kernel_rfl) (by kernel_rfl) (by kernel_rfl) (fun _ _ _ h => h) (Or.inl ⟨by rfl, fun w hS => by go_simp⟩) (by assumption) ?_
  simp only [Act.put, List.setIfInBounds_toArray, List.set_cons_zero, List.set_cons_succ]
  refine wpAnyH_take (i := 3) (oi := _) (v := .agg #[.int .u64 n, .int .i64 s, .pointer none]) rfl (by kernel_rfl) (by kernel_rfl) (by kernel_rfl) (fun _ _ _ h => h) (Or.inl ⟨by rfl, fun w hS => by go_simp⟩) (by assumption) ?_
  simp only [Act.put, List.setIfInBounds_toArray, List.set_cons_zero, List.set_cons_succ]
  refine wpAnyH_ready (rs := [2]) (by kernel_rfl) (by simp) ?_
  refine AllReadyH.cons (o := _) rfl (fun K hK => ?_) AllReadyH.nil
  go_simp
  refine (HA.out _).mono ?_
  rintro e w2 ⟨rfl, hb⟩
  refine hK.out _ _ (s23_call hHeld hb) (fun hHeld2 => ?_)
  clear hK K hHeld hb
  refine wpAnyH_ready (rs := [4]) (by kernel_rfl) (by simp) ?_
  refine AllReadyH.cons (o := _) rfl (fun K hK => ?_) AllReadyH.nil
  go_simp
  refine (equal_any n s n0 n1 _).mono ?_
  rintro e w3 ⟨rfl, hb⟩
  refine hK.out _ _ (s23_call hHeld2 hb) (fun hHeld3 => ?_)
  clear hK K hHeld2 hb
  refine wpAnyH_take (i := 5) (oi := _) (v := .bool true) rfl (by kernel_rfl) (by kernel_rfl) (by kernel_rfl) (fun _ _ _ h => h) (Or.inl ⟨by rfl, fun w hS => by go_simp⟩) (by assumption) ?_
  simp only [Act.put, List.setIfInBounds_toArray, List.set_cons_zero, List.set_cons_succ]
  refine wpAnyH_done (by kernel_rfl) ?_ _
  have HB := hHeld3.2.2.2.2.2.2.2
  clear hHeld3
  go_wp2
  go_ret
  exact ⟨rfl, HB⟩

end Go.Proofs.Ybulkcpmo
