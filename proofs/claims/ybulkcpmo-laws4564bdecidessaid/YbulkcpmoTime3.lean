import Derived.Test.YbulkcpmoTime2
namespace Go.Proofs.Ybulkcpmo
open Go.RowKit

theorem tdivmod (d : Int) (d0 : -100000000000000000 ≤ d) (d1 : d ≤ 100000000000000000) : ∃ q r : Int, d.tdiv 1000000000 = q ∧ d.tmod 1000000000 = r ∧ d = q * 1000000000 + r ∧ -1000000000 < r ∧ r < 1000000000 ∧ -100000000 ≤ q ∧ q ≤ 100000000 := by
  refine ⟨_, _, rfl, rfl, ?_, ?_, ?_, ?_, ?_⟩
  · have := Int.mul_tdiv_add_tmod d 1000000000; omega
  all_goals
    rcases Int.le_total 0 d with h | h
    · have e1 := Int.tdiv_eq_ediv_of_nonneg h (b := 1000000000)
      have e2 := Int.tmod_eq_emod_of_nonneg h (b := 1000000000)
      omega
    · have e1 := Int.tdiv_eq_ediv_of_nonneg (a := -d) (by omega) (b := 1000000000)
      have e2 := Int.tmod_eq_emod_of_nonneg (a := -d) (by omega) (b := 1000000000)
      rw [Int.neg_tdiv] at e1
      rw [Int.neg_tmod] at e2
      omega

set_option maxHeartbeats 1000000 in
theorem add_mid (n s d q r : Int) (hq : d.tdiv 1000000000 = q) (hr : d.tmod 1000000000 = r) (r0 : -1000000000 < r) (r1 : r < 1000000000) (q0 : -100000000 ≤ q) (q1 : q ≤ 100000000)
    (h0 : 0 ≤ n) (h1 : n < 1000000000) (s0 : -100000000000 ≤ s) (s1 : s ≤ 100000000000) (m0 : 0 ≤ n + r) (m1 : n + r < 1000000000) (w : World) :
    Calls Yba.prog 8 #[.agg #[.int .u64 n, .int .i64 s, .pointer none], .int .i64 d] w fun e w' => e = .returned (.agg #[.int .u64 (n + r), .int .i64 (s + (q)), .pointer none]) ∧ Below w.heap.size w w' := by
  have e1 := andNot_mask30 n h0 (by omega)
  have e2 := or_zero_left (n + r) (by omega) (by omega)
  have e3 := and_high (n + r) (by omega) (by omega)
  have m1' : ¬ 1000000000 ≤ n + r := by omega
  have m0' : ¬ n + r < 0 := by omega
  go_enter Yba.func8, Yba.ntmps8
  go_wp2_with (go_at_call 18; refine (nsec_any _ _ n h0 h1 _ ?_).mono ?_; (simp); rintro e w' ⟨rfl, rfl⟩)
  refine (addSec_any w.heap.size 0 (n + r) s (q) (by omega) (by omega) (by omega) (by omega) (by omega) (by omega) _ ?_ ?_ ?_).mono ?_
  · go_simp
  · go_simp
  · go_simp
  rintro e w' ⟨rfl, rfl⟩
  go_wp2
  exact bodyPost_ret (v := .agg #[.int .u64 (n + r), .int .i64 (s + (q)), .pointer none]) (by simp [results, Yba.results8, go_sem]) rfl ⟨rfl, ((Below.refl _ _).alloc (Nat.le_refl _) _).alloc (by simp) _⟩

set_option maxHeartbeats 1000000 in
theorem add_hi (n s d q r : Int) (hq : d.tdiv 1000000000 = q) (hr : d.tmod 1000000000 = r) (r0 : -1000000000 < r) (r1 : r < 1000000000) (q0 : -100000000 ≤ q) (q1 : q ≤ 100000000)
    (h0 : 0 ≤ n) (h1 : n < 1000000000) (s0 : -100000000000 ≤ s) (s1 : s ≤ 100000000000) (m0 : 1000000000 ≤ n + r)  (w : World) :
    Calls Yba.prog 8 #[.agg #[.int .u64 n, .int .i64 s, .pointer none], .int .i64 d] w fun e w' => e = .returned (.agg #[.int .u64 (n + r - 1000000000), .int .i64 (s + (q + 1)), .pointer none]) ∧ Below w.heap.size w w' := by
  have e1 := andNot_mask30 n h0 (by omega)
  have e2 := or_zero_left (n + r - 1000000000) (by omega) (by omega)
  have e3 := and_high (n + r - 1000000000) (by omega) (by omega)
  have m1' : ¬ n + r - 1000000000 < 0 := by omega
  go_enter Yba.func8, Yba.ntmps8
  go_wp2_with (go_at_call 18; refine (nsec_any _ _ n h0 h1 _ ?_).mono ?_; (simp); rintro e w' ⟨rfl, rfl⟩)
  refine (addSec_any w.heap.size 0 (n + r - 1000000000) s (q + 1) (by omega) (by omega) (by omega) (by omega) (by omega) (by omega) _ ?_ ?_ ?_).mono ?_
  · go_simp
  · go_simp
  · go_simp
  rintro e w' ⟨rfl, rfl⟩
  go_wp2
  exact bodyPost_ret (v := .agg #[.int .u64 (n + r - 1000000000), .int .i64 (s + (q + 1)), .pointer none]) (by simp [results, Yba.results8, go_sem]) rfl ⟨rfl, ((Below.refl _ _).alloc (Nat.le_refl _) _).alloc (by simp) _⟩

set_option maxHeartbeats 1000000 in
theorem add_lo (n s d q r : Int) (hq : d.tdiv 1000000000 = q) (hr : d.tmod 1000000000 = r) (r0 : -1000000000 < r) (r1 : r < 1000000000) (q0 : -100000000 ≤ q) (q1 : q ≤ 100000000)
    (h0 : 0 ≤ n) (h1 : n < 1000000000) (s0 : -100000000000 ≤ s) (s1 : s ≤ 100000000000) (m0 : n + r < 0)  (w : World) :
    Calls Yba.prog 8 #[.agg #[.int .u64 n, .int .i64 s, .pointer none], .int .i64 d] w fun e w' => e = .returned (.agg #[.int .u64 (n + r + 1000000000), .int .i64 (s + (q - 1)), .pointer none]) ∧ Below w.heap.size w w' := by
  have e1 := andNot_mask30 n h0 (by omega)
  have e2 := or_zero_left (n + r + 1000000000) (by omega) (by omega)
  have e3 := and_high (n + r + 1000000000) (by omega) (by omega)
  have m1' : ¬ 1000000000 ≤ n + r := by omega
  go_enter Yba.func8, Yba.ntmps8
  go_wp2_with (go_at_call 18; refine (nsec_any _ _ n h0 h1 _ ?_).mono ?_; (simp); rintro e w' ⟨rfl, rfl⟩)
  refine (addSec_any w.heap.size 0 (n + r + 1000000000) s (q - 1) (by omega) (by omega) (by omega) (by omega) (by omega) (by omega) _ ?_ ?_ ?_).mono ?_
  · go_simp
  · go_simp
  · go_simp
  rintro e w' ⟨rfl, rfl⟩
  go_wp2
  exact bodyPost_ret (v := .agg #[.int .u64 (n + r + 1000000000), .int .i64 (s + (q - 1)), .pointer none]) (by simp [results, Yba.results8, go_sem]) rfl ⟨rfl, ((Below.refl _ _).alloc (Nat.le_refl _) _).alloc (by simp) _⟩

end Go.Proofs.Ybulkcpmo
