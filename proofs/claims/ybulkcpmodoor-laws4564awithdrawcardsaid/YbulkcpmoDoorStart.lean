import Derived.Test.YbulkcpmoDoorUnpark
namespace Go.Proofs.YbulkcpmoDoor
open Go.RowKit
set_option linter.unusedVariables false

theorem start_already (bl wk : Nat) (w : World) (c2 : w.cell? ⟨wk, 2, none⟩ = some (.bool true)) :
    Calls Ybad.prog 17 #[.pointer (some ⟨bl, 0, none⟩), .pointer (some ⟨wk, 0, none⟩)] w fun e w' => e = .returned (.bool true) ∧ w' = w := by
  go_enter Ybad.func17, Ybad.ntmps17
  go_wp2
  go_ret
  exact ⟨rfl, rfl⟩

/-- 1 while the worker holds no processor. -/
def heldN : Option Addr → Int
  | none => 1
  | some _ => 0

set_option maxRecDepth 100000 in
set_option maxHeartbeats 2000000 in
theorem start_some (bl wk : Nat) (po : Option Addr) (P K n : Int) (w : World) (hg : w.cell? ⟨0, 0, none⟩ = some (.bool false)) (hP : 0 ≤ P ∧ P < 16) (hK : 0 ≤ K ∧ K < 8) (hn : 0 ≤ n ∧ n < 12)
    (c0 : w.cell? ⟨wk, 0, none⟩ = some (.pointer po)) (c2 : w.cell? ⟨wk, 2, none⟩ = some (.bool false)) (l0 : w.cell? ⟨bl, 0, none⟩ = some (.int .i64 P)) (l11 : w.cell? ⟨bl, 11, none⟩ = some (.int .i32 K)) (l13 : w.cell? ⟨bl, 13, none⟩ = some (.int .i32 n))
    (f2 : w.frozen? ⟨wk, 2, none⟩ = false) (f13 : w.frozen? ⟨bl, 13, none⟩ = false) (hne : bl ≠ wk) :
    Calls Ybad.prog 17 #[.pointer (some ⟨bl, 0, none⟩), .pointer (some ⟨wk, 0, none⟩)] w fun e w' =>
      (P - K + heldN po ≤ 2 * n → e = .returned (.bool false) ∧ Wr [] w w') ∧ (2 * n < P - K + heldN po → e = .returned (.bool true) ∧ Wr [(⟨wk, 2, none⟩, .bool true), (⟨bl, 13, none⟩, .int .i32 (n + 1))] w w') := by
  obtain ⟨p0, p1⟩ := hP
  obtain ⟨k0, k1⟩ := hK
  obtain ⟨n0, n1⟩ := hn
  have q0 : wrap32 P = P := by unfold wrap32; omega
  have q1 : wrap32 (P - K) = P - K := by unfold wrap32; omega
  have q2 : wrap32 (2 * n) = 2 * n := by unfold wrap32; omega
  have q4 : wrap32 (n + 1) = n + 1 := by unfold wrap32; omega
  cases po with
  | none =>
    have q3 : wrap32 (P - K + 1) = P - K + 1 := by unfold wrap32; omega
    by_cases hb : P - K + 1 ≤ 2 * n
    · have hb1 : decide (P - K + 1 ≤ 2 * n) = true := by simp [hb]
      go_enter Ybad.func17, Ybad.ntmps17
      go_wp2_with fail
      refine wp_loop_rounds 1 ?_
      rw [rounds_succ]
      go_wp2_with fail
      refine (loadI32 bl 13 n _ l13).mono ?_
      rintro e w1 ⟨rfl, rfl⟩
      go_wp2_with fail
      go_region_held3 (fun W => W.cell? ⟨bl, 0, none⟩ = some (.int .i64 P) ∧ W.cell? ⟨bl, 11, none⟩ = some (.int .i32 K)) (go_simp) ((go_at_call 9; refine (loadI32 bl 11 K _ (by go_simp)).mono ?_; rintro e w1 ⟨rfl, rfl⟩))
      go_wp2_with fail
      go_ret
      exact ⟨fun _ => ⟨rfl, (Wr.refl _).drew⟩, fun h => by simp only [heldN] at h; omega⟩
    · have hb1 : decide (P - K + 1 ≤ 2 * n) = false := by simp [hb]
      go_enter Ybad.func17, Ybad.ntmps17
      go_wp2_with fail
      refine wp_loop_rounds 1 ?_
      rw [rounds_succ]
      go_wp2_with fail
      refine (loadI32 bl 13 n _ l13).mono ?_
      rintro e w1 ⟨rfl, rfl⟩
      go_wp2_with fail
      go_region_held3 (fun W => W.cell? ⟨bl, 0, none⟩ = some (.int .i64 P) ∧ W.cell? ⟨bl, 11, none⟩ = some (.int .i32 K)) (go_simp) ((go_at_call 9; refine (loadI32 bl 11 K _ (by go_simp)).mono ?_; rintro e w1 ⟨rfl, rfl⟩))
      go_wp2_with fail
      refine (casI32 bl 13 n (n + 1) _ (by go_simp) (by go_simp)).mono ?_
      rintro e w1 ⟨rfl, rfl⟩
      go_wp2_with fail
      go_ret
      exact ⟨fun h => by simp only [heldN] at h; omega, fun _ => ⟨rfl, (Wr.set (Wr.set (Wr.refl _) l13 _) (u := .bool false) (by go_simp) _).drew⟩⟩
  | some a =>
    have q3 : wrap32 (P - K) = P - K := by unfold wrap32; omega
    by_cases hb : P - K ≤ 2 * n
    · have hb1 : decide (P - K ≤ 2 * n) = true := by simp [hb]
      go_enter Ybad.func17, Ybad.ntmps17
      go_wp2_with fail
      refine wp_loop_rounds 1 ?_
      rw [rounds_succ]
      go_wp2_with fail
      refine (loadI32 bl 13 n _ l13).mono ?_
      rintro e w1 ⟨rfl, rfl⟩
      go_wp2_with fail
      go_region_held3 (fun W => W.cell? ⟨bl, 0, none⟩ = some (.int .i64 P) ∧ W.cell? ⟨bl, 11, none⟩ = some (.int .i32 K)) (go_simp) ((go_at_call 9; refine (loadI32 bl 11 K _ (by go_simp)).mono ?_; rintro e w1 ⟨rfl, rfl⟩))
      go_wp2_with fail
      go_ret
      exact ⟨fun _ => ⟨rfl, (Wr.refl _).drew⟩, fun h => by simp only [heldN] at h; omega⟩
    · have hb1 : decide (P - K ≤ 2 * n) = false := by simp [hb]
      go_enter Ybad.func17, Ybad.ntmps17
      go_wp2_with fail
      refine wp_loop_rounds 1 ?_
      rw [rounds_succ]
      go_wp2_with fail
      refine (loadI32 bl 13 n _ l13).mono ?_
      rintro e w1 ⟨rfl, rfl⟩
      go_wp2_with fail
      go_region_held3 (fun W => W.cell? ⟨bl, 0, none⟩ = some (.int .i64 P) ∧ W.cell? ⟨bl, 11, none⟩ = some (.int .i32 K)) (go_simp) ((go_at_call 9; refine (loadI32 bl 11 K _ (by go_simp)).mono ?_; rintro e w1 ⟨rfl, rfl⟩))
      go_wp2_with fail
      refine (casI32 bl 13 n (n + 1) _ (by go_simp) (by go_simp)).mono ?_
      rintro e w1 ⟨rfl, rfl⟩
      go_wp2_with fail
      go_ret
      exact ⟨fun h => by simp only [heldN] at h; omega, fun _ => ⟨rfl, (Wr.set (Wr.set (Wr.refl _) l13 _) (u := .bool false) (by go_simp) _).drew⟩⟩
end Go.Proofs.YbulkcpmoDoor
