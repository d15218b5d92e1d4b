import Derived.Test.YbulkcpmoDoorStart
namespace Go.Proofs.YbulkcpmoDoor
open Go.RowKit Go.MuLone
set_option linter.unusedVariables false

/-- The worker is not parked, or no processor is idle. -/
theorem with_none (bl wk k cap : Nat) (ia : Option Addr) (s : Int) (ws : Bool) (w : World) (hne : bl ≠ wk) (hc : s < 0 ∨ k = 0)
    (l6 : w.cell? ⟨bl, 6, none⟩ = some (.int .i32 0)) (f6 : w.frozen? ⟨bl, 6, none⟩ = false) (c8 : w.cell? ⟨wk, 8, none⟩ = some (.int .i64 s)) (l8 : w.cell? ⟨bl, 8, none⟩ = some (.slice ia k cap)) :
    Calls Ybad.prog 8 #[.pointer (some ⟨bl, 0, none⟩), .pointer (some ⟨wk, 0, none⟩), .bool ws] w fun e w' => e = .returned (.bool false) ∧ Wr [(⟨bl, 6, none⟩, .int .i32 0), (⟨bl, 6, none⟩, .int .i32 1)] w w' := by
  go_enter Ybad.func8, Ybad.ntmps8
  go_wp2_with fail
  refine (lock_free Ybad.muLib ⟨bl, 6, none⟩ _ l6 f6).mono ?_
  rintro e w1 ⟨rfl, rfl⟩
  rcases hc with hc | rfl
  · go_wp2_with fail
    refine (unlock_held Ybad.muLib ⟨bl, 6, none⟩ _ (by go_simp) (by go_simp)).mono ?_
    rintro e w1 ⟨rfl, rfl⟩
    go_wp2_with fail
    go_ret
    exact ⟨rfl, Wr.set (Wr.set (Wr.refl w) l6 _) (u := .int .i32 1) (by go_simp) _⟩
  · by_cases hc : s < 0
    · go_wp2_with fail
      refine (unlock_held Ybad.muLib ⟨bl, 6, none⟩ _ (by go_simp) (by go_simp)).mono ?_
      rintro e w1 ⟨rfl, rfl⟩
      go_wp2_with fail
      go_ret
      exact ⟨rfl, Wr.set (Wr.set (Wr.refl w) l6 _) (u := .int .i32 1) (by go_simp) _⟩
    · go_wp2_with fail
      refine (unlock_held Ybad.muLib ⟨bl, 6, none⟩ _ (by go_simp) (by go_simp)).mono ?_
      rintro e w1 ⟨rfl, rfl⟩
      go_wp2_with fail
      go_ret
      exact ⟨rfl, Wr.set (Wr.set (Wr.refl w) l6 _) (u := .int .i32 1) (by go_simp) _⟩
end Go.Proofs.YbulkcpmoDoor
