import Derived.Test.YbulkcpmoDoorTake
namespace Go.Proofs.YbulkcpmoDoor
open Go.RowKit
set_option linter.unusedVariables false

set_option maxRecDepth 100000 in
set_option maxHeartbeats 2000000 in
/-- Another worker stands last. -/
theorem unpark_mid (bl pa wk lw m s : Nat) (u v : Value) (w : World) (h1 : bl ≠ pa) (h2 : bl ≠ wk) (h3 : bl ≠ lw) (h4 : pa ≠ wk) (h5 : pa ≠ lw) (h6 : wk ≠ lw) (hs : s < m) (hm : m < 8)
    (c9 : w.cell? ⟨bl, 9, none⟩ = some (.slice (some ⟨pa, 0, none⟩) (m + 1) (m + 1))) (cm : w.cell? ⟨pa, m, none⟩ = some (.pointer (some ⟨lw, 0, none⟩))) (cs : w.cell? ⟨pa, s, none⟩ = some u) (ck : w.cell? ⟨wk, 8, none⟩ = some (.int .i64 (s : Int))) (cl : w.cell? ⟨lw, 8, none⟩ = some v)
    (f9 : w.frozen? ⟨bl, 9, none⟩ = false) (fm : w.frozen? ⟨pa, m, none⟩ = false) (fs : w.frozen? ⟨pa, s, none⟩ = false) (fk : w.frozen? ⟨wk, 8, none⟩ = false) (fl : w.frozen? ⟨lw, 8, none⟩ = false) :
    Calls Ybad.prog 20 #[.pointer (some ⟨bl, 0, none⟩), .pointer (some ⟨wk, 0, none⟩)] w fun e w' => e = .returned (.tuple #[]) ∧
      Wr [(⟨wk, 8, none⟩, .int .i64 (-1)), (⟨bl, 9, none⟩, .slice (some ⟨pa, 0, none⟩) m (m + 1)), (⟨pa, m, none⟩, .pointer none), (⟨lw, 8, none⟩, .int .i64 (s : Int)), (⟨pa, s, none⟩, .pointer (some ⟨lw, 0, none⟩))] w w' := by
  have hm0 : (0 : Int) ≤ (m : Int) := by omega
  have hm1 : (m : Int) < (m : Int) + 1 := by omega
  have hs0 : (0 : Int) ≤ (s : Int) := by omega
  have hs1 : (s : Int) < (m : Int) + 1 := by omega
  have hsm : s ≠ m := by omega
  have hw00 : IntKind.i64.wrap (m : Int) = m := by rw [IntKind.wrap_i64]; omega
  have hw2 : IntKind.i64.wrap ((m : Int) + 1 - 1) = m := by rw [Int.add_sub_cancel]; exact hw00
  have hw3 : IntKind.i64.wrap (m : Int) = m := hw00
  have hw0 : wrap64 (m : Int) = m := by unfold wrap64; omega
  have hw1 : wrap64 ((m : Int) + 1 - 1) = m := by unfold wrap64; omega
  go_enter Ybad.func20, Ybad.ntmps20
  go_wp2_with fail
  go_region_held3 (fun W => W.cell? ⟨bl, 9, none⟩ = some (.slice (some ⟨pa, 0, none⟩) (m + 1) (m + 1)) ∧ W.cell? ⟨pa, m, none⟩ = some (.pointer (some ⟨lw, 0, none⟩))) (go_simp) (fail)
  go_wp2_with fail
  go_region_held3 (fun W => W.cell? ⟨bl, 9, none⟩ = some (.slice (some ⟨pa, 0, none⟩) (m + 1) (m + 1)) ∧ W.cell? ⟨wk, 8, none⟩ = some (.int .i64 (s : Int))) (go_simp) (fail)
  go_wp2_with fail
  go_region_held3 (fun W => W.cell? ⟨bl, 9, none⟩ = some (.slice (some ⟨pa, 0, none⟩) (m + 1) (m + 1))) (go_simp) (fail)
  go_wp2_with fail
  go_region
  go_wp2_with fail
  go_end0
  exact ⟨rfl, (Wr.set (Wr.set (Wr.set (Wr.set (Wr.set (Wr.refl w) cs _) (u := v) (by go_simp) _) (u := .pointer (some ⟨lw, 0, none⟩)) (by go_simp) _) (u := .slice (some ⟨pa, 0, none⟩) (m + 1) (m + 1)) (by go_simp) _) (u := .int .i64 (s : Int)) (by go_simp) _).drew.drew.drew.drew⟩
set_option maxRecDepth 100000 in
set_option maxHeartbeats 2000000 in
/-- The worker itself stands last. -/
theorem unpark_last (bl pa wk m : Nat) (w : World) (h1 : bl ≠ pa) (h2 : bl ≠ wk) (h4 : pa ≠ wk) (hm : m < 8)
    (c9 : w.cell? ⟨bl, 9, none⟩ = some (.slice (some ⟨pa, 0, none⟩) (m + 1) (m + 1))) (cm : w.cell? ⟨pa, m, none⟩ = some (.pointer (some ⟨wk, 0, none⟩))) (ck : w.cell? ⟨wk, 8, none⟩ = some (.int .i64 (m : Int)))
    (f9 : w.frozen? ⟨bl, 9, none⟩ = false) (fm : w.frozen? ⟨pa, m, none⟩ = false) (fk : w.frozen? ⟨wk, 8, none⟩ = false) :
    Calls Ybad.prog 20 #[.pointer (some ⟨bl, 0, none⟩), .pointer (some ⟨wk, 0, none⟩)] w fun e w' => e = .returned (.tuple #[]) ∧
      Wr [(⟨wk, 8, none⟩, .int .i64 (-1)), (⟨bl, 9, none⟩, .slice (some ⟨pa, 0, none⟩) m (m + 1)), (⟨pa, m, none⟩, .pointer none), (⟨wk, 8, none⟩, .int .i64 (m : Int)), (⟨pa, m, none⟩, .pointer (some ⟨wk, 0, none⟩))] w w' := by
  have hm0 : (0 : Int) ≤ (m : Int) := by omega
  have hm1 : (m : Int) < (m : Int) + 1 := by omega
  have hw00 : IntKind.i64.wrap (m : Int) = m := by rw [IntKind.wrap_i64]; omega
  have hw2 : IntKind.i64.wrap ((m : Int) + 1 - 1) = m := by rw [Int.add_sub_cancel]; exact hw00
  have hw3 : IntKind.i64.wrap (m : Int) = m := hw00
  have hw0 : wrap64 (m : Int) = m := by unfold wrap64; omega
  have hw1 : wrap64 ((m : Int) + 1 - 1) = m := by unfold wrap64; omega
  go_enter Ybad.func20, Ybad.ntmps20
  go_wp2_with fail
  go_region_held3 (fun W => W.cell? ⟨bl, 9, none⟩ = some (.slice (some ⟨pa, 0, none⟩) (m + 1) (m + 1)) ∧ W.cell? ⟨pa, m, none⟩ = some (.pointer (some ⟨wk, 0, none⟩))) (go_simp) (fail)
  go_wp2_with fail
  go_region_held3 (fun W => W.cell? ⟨bl, 9, none⟩ = some (.slice (some ⟨pa, 0, none⟩) (m + 1) (m + 1)) ∧ W.cell? ⟨wk, 8, none⟩ = some (.int .i64 (m : Int))) (go_simp) (fail)
  go_wp2_with fail
  go_region_held3 (fun W => W.cell? ⟨bl, 9, none⟩ = some (.slice (some ⟨pa, 0, none⟩) (m + 1) (m + 1))) (go_simp) (fail)
  go_wp2_with fail
  go_region
  go_wp2_with fail
  go_end0
  exact ⟨rfl, (Wr.set (Wr.set (Wr.set (Wr.set (Wr.set (Wr.refl w) cm _) (u := .int .i64 (m : Int)) (by go_simp) _) (u := .pointer (some ⟨wk, 0, none⟩)) (by go_simp) _) (u := .slice (some ⟨pa, 0, none⟩) (m + 1) (m + 1)) (by go_simp) _) (u := .int .i64 (m : Int)) (by go_simp) _).drew.drew.drew.drew⟩

/-- Either. -/
theorem unpark_any (bl pa wk lw m s : Nat) (u v : Value) (w : World) (h1 : bl ≠ pa) (h2 : bl ≠ wk) (h3 : bl ≠ lw) (h4 : pa ≠ wk) (h5 : pa ≠ lw) (h6 : (wk ≠ lw ∧ s < m) ∨ (wk = lw ∧ s = m)) (hm : m < 8)
    (c9 : w.cell? ⟨bl, 9, none⟩ = some (.slice (some ⟨pa, 0, none⟩) (m + 1) (m + 1))) (cm : w.cell? ⟨pa, m, none⟩ = some (.pointer (some ⟨lw, 0, none⟩))) (cs : w.cell? ⟨pa, s, none⟩ = some u) (ck : w.cell? ⟨wk, 8, none⟩ = some (.int .i64 (s : Int))) (cl : w.cell? ⟨lw, 8, none⟩ = some v)
    (f9 : w.frozen? ⟨bl, 9, none⟩ = false) (fm : w.frozen? ⟨pa, m, none⟩ = false) (fs : w.frozen? ⟨pa, s, none⟩ = false) (fk : w.frozen? ⟨wk, 8, none⟩ = false) (fl : w.frozen? ⟨lw, 8, none⟩ = false) :
    Calls Ybad.prog 20 #[.pointer (some ⟨bl, 0, none⟩), .pointer (some ⟨wk, 0, none⟩)] w fun e w' => e = .returned (.tuple #[]) ∧
      Wr [(⟨wk, 8, none⟩, .int .i64 (-1)), (⟨bl, 9, none⟩, .slice (some ⟨pa, 0, none⟩) m (m + 1)), (⟨pa, m, none⟩, .pointer none), (⟨lw, 8, none⟩, .int .i64 (s : Int)), (⟨pa, s, none⟩, .pointer (some ⟨lw, 0, none⟩))] w w' := by
  rcases h6 with ⟨h6, hs⟩ | ⟨rfl, rfl⟩
  · exact unpark_mid bl pa wk lw m s u v w h1 h2 h3 h4 h5 h6 hs hm c9 cm cs ck cl f9 fm fs fk fl
  · exact unpark_last bl pa wk s w h1 h2 h4 hm c9 cm ck f9 fm fk
end Go.Proofs.YbulkcpmoDoor
