import Derived.Test.YbulkcpmoDoorWr
import Derived.Deep.RegionHeld3
import Derived.Deep.QuietTactic
import Derived.BigQuiet
namespace Go.Proofs.YbulkcpmoDoor
open Go.RowKit
set_option linter.unusedVariables false

/-- 'renewed' to scheduling. -/
def renew (x : Int) : Int := bits .or .u64 (bits .or .u64 (bits .andNot .u64 x 4294967295) (bits .and .u64 (IntKind.u64.wrap (x + 4)) 4294967292)) 0

set_option maxRecDepth 100000 in
set_option maxHeartbeats 1000000 in
theorem takeIdle (bl ia pl k : Nat) (x : Int) (w : World) (hg : w.cell? ⟨0, 0, none⟩ = some (.bool false)) (b0 : 0 < bl) (i0 : 0 < ia) (p0 : 0 < pl) (hi : bl ≠ ia) (hp : bl ≠ pl) (hip : ia ≠ pl)
    (c8 : w.cell? ⟨bl, 8, none⟩ = some (.slice (some ⟨ia, 0, none⟩) (k + 1) (k + 1))) (ci : w.cell? ⟨ia, k, none⟩ = some (.pointer (some ⟨pl, 0, none⟩))) (c11 : w.cell? ⟨bl, 11, none⟩ = some (.int .i32 ((k : Int) + 1))) (cs : w.cell? ⟨pl, 260, none⟩ = some (.int .u64 x))
    (f8 : w.frozen? ⟨bl, 8, none⟩ = false) (fi : w.frozen? ⟨ia, k, none⟩ = false) (f11 : w.frozen? ⟨bl, 11, none⟩ = false) (fs : w.frozen? ⟨pl, 260, none⟩ = false) (hk : k < 8) :
    Calls Ybad.prog 19 #[.pointer (some ⟨bl, 0, none⟩), .int .i64 (k : Int)] w fun e w' => e = .returned (.pointer (some ⟨pl, 0, none⟩)) ∧
      Wr [(⟨pl, 260, none⟩, .int .u64 (renew x)), (⟨bl, 11, none⟩, .int .i32 (k : Int)), (⟨bl, 8, none⟩, .slice (some ⟨ia, 0, none⟩) k (k + 1)), (⟨ia, k, none⟩, .pointer none), (⟨ia, k, none⟩, .pointer (some ⟨pl, 0, none⟩))] w w' := by
  have hk0 : (0 : Int) ≤ (k : Int) := by omega
  have hk1 : (k : Int) < (k : Int) + 1 := by omega
  go_enter Ybad.func19, Ybad.ntmps19
  go_wp2_with fail
  go_region_held3 (fun W => W.cell? ⟨bl, 8, none⟩ = some (.slice (some ⟨ia, 0, none⟩) (k + 1) (k + 1)) ∧ W.cell? ⟨ia, k, none⟩ = some (.pointer (some ⟨pl, 0, none⟩)) ∧ W.frozen? ⟨ia, k, none⟩ = false) (go_simp) (fail)
  go_wp2_with fail
  refine (addI32 bl 11 ((k : Int) + 1) (-1) _ (by go_simp) (by go_simp)).mono ?_
  rintro e w1 ⟨rfl, rfl⟩
  rw [show wrap32 ((k : Int) + 1 + -1) = k by unfold wrap32; omega]
  go_wp2_with fail
  refine (loadStatus pl x _ (by go_simp)).mono ?_
  rintro e w1 ⟨rfl, rfl⟩
  go_wp2_with fail
  refine (renewed x _).mono ?_
  rintro e w1 ⟨rfl, rfl⟩
  go_wp2_with fail
  refine (storeStatus pl _ (.int .u64 x) _ (by go_simp) (by go_simp)).mono ?_
  rintro e w1 ⟨rfl, rfl⟩
  go_wp2_with fail
  go_ret
  exact ⟨rfl, (Wr.set (Wr.set (Wr.set (Wr.set (Wr.set (Wr.refl w) ci _) (World.cell?_setCell_same _ _ _ ci) _) (u := .slice (some ⟨ia, 0, none⟩) (k + 1) (k + 1)) (by go_simp) _) (u := .int .i32 ((k : Int) + 1)) (by go_simp) _) (u := .int .u64 x) (by go_simp) _).drew⟩
set_option maxRecDepth 100000 in
set_option maxHeartbeats 1000000 in
theorem wtake (wk pl : Nat) (y : Int) (v0 v1 v2 v4 v5 : Value) (w : World) (hne : wk ≠ pl)
    (c0 : w.cell? ⟨wk, 0, none⟩ = some v0) (c1 : w.cell? ⟨wk, 1, none⟩ = some v1) (c2 : w.cell? ⟨wk, 2, none⟩ = some v2) (c4 : w.cell? ⟨wk, 4, none⟩ = some v4) (c5 : w.cell? ⟨wk, 5, none⟩ = some v5) (cs : w.cell? ⟨pl, 260, none⟩ = some (.int .u64 y))
    (f0 : w.frozen? ⟨wk, 0, none⟩ = false) (f1 : w.frozen? ⟨wk, 1, none⟩ = false) (f2 : w.frozen? ⟨wk, 2, none⟩ = false) (f4 : w.frozen? ⟨wk, 4, none⟩ = false) (f5 : w.frozen? ⟨wk, 5, none⟩ = false) :
    Calls Ybad.prog 18 #[.pointer (some ⟨wk, 0, none⟩), .agg #[.pointer (some ⟨pl, 0, none⟩), .bool true, .nilFunc]] w fun e w' => e = .returned (.tuple #[]) ∧
      Wr [(⟨wk, 4, none⟩, .nilFunc), (⟨wk, 5, none⟩, .bool false), (⟨wk, 2, none⟩, .bool true), (⟨wk, 1, none⟩, .int .u64 y), (⟨wk, 0, none⟩, .pointer (some ⟨pl, 0, none⟩))] w w' := by
  have hw : wk < w.heap.size := World.block_lt_of_cell? _ _ c0
  have hp : pl < w.heap.size := World.block_lt_of_cell? _ _ cs
  have hsn := fun W a => run_store Ybad.prog W a .nilFunc .plain rfl
  go_enter Ybad.func18, Ybad.ntmps18
  go_wp2_with fail
  go_region_held3 (fun W => (W.cell? ⟨w.heap.size, 0, none⟩ = some (.pointer (some ⟨pl, 0, none⟩)) ∧ W.cell? ⟨w.heap.size, 1, none⟩ = some (.bool true) ∧ W.cell? ⟨w.heap.size, 2, none⟩ = some .nilFunc) ∧ W.cell? ⟨pl, 260, none⟩ = some (.int .u64 y)) (go_simp) ((go_at_call 28; refine (loadStatus pl y _ (by go_simp)).mono ?_; rintro e w1 ⟨rfl, rfl⟩))
  go_wp2_with fail
  go_end0
  exact ⟨rfl, ((Wr.set (Wr.set (Wr.set (Wr.set (Wr.set (Wr.refl w) c0 _) (u := v1) (by go_simp) _) (u := v2) (by go_simp) _) (u := v5) (by go_simp) _) (u := v4) (by go_simp) _).alloc _).drew⟩
end Go.Proofs.YbulkcpmoDoor
