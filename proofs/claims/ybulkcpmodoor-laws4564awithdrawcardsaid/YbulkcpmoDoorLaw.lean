import Derived.Test.YbulkcpmoDoorSegB
import Derived.Deep.CutRange
namespace Go.Proofs.YbulkcpmoDoor
open Go.RowKit Go.MuLone
set_option linter.unusedVariables false
set_option linter.unusedSimpArgs false

set_option maxRecDepth 100000 in
set_option maxHeartbeats 20000000 in
theorem withdraw_true (p i pk sl sc : Nat) (st : Int) (ws sr hp : Bool) (w : World) (b1 : p < 256) (b2 : i < 256) (b3 : pk < 256) (b4 : sl < 256) (b5 : sc < 256) (hst : 0 ≤ st ∧ st < 18446744073709551616) (hg : w.cell? ⟨0, 0, none⟩ = some (.bool false)) :
    Calls Ybad.prog 3 #[.int .u8 p, .int .u8 i, .int .u8 pk, .int .u8 sl, .int .u8 sc, .int .u64 st, .bool ws, .bool sr, .bool hp] w fun e w' => e = .returned (.bool true) ∧ Below w.heap.size w w' := by
  have HG : Hid (w.cell? ⟨0, 0, none⟩ = some (.bool false)) := hg
  clear hg
  obtain ⟨P, hP, r1⟩ : ∃ P : Int, (0 ≤ P ∧ P < 16) ∧ (p : Int) % 16 = P := ⟨_, by omega, rfl⟩
  obtain ⟨K, hK, r2⟩ : ∃ K : Nat, K < 8 ∧ (i : Int) % 8 = (K : Int) := ⟨i % 8, by omega, by omega⟩
  obtain ⟨M, hM, r3⟩ : ∃ M : Nat, (1 ≤ M ∧ M ≤ 6) ∧ 1 + (pk : Int) % 6 = (M : Int) := ⟨1 + pk % 6, by omega, by omega⟩
  obtain ⟨s, hs, r4⟩ : ∃ s : Nat, s ≤ M ∧ (sl : Int) % ((M : Int) + 1) = (s : Int) := ⟨sl % (M + 1), Nat.le_of_lt_succ (Nat.mod_lt _ (Nat.succ_pos _)), by rw [Int.natCast_emod]; rfl⟩
  obtain ⟨n, hn, r5⟩ : ∃ n : Int, (0 ≤ n ∧ n < 12) ∧ (sc : Int) % 12 = n := ⟨_, by omega, rfl⟩
  have HN : Hid (Num K M s P n st) := ⟨hK, hM, hs, hP, hn, hst⟩
  have HR : Hid ((sl : Int) % ((M : Int) + 1) = (s : Int)) := r4
  clear r4
  go_enter Ybad.func3, Ybad.ntmps3
  go_upto_region 6 with fail
  go_cut [24] from 47 to 66 (fun v wx => v = .pointer (some ⟨w.heap.size, 0, none⟩) ∧ Hid (SA w wx w.heap.size P))
  case first =>
    go_wp2_with fail
    refine (newLot P w).mono ?_
    rintro e w1 ⟨rfl, W1, h1, h2, k0, k6, k8, k9, k11, k13⟩
    have HA : Hid (SA w w1 w.heap.size P) := ⟨⟨W1.below (Nat.le_refl _) (fun p hp => by cases hp), rfl, World.block_lt_of_cell? _ _ HG.out, by omega, W1.miss HG.out rfl, fun b hb hb2 => by
      obtain rfl : b = w.heap.size := by omega
      exact h2, k0, k6, k8, k9, k11, k13⟩, h1⟩
    clear W1 h1 h2 k0 k6 k8 k9 k11 k13
    go_wp2_with fail
    go_meet
    exact ⟨rfl, HA⟩
  case rest =>
  obtain ⟨rfl, HA⟩ := hcut
  rw [HR.out]
  first
    | exact segB HA HN
    | (apply_assumption; exact segB HA HN)
end Go.Proofs.YbulkcpmoDoor
