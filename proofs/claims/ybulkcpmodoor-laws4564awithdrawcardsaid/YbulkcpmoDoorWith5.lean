import Derived.Test.YbulkcpmoDoorWith4
namespace Go.Proofs.YbulkcpmoDoor
open Go.RowKit Go.MuLone
set_option linter.unusedVariables false
set_option linter.unusedSimpArgs false

set_option maxRecDepth 100000 in
set_option maxHeartbeats 2000000 in
/-- The worker searches already. -/
theorem with_already {bl ia pa pl wk lw k m s : Nat} {x P n : Int} {po : Option Addr} {v1 v4 v5 u v : Value} {w : World} (HR : Hid (Ready w bl ia pa pl wk lw k m s x P n po v1 v4 v5 u v true)) :
    Calls Ybad.prog 8 #[.pointer (some ⟨bl, 0, none⟩), .pointer (some ⟨wk, 0, none⟩), .bool false] w fun e w' => e = .returned (.bool true) ∧ Wr (writes bl ia pa pl wk lw k m s x ++ [(⟨bl, 6, none⟩, .int .i32 1)]) w w' := by
  have l6 := HR.out.l6
  have f6 := HR.out.fz.1 6
  have l8 := HR.out.l8
  have c8 := HR.out.c8
  have c2 := HR.out.c2
  have hbw := HR.out.six.blwk
  have hs0 : ¬ (s : Int) < 0 := by omega
  have hk0 : ((k : Int) + 1 == 0) = false := by simp; omega
  go_enter Ybad.func8, Ybad.ntmps8
  go_wp2_with fail
  refine (lock_free Ybad.muLib ⟨bl, 6, none⟩ _ l6 f6).mono ?_
  rintro e w1 ⟨rfl, rfl⟩
  go_upto_if 28 with fail
  go_cut [] from 3 (fun wx => Hid (Found wx bl ia pa pl wk lw k m s x (.pointer po) v1 (.bool true) v4 v5 u v) ∧ Hid (Wr [(⟨bl, 6, none⟩, .int .i32 1)] w wx))
  case first =>
    go_wp2_with fail
    refine (start_already bl wk _ (by go_simp)).mono ?_
    rintro e w1 ⟨rfl, rfl⟩
    have W : Wr [(⟨bl, 6, none⟩, .int .i32 1)] w (w.setCell ⟨bl, 6, none⟩ (.int .i32 1)) := Wr.set (Wr.refl w) l6 _
    have HF : Hid (Found _ bl ia pa pl wk lw k m s x (.pointer po) v1 (.bool true) v4 v5 u v) := HR.out.found W (fun a h1 h2 h3 => by simp [look, Ne.symm h1]) (by go_simp) (by go_simp)
    have HW : Hid (Wr _ w _) := W
    clear W l6 f6 l8 c8 c2
    go_wp2_with fail
    go_meet
    exact ⟨HF, HW⟩
  case rest =>
  obtain ⟨HF, HW⟩ := hcut
  first
    | exact with_rest HF HW
    | (apply_assumption; exact with_rest HF HW)

set_option maxRecDepth 100000 in
set_option maxHeartbeats 2000000 in
/-- The worker begins to search. -/
theorem with_start {bl ia pa pl wk lw k m s : Nat} {x P n : Int} {po : Option Addr} {v1 v4 v5 u v : Value} {w : World} (HR : Hid (Ready w bl ia pa pl wk lw k m s x P n po v1 v4 v5 u v false)) (hb : 2 * n < P - ((k : Int) + 1) + heldN po) :
    Calls Ybad.prog 8 #[.pointer (some ⟨bl, 0, none⟩), .pointer (some ⟨wk, 0, none⟩), .bool false] w fun e w' => e = .returned (.bool true) ∧ Wr (writes bl ia pa pl wk lw k m s x ++ [(⟨wk, 2, none⟩, .bool true), (⟨bl, 13, none⟩, .int .i32 (n + 1)), (⟨bl, 6, none⟩, .int .i32 1)]) w w' := by
  have l6 := HR.out.l6
  have f6 := HR.out.fz.1 6
  have l8 := HR.out.l8
  have c8 := HR.out.c8
  have hbw := HR.out.six.blwk
  have hs0 : ¬ (s : Int) < 0 := by omega
  have hk0 : ((k : Int) + 1 == 0) = false := by simp; omega
  go_enter Ybad.func8, Ybad.ntmps8
  go_wp2_with fail
  refine (lock_free Ybad.muLib ⟨bl, 6, none⟩ _ l6 f6).mono ?_
  rintro e w1 ⟨rfl, rfl⟩
  go_upto_if 28 with fail
  go_cut [] from 3 (fun wx => Hid (Found wx bl ia pa pl wk lw k m s x (.pointer po) v1 (.bool true) v4 v5 u v) ∧ Hid (Wr [(⟨wk, 2, none⟩, .bool true), (⟨bl, 13, none⟩, .int .i32 (n + 1)), (⟨bl, 6, none⟩, .int .i32 1)] w wx))
  case first =>
    go_wp2_with fail
    have W0 : Wr [(⟨bl, 6, none⟩, .int .i32 1)] w (w.setCell ⟨bl, 6, none⟩ (.int .i32 1)) := Wr.set (Wr.refl w) l6 _
    have hk := HR.out.km.1
    have p1 := HR.out.pos.1
    have qwk := World.block_lt_of_cell? _ _ HR.out.c0
    have qbl := World.block_lt_of_cell? _ _ HR.out.l8
    refine (start_some bl wk po P ((k : Int) + 1) n _ (W0.miss HR.out.g (by simp [look, Nat.pos_iff_ne_zero.1 p1])) HR.out.nums.1 ⟨by omega, by omega⟩ HR.out.nums.2 (W0.miss HR.out.c0 (by simp [look, hbw])) (W0.miss HR.out.c2 (by simp [look, hbw])) (W0.miss HR.out.l0 (by simp [look])) (W0.miss HR.out.l11 (by simp [look])) (W0.miss HR.out.l13 (by simp [look])) (HR.out.fz.2.2.2.2.1.wr W0 qwk 2) (HR.out.fz.1.wr W0 qbl 13) hbw).mono ?_
    rintro e w1 ⟨-, h2⟩
    obtain ⟨rfl, W1⟩ := h2 hb
    have W := W0.trans W1
    have HF : Hid (Found _ bl ia pa pl wk lw k m s x (.pointer po) v1 (.bool true) v4 v5 u v) := HR.out.found W (fun a h1 h2 h3 => by simp [look, Ne.symm h1, Ne.symm h2, Ne.symm h3]) (W.hit HR.out.l6 (by simp [look, hbw, hbw.symm])) (W.hit HR.out.c2 (by simp [look]))
    have HW : Hid (Wr _ w _) := W
    clear W W0 W1 l6 f6 l8 c8
    go_wp2_with fail
    go_meet
    exact ⟨HF, HW⟩
  case rest =>
  obtain ⟨HF, HW⟩ := hcut
  first
    | exact with_rest HF HW
    | (apply_assumption; exact with_rest HF HW)

set_option maxRecDepth 100000 in
set_option maxHeartbeats 2000000 in
/-- Enough workers search already: no. -/
theorem with_no {bl ia pa pl wk lw k m s : Nat} {x P n : Int} {po : Option Addr} {v1 v4 v5 u v : Value} {w : World} (HR : Hid (Ready w bl ia pa pl wk lw k m s x P n po v1 v4 v5 u v false)) (hb : P - ((k : Int) + 1) + heldN po ≤ 2 * n) :
    Calls Ybad.prog 8 #[.pointer (some ⟨bl, 0, none⟩), .pointer (some ⟨wk, 0, none⟩), .bool false] w fun e w' => e = .returned (.bool false) ∧ Wr [(⟨bl, 6, none⟩, .int .i32 0), (⟨bl, 6, none⟩, .int .i32 1)] w w' := by
  have l6 := HR.out.l6
  have f6 := HR.out.fz.1 6
  have l8 := HR.out.l8
  have c8 := HR.out.c8
  have hbw := HR.out.six.blwk
  have hs0 : ¬ (s : Int) < 0 := by omega
  have hk0 : ((k : Int) + 1 == 0) = false := by simp; omega
  go_enter Ybad.func8, Ybad.ntmps8
  go_wp2_with fail
  refine (lock_free Ybad.muLib ⟨bl, 6, none⟩ _ l6 f6).mono ?_
  rintro e w1 ⟨rfl, rfl⟩
  go_wp2_with fail
  have W0 : Wr [(⟨bl, 6, none⟩, .int .i32 1)] w (w.setCell ⟨bl, 6, none⟩ (.int .i32 1)) := Wr.set (Wr.refl w) l6 _
  have hk := HR.out.km.1
  have p1 := HR.out.pos.1
  have qwk := World.block_lt_of_cell? _ _ HR.out.c0
  have qbl := World.block_lt_of_cell? _ _ HR.out.l8
  refine (start_some bl wk po P ((k : Int) + 1) n _ (W0.miss HR.out.g (by simp [look, Nat.pos_iff_ne_zero.1 p1])) HR.out.nums.1 ⟨by omega, by omega⟩ HR.out.nums.2 (W0.miss HR.out.c0 (by simp [look, hbw])) (W0.miss HR.out.c2 (by simp [look, hbw])) (W0.miss HR.out.l0 (by simp [look])) (W0.miss HR.out.l11 (by simp [look])) (W0.miss HR.out.l13 (by simp [look])) (HR.out.fz.2.2.2.2.1.wr W0 qwk 2) (HR.out.fz.1.wr W0 qbl 13) hbw).mono ?_
  rintro e w1 ⟨h2, -⟩
  obtain ⟨rfl, W1⟩ := h2 hb
  have HW1 : Hid (Wr _ w w1) := W0.trans W1
  clear W0 W1 l6 f6 l8 c8 h2
  go_wp2_with fail
  have h6 : w1.cell? ⟨bl, 6, none⟩ = some (.int .i32 1) := HW1.out.hit HR.out.l6 (by simp [look])
  refine (unlock_held Ybad.muLib ⟨bl, 6, none⟩ _ h6 (HR.out.fz.1.wr HW1.out qbl 6)).mono ?_
  rintro e w4 ⟨rfl, rfl⟩
  have HW5 : Hid (Wr _ w _) := HW1.out.set h6 (.int .i32 0)
  clear h6
  go_wp2_with fail
  go_ret
  exact ⟨rfl, HW5.out⟩
end Go.Proofs.YbulkcpmoDoor
