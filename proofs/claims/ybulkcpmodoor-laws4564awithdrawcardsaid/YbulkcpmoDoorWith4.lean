import Derived.Test.YbulkcpmoDoorWith3
import Derived.Deep.CutBlock
import Derived.Deep.Cut
namespace Go.Proofs.YbulkcpmoDoor
open Go.RowKit Go.MuLone
set_option linter.unusedVariables false
set_option linter.unusedSimpArgs false

set_option maxRecDepth 100000 in
set_option maxHeartbeats 2000000 in
/-- The worker was searching: it is counted again. -/
theorem with_add {bl ia pa pl wk lw k m s : Nat} {x P n : Int} {po : Option Addr} {v1 v4 v5 u v : Value} {sr : Bool} {w : World} (HR : Hid (Ready w bl ia pa pl wk lw k m s x P n po v1 v4 v5 u v sr)) :
    Calls Ybad.prog 8 #[.pointer (some ⟨bl, 0, none⟩), .pointer (some ⟨wk, 0, none⟩), .bool true] w fun e w' => e = .returned (.bool true) ∧ Wr (writes bl ia pa pl wk lw k m s x ++ [(⟨bl, 13, none⟩, .int .i32 (n + 1)), (⟨bl, 6, none⟩, .int .i32 1)]) w w' := by
  have l6 := HR.out.l6
  have f6 := HR.out.fz.1 6
  have l8 := HR.out.l8
  have l13 := HR.out.l13
  have f13 := HR.out.fz.1 13
  have c8 := HR.out.c8
  have c2 := HR.out.c2
  have hbw := HR.out.six.blwk
  have hs0 : ¬ (s : Int) < 0 := by omega
  have hk0 : ((k : Int) + 1 == 0) = false := by simp; omega
  obtain ⟨n0, n1⟩ := HR.out.nums.2
  have q4 : wrap32 (n + 1) = n + 1 := by unfold wrap32; omega
  go_enter Ybad.func8, Ybad.ntmps8
  go_wp2_with fail
  refine (lock_free Ybad.muLib ⟨bl, 6, none⟩ _ l6 f6).mono ?_
  rintro e w1 ⟨rfl, rfl⟩
  go_upto_if 28 with fail
  go_cut [] from 3 (fun wx => Hid (Found wx bl ia pa pl wk lw k m s x (.pointer po) v1 (.bool sr) v4 v5 u v) ∧ Hid (Wr [(⟨bl, 13, none⟩, .int .i32 (n + 1)), (⟨bl, 6, none⟩, .int .i32 1)] w wx))
  case first =>
    go_wp2_with fail
    refine (addI32 bl 13 n 1 _ (by go_simp) (by go_simp)).mono ?_
    rintro e w1 ⟨rfl, rfl⟩
    rw [q4]
    have W : Wr [(⟨bl, 13, none⟩, .int .i32 (n + 1)), (⟨bl, 6, none⟩, .int .i32 1)] w ((w.setCell ⟨bl, 6, none⟩ (.int .i32 1)).setCell ⟨bl, 13, none⟩ (.int .i32 (n + 1))) := Wr.set (Wr.set (Wr.refl w) l6 _) (u := .int .i32 n) (by go_simp) _
    have HF : Hid (Found _ bl ia pa pl wk lw k m s x (.pointer po) v1 (.bool sr) v4 v5 u v) := HR.out.found W (fun a h1 h2 h3 => by simp [look, Ne.symm h1, Ne.symm h2]) (by go_simp) (by go_simp)
    have HW : Hid (Wr _ w _) := W
    clear W l6 f6 l8 l13 f13 c8 c2
    go_wp2_with fail
    go_meet
    exact ⟨HF, HW⟩
  case rest =>
  obtain ⟨HF, HW⟩ := hcut
  first
    | exact with_rest HF HW
    | (apply_assumption; exact with_rest HF HW)
end Go.Proofs.YbulkcpmoDoor
