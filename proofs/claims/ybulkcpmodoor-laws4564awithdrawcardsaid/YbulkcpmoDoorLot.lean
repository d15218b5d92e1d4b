import Derived.Test.YbulkcpmoDoorWith5
import Derived.Laws.Tables
import Derived.Laws.CopyOwn
import Derived.Deep.OwnRows
namespace Go.Proofs.YbulkcpmoDoor
open Go.RowKit
set_option linter.unusedVariables false
set_option linter.unusedSimpArgs false

/-! ### The great zero values -/
theorem wpList_build {P : Program} {ops : Array Oper} {rest : List Oper} {o : Oper} {a : Act} {w : World} {Q : Exit → Act → World → Prop} (hgd : o.guard = none) (t : TypeId) (parts : Array (Nat × Operand)) (ho : o.op = .build t parts)
    (l : List (Nat × Value)) (hl : (parts.map fun (i, x) => (i, a.eval x)).toList = l) (cells : Array Value) (hc : P.built t l = some cells) (h : wpList P ops Q rest (a.put o.dst (.agg cells)) w) : wpList P ops Q (o :: rest) a w := by
  subst hl
  exact wpList_plain hgd fun K hK => wp_build t parts ho (by rw [hc]; rfl) (by rw [hc]; exact hK _ _ h)

theorem built44 (i : Int) : ∃ Z : Array Value, Ybad.prog.built 44 [(0, .int .i64 i)] = some Z ∧ Z[260]? = some (.int .u64 0) := by
  have h : (Ybad.prog.built 44 [(0, .int .i64 i)]).isSome = true := by kernel_rfl
  have h1 : (Ybad.prog.built 44 [(0, .int .i64 i)]).bind (·[260]?) = some (.int .u64 0) := by kernel_rfl
  obtain ⟨Z, hZ⟩ := Option.isSome_iff_exists.1 h
  rw [hZ] at h1
  exact ⟨Z, hZ, h1⟩
theorem built74 (i : Int) : ∃ Z : Array Value, Ybad.prog.built 74 [(8, .int .i64 i)] = some Z ∧ Z[0]? = some (.pointer none) ∧ Z[1]? = some (.int .u64 0) ∧ Z[2]? = some (.bool false) ∧ Z[4]? = some .nilFunc ∧ Z[5]? = some (.bool false) ∧ Z[8]? = some (.int .i64 i) := by
  have h : (Ybad.prog.built 74 [(8, .int .i64 i)]).isSome = true := by kernel_rfl
  have h1 : (Ybad.prog.built 74 [(8, .int .i64 i)]).bind (·[0]?) = some (.pointer none) := by kernel_rfl
  have h2 : (Ybad.prog.built 74 [(8, .int .i64 i)]).bind (·[1]?) = some (.int .u64 0) := by kernel_rfl
  have h3 : (Ybad.prog.built 74 [(8, .int .i64 i)]).bind (·[2]?) = some (.bool false) := by kernel_rfl
  have h4 : (Ybad.prog.built 74 [(8, .int .i64 i)]).bind (·[4]?) = some .nilFunc := by kernel_rfl
  have h5 : (Ybad.prog.built 74 [(8, .int .i64 i)]).bind (·[5]?) = some (.bool false) := by kernel_rfl
  have h6 : (Ybad.prog.built 74 [(8, .int .i64 i)]).bind (·[8]?) = some (.int .i64 i) := by kernel_rfl
  obtain ⟨Z, hZ⟩ := Option.isSome_iff_exists.1 h
  rw [hZ] at h1 h2 h3 h4 h5 h6
  exact ⟨Z, hZ, h1, h2, h3, h4, h5, h6⟩

theorem cell_new (w : World) (Z : Array Value) (t : TypeId) (o : Nat) : (w.alloc (.cells Z t)).cell? ⟨w.heap.size, o, none⟩ = Z[o]? := by
  unfold World.cell?
  rw [heap_alloc_new w (.cells Z t)]
  simp
theorem froz_new (w : World) (Z : Array Value) (t : TypeId) (o : Nat) : (w.alloc (.cells Z t)).frozen? ⟨w.heap.size, o, none⟩ = false := by
  unfold World.frozen?
  rw [heap_alloc_new w (.cells Z t)]
  simp

set_option maxRecDepth 100000 in
/-- A new lot. -/
theorem newLot (P : Int) (w : World) : Calls Ybad.prog 4 #[.int .i64 P, .int .i64 64, .nilFunc] w fun e w' => e = .returned (.pointer (some ⟨w.heap.size, 0, none⟩)) ∧ Wr [] w w' ∧ w'.heap.size = w.heap.size + 1 ∧ Fz w' w.heap.size ∧
      w'.cell? ⟨w.heap.size, 0, none⟩ = some (.int .i64 P) ∧ w'.cell? ⟨w.heap.size, 6, none⟩ = some (.int .i32 0) ∧ w'.cell? ⟨w.heap.size, 8, none⟩ = some (.slice none 0 0) ∧ w'.cell? ⟨w.heap.size, 9, none⟩ = some (.slice none 0 0) ∧ w'.cell? ⟨w.heap.size, 11, none⟩ = some (.int .i32 0) ∧ w'.cell? ⟨w.heap.size, 13, none⟩ = some (.int .i32 0) := by
  go_enter Ybad.func4, Ybad.ntmps4
  go_wp2
  go_ret
  exact ⟨rfl, (Wr.refl w).alloc _, by simp, fun o => froz_new _ _ _ o, cell_new _ _ _ _, cell_new _ _ _ _, cell_new _ _ _ _, cell_new _ _ _ _, cell_new _ _ _ _, cell_new _ _ _ _⟩
end Go.Proofs.YbulkcpmoDoor
