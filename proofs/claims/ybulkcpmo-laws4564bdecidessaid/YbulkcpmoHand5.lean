import Derived.Test.YbulkcpmoHand4
import Derived.Test.YbulkcpmoTime4
import Derived.Laws.Tables
namespace Go.Proofs.Ybulkcpmo
open Go.RowKit

theorem wants_any {w : World} {bm bs bl bp bq : Nat} {idle srch g status nr sr ns ss : Int} {nxt : Option Addr} (hH : Hall w bm bs bl bp bq idle srch g status nr sr ns ss nxt)
    (st : Int) (hst : bits .and .u64 status 3 = st) (again : Bool) (n s D E : Int)
    (hD : ∀ W, Calls Yba.prog 23 #[.agg #[.int .u64 n, .int .i64 s, .pointer none], .agg #[.int .u64 nr, .int .i64 sr, .pointer none]] W fun e w' => e = .returned (.int .i64 D) ∧ Below W.heap.size W w')
    (hE : ∀ W, Calls Yba.prog 23 #[.agg #[.int .u64 n, .int .i64 s, .pointer none], .agg #[.int .u64 ns, .int .i64 ss, .pointer none]] W fun e w' => e = .returned (.int .i64 E) ∧ Below W.heap.size W w') :
    Calls Yba.prog 9 #[.pointer (some ⟨bm, 0, none⟩), .pointer (some ⟨bp, 0, none⟩), .pointer (some ⟨bq, 0, none⟩), .bool again, .agg #[.int .u64 n, .int .i64 s, .pointer none]] w fun e w' =>
      e = .returned (.tuple #[.bool (decides st again nxt.isSome g idle srch (decide (D < 10000000)) (decide (E < 10000000))).1, .bool (decides st again nxt.isSome g idle srch (decide (D < 10000000)) (decide (E < 10000000))).2]) ∧ Below w.heap.size w w' := by
  by_cases h2 : st = 2
  · subst h2
    cases again
    · refine (wants_fresh hH hst n s).mono fun e w' ⟨he, hb⟩ => ⟨?_, hb⟩
      rw [he]; rfl
    · cases hx : nxt.isSome
      · by_cases hlt : E < 10000000
        · cases hs : (srch != 0)
          · cases hi : (idle != 0)
            · refine (wants_lone hH hst hx n s E hlt hs hi hE).mono fun e w' ⟨he, hb⟩ => ⟨?_, hb⟩
              rw [he]; simp [decides, hs, hi]
            · refine (wants_idle hH hst hx n s E hlt hs hi hE).mono fun e w' ⟨he, hb⟩ => ⟨?_, hb⟩
              rw [he]; simp [decides, hlt, hs, hi]
          · refine (wants_searching hH hst hx n s E hlt hs hE).mono fun e w' ⟨he, hb⟩ => ⟨?_, hb⟩
            rw [he]; simp [decides, hlt, hs]
        · refine (wants_late hH hst hx n s E hlt hE).mono fun e w' ⟨he, hb⟩ => ⟨?_, hb⟩
          rw [he]; simp [decides, hlt]
      · refine (wants_next hH hst hx n s).mono fun e w' ⟨he, hb⟩ => ⟨?_, hb⟩
        rw [he]; simp [decides]
  · by_cases h1 : st = 1
    · subst h1
      refine (wants_running hH hst again n s D hD).mono fun e w' ⟨he, hb⟩ => ⟨?_, hb⟩
      rw [he]
      by_cases hlt : D < 10000000
      · simp [decides, hlt]
      · simp [decides, hlt]
    · refine (wants_other hH st hst (by simpa using h2) (by simpa using h1) again n s).mono fun e w' ⟨he, hb⟩ => ⟨?_, hb⟩
      rw [he]; simp [decides, h1, h2]

/-! ### The great zero values -/
theorem wpList_build {P : Program} {ops : Array Oper} {rest : List Oper} {o : Oper} {a : Act} {w : World} {Q : Exit → Act → World → Prop} (hgd : o.guard = none) (t : TypeId) (parts : Array (Nat × Operand)) (ho : o.op = .build t parts)
    (l : List (Nat × Value)) (hl : (parts.map fun (i, x) => (i, a.eval x)).toList = l) (cells : Array Value) (hc : P.built t l = some cells) (h : wpList P ops Q rest (a.put o.dst (.agg cells)) w) : wpList P ops Q (o :: rest) a w := by
  subst hl
  exact wpList_plain hgd fun K hK => wp_build t parts ho (by rw [hc]; rfl) (by rw [hc]; exact hK _ _ h)

theorem built51 : ∃ Z : Array Value, Yba.prog.built 51 [] = some Z ∧ Z[11]? = some (.int .i32 0) ∧ Z[13]? = some (.int .i32 0) := by
  have h : (Yba.prog.built 51 []).isSome = true := by kernel_rfl
  have h1 : (Yba.prog.built 51 []).bind (·[11]?) = some (.int .i32 0) := by kernel_rfl
  have h2 : (Yba.prog.built 51 []).bind (·[13]?) = some (.int .i32 0) := by kernel_rfl
  obtain ⟨Z, hZ⟩ := Option.isSome_iff_exists.1 h
  rw [hZ] at h1 h2
  exact ⟨Z, hZ, h1, h2⟩
theorem built70 (b : Nat) : ∃ Z : Array Value, Yba.prog.built 70 [(4, .pointer (some ⟨b, 0, none⟩))] = some Z ∧ Z[1]? = some (.int .i32 0) ∧ Z[5]? = some (.int .i64 0) ∧ Z[7]? = some (.pointer (some ⟨b, 0, none⟩)) := by
  have h : (Yba.prog.built 70 [(4, .pointer (some ⟨b, 0, none⟩))]).isSome = true := by kernel_rfl
  have h1 : (Yba.prog.built 70 [(4, .pointer (some ⟨b, 0, none⟩))]).bind (·[1]?) = some (.int .i32 0) := by kernel_rfl
  have h2 : (Yba.prog.built 70 [(4, .pointer (some ⟨b, 0, none⟩))]).bind (·[5]?) = some (.int .i64 0) := by kernel_rfl
  have h3 : (Yba.prog.built 70 [(4, .pointer (some ⟨b, 0, none⟩))]).bind (·[7]?) = some (.pointer (some ⟨b, 0, none⟩)) := by kernel_rfl
  obtain ⟨Z, hZ⟩ := Option.isSome_iff_exists.1 h
  rw [hZ] at h1 h2 h3
  exact ⟨Z, hZ, h1, h2, h3⟩
theorem built81 (b : Nat) : ∃ Z : Array Value, Yba.prog.built 81 [(0, .pointer (some ⟨b, 0, none⟩))] = some Z ∧ Z[0]? = some (.pointer (some ⟨b, 0, none⟩)) := by
  have h : (Yba.prog.built 81 [(0, .pointer (some ⟨b, 0, none⟩))]).isSome = true := by kernel_rfl
  have h1 : (Yba.prog.built 81 [(0, .pointer (some ⟨b, 0, none⟩))]).bind (·[0]?) = some (.pointer (some ⟨b, 0, none⟩)) := by kernel_rfl
  obtain ⟨Z, hZ⟩ := Option.isSome_iff_exists.1 h
  rw [hZ] at h1
  exact ⟨Z, hZ, h1⟩
theorem built91 : ∃ Z : Array Value, Yba.prog.built 91 [] = some Z ∧ Z[1]? = some (.pointer none) ∧ Z[2]? = some (.int .u32 0) ∧ Z[3]? = some (.int .u32 0) := by
  have h : (Yba.prog.built 91 []).isSome = true := by kernel_rfl
  have h1 : (Yba.prog.built 91 []).bind (·[1]?) = some (.pointer none) := by kernel_rfl
  have h2 : (Yba.prog.built 91 []).bind (·[2]?) = some (.int .u32 0) := by kernel_rfl
  have h3 : (Yba.prog.built 91 []).bind (·[3]?) = some (.int .u32 0) := by kernel_rfl
  obtain ⟨Z, hZ⟩ := Option.isSome_iff_exists.1 h
  rw [hZ] at h1 h2 h3
  exact ⟨Z, hZ, h1, h2, h3⟩
end Go.Proofs.Ybulkcpmo
