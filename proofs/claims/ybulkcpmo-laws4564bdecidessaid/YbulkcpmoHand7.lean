import Derived.Test.YbulkcpmoHand6
namespace Go.Proofs.Ybulkcpmo
open Go.RowKit

theorem nil_eq_at (d : Nat) (w : World) : (Op.equalIn (d + 1) 77 (.pointer none) (.pointer none)).run Yba.prog w = .ok true w := by
  simp [Op.equalIn, run_underlying Yba.underlying77]
theorem nil_eq (w : World) : (Op.equalIn 9998 77 (.pointer none) (.pointer none)).run Yba.prog w = .ok true w := nil_eq_at 9997 w
theorem seen_eq (nr sr ns ss status : Int) (nx again : Bool) (w : World) : (binOp .eql 101 (.agg (seenV nr sr ns ss status nx again)) (.agg (seenV nr sr ns ss status nx again))).run Yba.prog w = .ok (.bool true) w := by
  have h := nil_eq
  unfold seenV
  go_simp

section
variable {P : Program} {ops : Array Oper} {Q : Exit → Act → World → Prop} {md : Region.Mode} {S : World → Prop}
theorem takeBy {i : Nat} {oi : Oper} {v : Value} {fuel : Nat} {listed : Array Bool} {a : Act} {w : World} (d : Option Tmp) (hi : ops[i]? = some oi) (hd : oi.dst = d)
    (hs : Region.noSelect ops = true) (hf : Region.free md ops listed i = true) (hr : (Region.ready md ops listed).contains i = true)
    (hQ : ∀ c a w, Q (.panic c) (a.put d v) w → Q (.panic c) a w) (hy : YieldsIf P ops S oi v a) (hS : S w)
    (h : wpAnyH P md ops Q S fuel (listed.setIfInBounds i true) (a.put d v) w) : wpAnyH P md ops Q S (fuel + 1) listed a w := by
  subst hd
  exact wpAnyH_take hi hs hf hr hQ hy hS h
end
theorem Yba.info101 : (Yba.prog.info? 101).map (·.size) = some 10 := by kernel_rfl
theorem info101' (nr sr ns ss status : Int) (nx again : Bool) : (Yba.prog.info? 101).map (·.size) = some (seenV nr sr ns ss status nx again).toList.length := Yba.info101
/-- What the law's last statement reads. -/
theorem s19_of {W : World} {b1 b2 bs : Nat} {g : Int} {A : Array Value} (h1 : W.heap[b1]? = some (.cells A 101)) (h2 : W.heap[b2]? = some (.cells A 101)) (h3 : W.cell? ⟨bs, 5, none⟩ = some (.int .i64 g)) :
    W.drew.rangeAt b1 0 A.toList ∧ W.drew.rangeAt b2 0 A.toList ∧ W.drew.cell? ⟨bs, 5, none⟩ = some (.int .i64 g) := by
  refine ⟨fun j v hv => ?_, fun j v hv => ?_, h3⟩
  · show W.cell? ⟨b1, 0 + j, none⟩ = _
    rw [cell_of_row _ _ _ _ _ _ h1]
    simpa using hv
  · show W.cell? ⟨b2, 0 + j, none⟩ = _
    rw [cell_of_row _ _ _ _ _ _ h2]
    simpa using hv
/-- The comparison's run, as the operation meets it. -/
theorem seen_eq' (nr sr ns ss status : Int) (nx again : Bool) (w : World) : (binOp .eql 101 (.agg (seenV nr sr ns ss status nx again).toList.toArray) (.agg (seenV nr sr ns ss status nx again).toList.toArray)).run Yba.prog w = .ok (.bool true) w := seen_eq nr sr ns ss status nx again w
theorem exec_eql {ev : Operand → Value} {o : Oper} {x y : Operand} {u : TypeId} (ho : o.op = .binOp .eql 101 x y u) {A : Array Value} (hx : ev x = .agg A) (hy : ev y = .agg A)
    (h : ∀ w, (binOp .eql 101 (.agg A) (.agg A)).run Yba.prog w = .ok (.bool true) w) (w : World) : (execOp ev o).run Yba.prog w = .ok (.value (.bool true)) w := by
  have hg : Yba.prog.eqGuardType Yba.prog.depth 101 = false := by kernel_rfl
  unfold execOp
  simp [ho, hx, hy, eqGuard, hg, h]
end Go.Proofs.Ybulkcpmo
