import Derived.Test.YbulkcpmoUts1
import Derived.ProofKit
import Derived.OpenShut
namespace Go.Proofs.Ybulkcpmo
open Go.RowKit

theorem Yba.cells108 : Yba.prog.cellsOf 108 = 4 := by kernel_rfl
theorem Yba.cells3 : Yba.prog.cellsOf 3 = 1 := by kernel_rfl
theorem Yba.cells106 : Yba.prog.cellsOf 106 = 1 := by kernel_rfl
theorem Yba.cells111 : Yba.prog.cellsOf 111 = 21 := by kernel_rfl
theorem Yba.cells109 : Yba.prog.cellsOf 109 = 20 := by kernel_rfl
theorem Yba.cells5 : Yba.prog.cellsOf 5 = 1 := by kernel_rfl

theorem at_of_take {l : List Value} {i : Nat} {v : Value} (h : (l.drop i).take 1 = [v]) : l[i]? = some v := by
  have : ((l.drop i).take 1)[0]? = some v := by rw [h]; rfl
  simpa using this

section
variable {H : Type} {enc : TypeId × Value → H} {w : World} {base : Nat} {spare : Nat → Bool} {held : Bool} {fuel : Nat} {cs : List Value} {x : DataW H × List MemPlace}

theorem trod_float {P : Program} {t : TypeId} {k : FloatKind} (ht : P.underlying t = some (.float k)) (h : DataW.trod enc P w base spare held fuel t cs = some x) : ∃ b, cs = [.float k b] := by
  cases fuel with
  | zero => simp [DataW.trod] at h
  | succ n =>
    unfold DataW.trod at h
    rw [ht] at h
    split at h <;> simp_all

theorem isTree_of_trod (h : DataW.trod enc Yba.prog w base spare held fuel 108 cs = some x) : ∃ rc q m, IsTree cs rc q m := by
  obtain ⟨xs, n, -, -, hl, hx, hf⟩ := DataW.trod_struct Yba.underlying108 h
  rw [Yba.cells108] at hl
  have hx' : xs.length = 4 := hx
  have h0 := hf 0 _ rfl
  have h1 := hf 1 _ rfl
  have h2 := hf 2 _ rfl
  rw [List.getElem?_eq_getElem (by omega)] at h0 h1 h2
  obtain ⟨a, e0, -, -⟩ := DataW.trod_int Yba.underlying3 h0
  obtain ⟨b, e1⟩ := trod_float Yba.underlying106 h1
  obtain ⟨c, e2, -, -⟩ := DataW.trod_int Yba.underlying3 h2
  have e0' : (cs.drop 0).take (Yba.prog.cellsOf 3) = [.int .i64 a] := e0
  have e1' : (cs.drop 1).take (Yba.prog.cellsOf 106) = [.float .f64 b] := e1
  have e2' : (cs.drop 2).take (Yba.prog.cellsOf 3) = [.int .i64 c] := e2
  rw [Yba.cells3] at e0' e2'
  rw [Yba.cells106] at e1'
  exact ⟨a, b, c, hl, at_of_take e0', at_of_take e1', at_of_take e2'⟩

theorem isNode_of_trod (h : DataW.trod enc Yba.prog w base spare held fuel 111 cs = some x) : ∃ x0 x1 x2 x3 d, IsNode cs x0 x1 x2 x3 d := by
  obtain ⟨xs, n, -, -, hl, hx, hf⟩ := DataW.trod_struct Yba.underlying111 h
  rw [Yba.cells111] at hl
  have hx' : xs.length = 2 := hx
  have h0 := hf 0 _ rfl
  have h1 := hf 1 _ rfl
  rw [List.getElem?_eq_getElem (by omega)] at h0 h1
  obtain ⟨d, e1, -, -⟩ := DataW.trod_int Yba.underlying3 h1
  have e1' : (cs.drop 20).take (Yba.prog.cellsOf 3) = [.int .i64 d] := e1
  rw [Yba.cells3] at e1'
  obtain ⟨ys, n', -, -, -, hy, hg⟩ := DataW.trod_array Yba.underlying109 h0
  have key : ∀ i, i < 20 → ∃ z, cs[i]? = some (.int .u8 z) := fun i hi => by
    have hi' := hg i hi
    rw [List.getElem?_eq_getElem (by omega)] at hi'
    obtain ⟨z, e, -, -⟩ := DataW.trod_int Yba.underlying5 hi'
    have e' : ((((cs.drop 0).take (Yba.prog.cellsOf 109)).drop (i * Yba.prog.cellsOf 5)).take (Yba.prog.cellsOf 5)) = [.int .u8 z] := e
    rw [Yba.cells5, Yba.cells109, Nat.mul_one] at e'
    have := at_of_take e'
    refine ⟨z, ?_⟩
    simpa [List.getElem?_take, hi] using this
  obtain ⟨x0, k0⟩ := key 16 (by omega)
  obtain ⟨x1, k1⟩ := key 17 (by omega)
  obtain ⟨x2, k2⟩ := key 18 (by omega)
  obtain ⟨x3, k3⟩ := key 19 (by omega)
  exact ⟨x0, x1, x2, x3, d, hl, k0, k1, k2, k3, at_of_take e1'⟩
end
end Go.Proofs.Ybulkcpmo
