import Derived.Test.YbulkcpmoDoorSt3
import Derived.LaidEqlPtr
namespace Go.Proofs.YbulkcpmoDoor
open Go.RowKit
set_option linter.unusedVariables false
set_option linter.unusedSimpArgs false

/-- A pointer is not unequal to itself. -/
theorem neq_same {P : Program} (w : World) {tp te : TypeId} {j : TypeInfo} (a : Option Addr) (hp : P.underlying tp = some (.pointer te)) (hte : P.info? te = some j) :
    (binOp .neq tp (.pointer a) (.pointer a)).run P w = .ok (.bool false) w := by
  have h : ∀ d : Nat, (Op.equalIn (d + 1) tp (.pointer a) (.pointer a)).run P w = .ok true w := fun d => by
    cases a with
    | none => simp [Op.equalIn, run_underlying hp]
    | some a => simp [Op.equalIn, run_underlying hp, sizeOf, typeInfo, hte, run_sameAddr_same]
  simp only [binOp]
  simp [Op.equal, Op.maxDepth, h 9999]
theorem neq26 (a : Option Addr) (w : World) : (binOp .neq 26 (.pointer a) (.pointer a)).run Ybad.prog w = .ok (.bool false) w := by
  have h : (Ybad.prog.info? 44).isSome = true := by kernel_rfl
  obtain ⟨j, hj⟩ := Option.isSome_iff_exists.1 h
  exact neq_same w a Ybad.underlying26 hj
theorem neq67 (a : Option Addr) (w : World) : (binOp .neq 67 (.pointer a) (.pointer a)).run Ybad.prog w = .ok (.bool false) w := by
  have h : (Ybad.prog.info? 74).isSome = true := by kernel_rfl
  obtain ⟨j, hj⟩ := Option.isSome_iff_exists.1 h
  exact neq_same w a Ybad.underlying67 hj

theorem func69 (w : World) : (binOp .eql 69 (.func (.func 7) #[] #[]) .nilFunc).run Ybad.prog w = .ok (.bool false) w := by
  have h : ∀ d : Nat, (Op.equalIn (d + 1) 69 (.func (.func 7) #[] #[]) .nilFunc).run Ybad.prog w = .ok false w := fun d => by
    simp [Op.equalIn, run_underlying Ybad.underlying69]
  simp only [binOp]
  simp [Op.equal, Op.maxDepth, h 9999]
theorem nil69 (w : World) : (binOp .neq 69 .nilFunc .nilFunc).run Ybad.prog w = .ok (.bool false) w := by
  have h : ∀ d : Nat, (Op.equalIn (d + 1) 69 .nilFunc .nilFunc).run Ybad.prog w = .ok true w := fun d => by
    simp [Op.equalIn, run_underlying Ybad.underlying69]
  simp only [binOp]
  simp [Op.equal, Op.maxDepth, h 9999]

/-- Behind a withdraw that said no. -/
structure TH (w0 w : World) (bl psb iab wsb pab wk K M s : Nat) (st : Int) (po : Option Addr) (sr : Bool) : Prop where
  bel : Below w0.heap.size w0 w
  l8 : w.cell? ⟨bl, 8, none⟩ = some (.slice (some ⟨iab, 0, none⟩) K K)
  l9 : w.cell? ⟨bl, 9, none⟩ = some (.slice (some ⟨pab, 0, none⟩) M M)
  l11 : w.cell? ⟨bl, 11, none⟩ = some (.int .i32 (K : Int))
  rps : Row w psb K (w0.heap.size + 2)
  ria : Row w iab K (w0.heap.size + 2)
  sts : Sts w (w0.heap.size + 2) K st
  rws : Row w wsb M (w0.heap.size + 4 + K)
  rpa : Row w pab M (w0.heap.size + 4 + K)
  sl : ∀ i, i < M → w.cell? ⟨w0.heap.size + 4 + K + i, 8, none⟩ = some (.int .i64 (i : Int))
  c0 : w.cell? ⟨wk, 0, none⟩ = some (.pointer po)
  c1 : w.cell? ⟨wk, 1, none⟩ = some (.int .u64 0)
  c2 : w.cell? ⟨wk, 2, none⟩ = some (.bool sr)
  c4 : w.cell? ⟨wk, 4, none⟩ = some (.func (.func 7) #[] #[])
  c5 : w.cell? ⟨wk, 5, none⟩ = some (.bool true)
  c8 : w.cell? ⟨wk, 8, none⟩ = some (.int .i64 (if s < M then (s : Int) else -1))

theorem TH.drewN {w0 w : World} {bl psb iab wsb pab wk K M s : Nat} {st : Int} {po : Option Addr} {sr : Bool} (h : TH w0 w bl psb iab wsb pab wk K M s st po sr) (q : Nat) : TH w0 (w.drewN q) bl psb iab wsb pab wk K M s st po sr :=
  ⟨⟨h.bel.os, h.bel.tape, h.bel.output, h.bel.size, h.bel.block⟩, h.l8, h.l9, h.l11, h.rps, h.ria, h.sts, h.rws, h.rpa, h.sl, h.c0, h.c1, h.c2, h.c4, h.c5, h.c8⟩
theorem TH.drew {w0 w : World} {bl psb iab wsb pab wk K M s : Nat} {st : Int} {po : Option Addr} {sr : Bool} (h : TH w0 w bl psb iab wsb pab wk K M s st po sr) : TH w0 w.drew bl psb iab wsb pab wk K M s st po sr :=
  ⟨⟨h.bel.os, h.bel.tape, h.bel.output, h.bel.size, h.bel.block⟩, h.l8, h.l9, h.l11, h.rps, h.ria, h.sts, h.rws, h.rpa, h.sl, h.c0, h.c1, h.c2, h.c4, h.c5, h.c8⟩

theorem SF.no {w0 w w' : World} {bl psb iab wsb pab wk K M s : Nat} {P n st : Int} {po : Option Addr} {sr : Bool} (h : SF w0 w bl psb iab wsb pab wk K M s P n st (.pointer po) (.int .u64 0) (.bool sr) (.func (.func 7) #[] #[]) (.bool true))
    (W : Wr [(⟨bl, 6, none⟩, .int .i32 0), (⟨bl, 6, none⟩, .int .i32 1)] w w') : TH w0 w' bl psb iab wsb pab wk K M s st po sr := by
  have e1 := h.psb0
  have e2 := h.iab0
  have e3 := h.wsb0
  have e4 := h.pab0
  have e5 := h.wk0
  have e6 := h.base.bl0
  have hb : ∀ p ∈ [((⟨bl, 6, none⟩ : Addr), (.int .i32 0 : Value)), (⟨bl, 6, none⟩, .int .i32 1)], p.1.block = bl := by
    intro p hp
    simp only [List.mem_cons, List.not_mem_nil, or_false] at hp
    rcases hp with rfl | rfl <;> rfl
  have far : ∀ b, b ≠ bl → ∀ p ∈ [((⟨bl, 6, none⟩ : Addr), (.int .i32 0 : Value)), (⟨bl, 6, none⟩, .int .i32 1)], p.1.block ≠ b := fun b hb' p hp e => hb' (by rw [← e]; exact hb p hp)
  have hwk : wk ≠ bl := by omega
  exact ⟨h.base.bel.trans (W.below h.base.bel.size (fun p hp => by have := hb p hp; omega)), W.miss h.base.l8 (by simp [look]), W.miss h.base.l9 (by simp [look]), W.miss h.base.l11 (by simp [look]), h.rps.wr W (far _ (by omega)), h.ria.wr W (far _ (by omega)), h.sts.wr W (fun i hi => far _ (by omega)), h.rws.wr W (far _ (by omega)), h.rpa.wr W (far _ (by omega)),
    fun i hi => W.miss (h.sl i hi) (look_far (far _ (by omega)) 8), W.miss h.c0 (look_far (far _ hwk) 0), W.miss h.c1 (look_far (far _ hwk) 1), W.miss h.c2 (look_far (far _ hwk) 2), W.miss h.c4 (look_far (far _ hwk) 4), W.miss h.c5 (look_far (far _ hwk) 5), W.miss h.c8 (look_far (far _ hwk) 8)⟩
end Go.Proofs.YbulkcpmoDoor
