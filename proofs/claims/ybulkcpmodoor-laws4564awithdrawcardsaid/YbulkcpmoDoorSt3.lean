import Derived.Test.YbulkcpmoDoorSt2
namespace Go.Proofs.YbulkcpmoDoor
open Go.RowKit
set_option linter.unusedVariables false
set_option linter.unusedSimpArgs false

/-- The worker is chosen. -/
structure SF (w0 w : World) (bl psb iab wsb pab wk K M s : Nat) (P n st : Int) (v0 v1 v2 v4 v5 : Value) : Prop where
  base : Base w0 w bl P (.slice (some ⟨iab, 0, none⟩) K K) (.slice (some ⟨pab, 0, none⟩) M M) (K : Int) n
  psb0 : psb = w0.heap.size + 1
  iab0 : iab = w0.heap.size + 2 + K
  wsb0 : wsb = w0.heap.size + 3 + K
  pab0 : pab = w0.heap.size + 4 + K + M
  rps : Row w psb K (w0.heap.size + 2)
  ria : Row w iab K (w0.heap.size + 2)
  sts : Sts w (w0.heap.size + 2) K st
  rws : Row w wsb M (w0.heap.size + 4 + K)
  rpa : Row w pab M (w0.heap.size + 4 + K)
  sl : ∀ i, i < M → w.cell? ⟨w0.heap.size + 4 + K + i, 8, none⟩ = some (.int .i64 (i : Int))
  wk0 : (s < M ∧ wk = w0.heap.size + 4 + K + s) ∨ (s = M ∧ w0.heap.size + 5 + K + M ≤ wk)
  wkb : wk < w.heap.size
  c0 : w.cell? ⟨wk, 0, none⟩ = some v0
  c1 : w.cell? ⟨wk, 1, none⟩ = some v1
  c2 : w.cell? ⟨wk, 2, none⟩ = some v2
  c4 : w.cell? ⟨wk, 4, none⟩ = some v4
  c5 : w.cell? ⟨wk, 5, none⟩ = some v5
  c8 : w.cell? ⟨wk, 8, none⟩ = some (.int .i64 (if s < M then (s : Int) else -1))

theorem SF.wr {w0 w w' : World} {L : List (Addr × Value)} {bl psb iab wsb pab wk K M s : Nat} {P n st : Int} {v0 v1 v2 v4 v5 u0 u1 u2 u4 u5 : Value} (h : SF w0 w bl psb iab wsb pab wk K M s P n st v0 v1 v2 v4 v5)
    (W : Wr L w w') (hL : ∀ p ∈ L, p.1.block = wk ∧ p.1.off ≠ 8) (hN : ∀ b, w.heap.size ≤ b → b < w'.heap.size → Fz w' b)
    (c0 : w'.cell? ⟨wk, 0, none⟩ = some u0) (c1 : w'.cell? ⟨wk, 1, none⟩ = some u1) (c2 : w'.cell? ⟨wk, 2, none⟩ = some u2) (c4 : w'.cell? ⟨wk, 4, none⟩ = some u4) (c5 : w'.cell? ⟨wk, 5, none⟩ = some u5) :
    SF w0 w' bl psb iab wsb pab wk K M s P n st u0 u1 u2 u4 u5 := by
  have e1 := h.psb0
  have e2 := h.iab0
  have e3 := h.wsb0
  have e4 := h.pab0
  have e5 := h.wk0
  have e6 := h.base.bl0
  have far : ∀ b, b ≠ wk → ∀ p ∈ L, p.1.block ≠ b := fun b hb p hp e => hb (by rw [← e]; exact (hL p hp).1)
  have l8 : ∀ b, look L ⟨b, 8, none⟩ = none := by
    intro b
    have : ∀ p ∈ L, p.1 ≠ ⟨b, 8, none⟩ := fun p hp e => (hL p hp).2 (by rw [e])
    clear W hL far
    induction L with
    | nil => rfl
    | cons p L ih =>
      simp only [look, if_neg (this p (List.mem_cons_self ..))]
      exact ih fun q hq => this q (List.mem_cons_of_mem _ hq)
  exact ⟨h.base.wr W (fun p hp => by have := (hL p hp).1; omega) hN, e1, e2, e3, e4, h.rps.wr W (far _ (by omega)), h.ria.wr W (far _ (by omega)), h.sts.wr W (fun i hi => far _ (by omega)), h.rws.wr W (far _ (by omega)), h.rpa.wr W (far _ (by omega)),
    fun i hi => W.miss (h.sl i hi) (l8 _), h.wk0, Nat.lt_of_lt_of_le h.wkb W.size, c0, c1, c2, c4, c5, W.miss h.c8 (l8 _)⟩

/-- A parked worker. -/
theorem SE.pick {w0 w : World} {bl psb iab wsb pab K M s : Nat} {P n st : Int} (h : SE w0 w bl psb iab wsb pab K M P n st) (hs : s < M) :
    SF w0 w bl psb iab wsb pab (w0.heap.size + 4 + K + s) K M s P n st (.pointer none) (.int .u64 0) (.bool false) .nilFunc (.bool false) := by
  have e := h.size
  have F := h.wks s hs
  exact ⟨h.base, h.psb0, h.iab0, h.wsb0, h.pab0, h.rps, h.ria, h.sts, h.rws, h.rpa, fun i hi => (h.wks i hi).c8, .inl ⟨hs, rfl⟩, by omega, F.c0, F.c1, F.c2, F.c4, F.c5, by rw [if_pos hs]; exact F.c8⟩

/-- A worker that is not parked. -/
theorem SE.anew {w0 w : World} {bl psb iab wsb pab K M s : Nat} {P n st : Int} (h : SE w0 w bl psb iab wsb pab K M P n st) (hs : s = M) {Z : Array Value} {t : TypeId}
    (hZ : Z[0]? = some (.pointer none) ∧ Z[1]? = some (.int .u64 0) ∧ Z[2]? = some (.bool false) ∧ Z[4]? = some .nilFunc ∧ Z[5]? = some (.bool false) ∧ Z[8]? = some (.int .i64 (-1))) :
    SF w0 (w.alloc (.cells Z t)) bl psb iab wsb pab w.heap.size K M s P n st (.pointer none) (.int .u64 0) (.bool false) .nilFunc (.bool false) := by
  have e := h.size
  have W1 : Wr [] w (w.alloc (.cells Z t)) := (Wr.refl w).alloc _
  have F := fresh_new w Z t (-1) hZ
  exact ⟨h.base.wr W1 (fun p hp => by cases hp) (fun b hb hb2 => fz_new hb hb2), h.psb0, h.iab0, h.wsb0, h.pab0, h.rps.wr W1 (fun p hp => by cases hp), h.ria.wr W1 (fun p hp => by cases hp), h.sts.wr W1 (fun i hi p hp => by cases hp), h.rws.wr W1 (fun p hp => by cases hp), h.rpa.wr W1 (fun p hp => by cases hp),
    fun i hi => W1.miss (h.wks i hi).c8 rfl, .inr ⟨hs, by omega⟩, by simp, F.c0, F.c1, F.c2, F.c4, F.c5, by rw [if_neg (by omega)]; exact F.c8⟩
end Go.Proofs.YbulkcpmoDoor
