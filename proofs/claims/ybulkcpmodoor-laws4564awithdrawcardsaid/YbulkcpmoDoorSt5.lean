import Derived.Test.YbulkcpmoDoorSt4
namespace Go.Proofs.YbulkcpmoDoor
open Go.RowKit
set_option linter.unusedVariables false
set_option linter.unusedSimpArgs false

/-- Who stands at place i once the worker of place s has gone: the last one in its stead. -/
def nx (s m i : Nat) : Nat := if i = s then m else i

/-- Behind a withdraw that said yes. -/
structure TI (w0 w : World) (bl psb iab wsb pab wk k m s : Nat) (st : Int) : Prop where
  bel : Below w0.heap.size w0 w
  psb0 : psb = w0.heap.size + 1
  wsb0 : wsb = w0.heap.size + 3 + (k + 1)
  wsbw : wsb < w.heap.size
  l8 : w.cell? ⟨bl, 8, none⟩ = some (.slice (some ⟨iab, 0, none⟩) k (k + 1))
  l9 : w.cell? ⟨bl, 9, none⟩ = some (.slice (some ⟨pab, 0, none⟩) m (m + 1))
  l11 : w.cell? ⟨bl, 11, none⟩ = some (.int .i32 (k : Int))
  ik : w.cell? ⟨iab, k, none⟩ = some (.pointer none)
  pm : w.cell? ⟨pab, m, none⟩ = some (.pointer none)
  rps : Row w psb (k + 1) (w0.heap.size + 2)
  ria : Row w iab k (w0.heap.size + 2)
  sts : Sts w (w0.heap.size + 2) k st
  last : w.cell? ⟨w0.heap.size + 2 + k, 260, none⟩ = some (.int .u64 (renew (stI st k)))
  rws : Row w wsb (m + 1) (w0.heap.size + 4 + (k + 1))
  rpa : ∀ i, i < m → w.cell? ⟨pab, i, none⟩ = some (.pointer (some ⟨w0.heap.size + 4 + (k + 1) + nx s m i, 0, none⟩))
  sl : ∀ i, i < m → w.cell? ⟨w0.heap.size + 4 + (k + 1) + nx s m i, 8, none⟩ = some (.int .i64 (i : Int))
  c0 : w.cell? ⟨wk, 0, none⟩ = some (.pointer (some ⟨w0.heap.size + 2 + k, 0, none⟩))
  c1 : w.cell? ⟨wk, 1, none⟩ = some (.int .u64 (renew (stI st k)))
  c2 : w.cell? ⟨wk, 2, none⟩ = some (.bool true)
  c4 : w.cell? ⟨wk, 4, none⟩ = some .nilFunc
  c5 : w.cell? ⟨wk, 5, none⟩ = some (.bool false)
  c8 : w.cell? ⟨wk, 8, none⟩ = some (.int .i64 (-1))

theorem TI.drewN {w0 w : World} {bl psb iab wsb pab wk k m s : Nat} {st : Int} (h : TI w0 w bl psb iab wsb pab wk k m s st) (q : Nat) : TI w0 (w.drewN q) bl psb iab wsb pab wk k m s st :=
  ⟨⟨h.bel.os, h.bel.tape, h.bel.output, h.bel.size, h.bel.block⟩, h.psb0, h.wsb0, h.wsbw, h.l8, h.l9, h.l11, h.ik, h.pm, h.rps, h.ria, h.sts, h.last, h.rws, h.rpa, h.sl, h.c0, h.c1, h.c2, h.c4, h.c5, h.c8⟩

/-- New blocks beside it. -/
theorem TI.wr {w0 w w' : World} {bl psb iab wsb pab wk k m s : Nat} {st : Int} (h : TI w0 w bl psb iab wsb pab wk k m s st) (W : Wr [] w w') : TI w0 w' bl psb iab wsb pab wk k m s st :=
  ⟨h.bel.trans (W.below h.bel.size (fun p hp => by cases hp)), h.psb0, h.wsb0, Nat.lt_of_lt_of_le h.wsbw W.size, W.miss h.l8 rfl, W.miss h.l9 rfl, W.miss h.l11 rfl, W.miss h.ik rfl, W.miss h.pm rfl, fun i hi => W.miss (h.rps i hi) rfl, fun i hi => W.miss (h.ria i hi) rfl, fun i hi => W.miss (h.sts i hi) rfl, W.miss h.last rfl, fun i hi => W.miss (h.rws i hi) rfl,
    fun i hi => W.miss (h.rpa i hi) rfl, fun i hi => W.miss (h.sl i hi) rfl, W.miss h.c0 rfl, W.miss h.c1 rfl, W.miss h.c2 rfl, W.miss h.c4 rfl, W.miss h.c5 rfl, W.miss h.c8 rfl⟩

/-- The blocks are six. -/
theorem SF.six {w0 w : World} {bl psb iab wsb pab wk k m s : Nat} {P n st : Int} {v0 v1 v2 v4 v5 : Value} (h : SF w0 w bl psb iab wsb pab wk (k + 1) (m + 1) s P n st v0 v1 v2 v4 v5) (hs : s < m + 1) :
    Six bl iab pab (w0.heap.size + 2 + k) wk (w0.heap.size + 4 + (k + 1) + m) := by
  have e1 := h.psb0
  have e2 := h.iab0
  have e3 := h.wsb0
  have e4 := h.pab0
  have e5 := h.wk0
  have e6 := h.base.bl0
  constructor <;> omega

/-- What withdraw wants. -/
theorem SF.ready {w0 w : World} {bl psb iab wsb pab wk k m s : Nat} {P n st : Int} {po : Option Addr} {v1 v4 v5 : Value} {sr : Bool} (h : SF w0 w bl psb iab wsb pab wk (k + 1) (m + 1) s P n st (.pointer po) v1 (.bool sr) v4 v5) (N : Num (k + 1) (m + 1) s P n st) (hs : s < m + 1) :
    Ready w bl iab pab (w0.heap.size + 2 + k) wk (w0.heap.size + 4 + (k + 1) + m) k m s (stI st k) P n po v1 v4 v5 (.pointer (some ⟨w0.heap.size + 4 + (k + 1) + s, 0, none⟩)) (.int .i64 (m : Int)) sr := by
  have e1 := h.psb0
  have e2 := h.iab0
  have e3 := h.wsb0
  have e4 := h.pab0
  have e5 := h.wk0
  have e6 := h.base.bl0
  have e7 := h.base.h0
  have n1 := N.hK
  have n2 := N.hM
  have b1 := World.block_lt_of_cell? _ _ (h.ria k (by omega))
  have b2 := World.block_lt_of_cell? _ _ (h.rpa m (by omega))
  have b3 := World.block_lt_of_cell? _ _ (h.sts k (by omega))
  have b4 := World.block_lt_of_cell? _ _ (h.sl m (by omega))
  refine ⟨h.six hs, by omega, by omega, by omega, ⟨N.hP, N.hn⟩, h.base.g, h.base.l0, h.base.l6, h.base.l8, h.base.l9, h.base.l11, h.base.l13, h.ria k (by omega), h.sts k (by omega), h.c0, h.c1, h.c2, h.c4, h.c5, ?_, h.rpa m (by omega), h.rpa s hs, h.sl m (by omega),
    h.base.fz _ (by omega) h.base.hbl, h.base.fz _ (by omega) b1, h.base.fz _ (by omega) b2, h.base.fz _ (by omega) b3, h.base.fz _ (by omega) h.wkb, h.base.fz _ (by omega) b4⟩
  have := h.c8
  rwa [if_pos hs] at this

set_option maxHeartbeats 2000000 in
/-- What withdraw leaves. -/
theorem SF.yes {w0 w w' : World} {L : List (Addr × Value)} {bl psb iab wsb pab wk k m s : Nat} {P n st : Int} {v0 v1 v2 v4 v5 : Value} (h : SF w0 w bl psb iab wsb pab wk (k + 1) (m + 1) s P n st v0 v1 v2 v4 v5) (hs : s < m + 1)
    (W : Wr (writes bl iab pab (w0.heap.size + 2 + k) wk (w0.heap.size + 4 + (k + 1) + m) k m s (stI st k) ++ L) w w') (hL : ∀ a : Addr, a ≠ ⟨bl, 6, none⟩ → a ≠ ⟨bl, 13, none⟩ → a ≠ ⟨wk, 2, none⟩ → look L a = none) (hB : ∀ p ∈ L, w0.heap.size ≤ p.1.block) :
    TI w0 w' bl psb iab wsb pab wk k m s st := by
  have e1 := h.psb0
  have e2 := h.iab0
  have e3 := h.wsb0
  have e4 := h.pab0
  have e5 := h.wk0
  have e6 := h.base.bl0
  have X := h.six hs
  have hwk : wk = w0.heap.size + 4 + (k + 1) + s := by omega
  have b1 := World.block_lt_of_cell? _ _ (h.rws 0 (by omega))
  simp only at b1
  have B : ∀ p ∈ writes bl iab pab (w0.heap.size + 2 + k) wk (w0.heap.size + 4 + (k + 1) + m) k m s (stI st k), p.1.block = bl ∨ p.1.block = iab ∨ p.1.block = pab ∨ p.1.block = w0.heap.size + 2 + k ∨ p.1.block = wk ∨ p.1.block = w0.heap.size + 4 + (k + 1) + m := by
    intro p hp
    simp only [writes, List.cons_append, List.nil_append, List.mem_cons, List.not_mem_nil, or_false] at hp
    rcases hp with rfl | rfl | rfl | rfl | rfl | rfl | rfl | rfl | rfl | rfl | rfl | rfl | rfl | rfl | rfl | rfl <;> simp
  generalize hpl : w0.heap.size + 2 + k = pl at *
  generalize hlw : w0.heap.size + 4 + (k + 1) + m = lw at *
  have far : ∀ b o, b ≠ bl → b ≠ iab → b ≠ pab → b ≠ pl → b ≠ wk → b ≠ lw → look (writes bl iab pab pl wk lw k m s (stI st k) ++ L) ⟨b, o, none⟩ = none := by
    intro b o h1 h2 h3 h4 h5 h6
    rw [look_append, look_far (fun p hp => by have := B p hp; omega) o, hL _ (by simp [h1]) (by simp [h1]) (by simp [h5])]
    rfl
  have hit : ∀ {a : Addr} {u v : Value}, w.cell? a = some u → look (writes bl iab pab pl wk lw k m s (stI st k)) a = some v → w'.cell? a = some v := fun hc hl => W.hit hc (by rw [look_append, hl]; rfl)
  have mis : ∀ {a : Addr} {u : Value}, w.cell? a = some u → look (writes bl iab pab pl wk lw k m s (stI st k)) a = none → a ≠ ⟨bl, 6, none⟩ → a ≠ ⟨bl, 13, none⟩ → a ≠ ⟨wk, 2, none⟩ → w'.cell? a = some u := fun hc hl h1 h2 h3 => W.miss hc (by rw [look_append, hl, hL _ h1 h2 h3]; rfl)
  refine ⟨h.base.bel.trans (W.below h.base.bel.size ?_), e1, e3, Nat.lt_of_lt_of_le b1 W.size, hit h.base.l8 ?_, hit h.base.l9 ?_, hit h.base.l11 ?_, hit (h.ria k (by omega)) ?_, hit (h.rpa m (by omega)) ?_, ?_, ?_, ?_, ?_, ?_, ?_, ?_, hit h.c0 ?_, hit h.c1 ?_, hit h.c2 ?_, hit h.c4 ?_, hit h.c5 ?_, hit h.c8 ?_⟩
  · intro p hp
    rcases List.mem_append.1 hp with hp | hp
    · have := B p hp; omega
    · exact hB p hp
  · simp [look, writes, X.blia, X.blia.symm, X.blpa, X.blpa.symm, X.blpl, X.blpl.symm, X.blwk, X.blwk.symm, X.bllw, X.bllw.symm, X.iapa, X.iapa.symm, X.iapl, X.iapl.symm, X.iawk, X.iawk.symm, X.ialw, X.ialw.symm, X.papl, X.papl.symm, X.pawk, X.pawk.symm, X.palw, X.palw.symm, X.plwk, X.plwk.symm, X.pllw, X.pllw.symm]
  · simp [look, writes, X.blia, X.blia.symm, X.blpa, X.blpa.symm, X.blpl, X.blpl.symm, X.blwk, X.blwk.symm, X.bllw, X.bllw.symm, X.iapa, X.iapa.symm, X.iapl, X.iapl.symm, X.iawk, X.iawk.symm, X.ialw, X.ialw.symm, X.papl, X.papl.symm, X.pawk, X.pawk.symm, X.palw, X.palw.symm, X.plwk, X.plwk.symm, X.pllw, X.pllw.symm]
  · simp [look, writes, X.blia, X.blia.symm, X.blpa, X.blpa.symm, X.blpl, X.blpl.symm, X.blwk, X.blwk.symm, X.bllw, X.bllw.symm, X.iapa, X.iapa.symm, X.iapl, X.iapl.symm, X.iawk, X.iawk.symm, X.ialw, X.ialw.symm, X.papl, X.papl.symm, X.pawk, X.pawk.symm, X.palw, X.palw.symm, X.plwk, X.plwk.symm, X.pllw, X.pllw.symm]
  · simp [look, writes, X.blia, X.blia.symm, X.blpa, X.blpa.symm, X.blpl, X.blpl.symm, X.blwk, X.blwk.symm, X.bllw, X.bllw.symm, X.iapa, X.iapa.symm, X.iapl, X.iapl.symm, X.iawk, X.iawk.symm, X.ialw, X.ialw.symm, X.papl, X.papl.symm, X.pawk, X.pawk.symm, X.palw, X.palw.symm, X.plwk, X.plwk.symm, X.pllw, X.pllw.symm]
  · simp [look, writes, X.blia, X.blia.symm, X.blpa, X.blpa.symm, X.blpl, X.blpl.symm, X.blwk, X.blwk.symm, X.bllw, X.bllw.symm, X.iapa, X.iapa.symm, X.iapl, X.iapl.symm, X.iawk, X.iawk.symm, X.ialw, X.ialw.symm, X.papl, X.papl.symm, X.pawk, X.pawk.symm, X.palw, X.palw.symm, X.plwk, X.plwk.symm, X.pllw, X.pllw.symm]
  · intro i hi
    exact W.miss (h.rps i hi) (far _ _ (by omega) (by omega) (by omega) (by omega) (by omega) (by omega))
  · intro i hi
    have hik : k ≠ i := by omega
    exact mis (h.ria i (by omega)) (by simp [look, writes, hik, X.blia, X.blia.symm, X.blpa, X.blpa.symm, X.blpl, X.blpl.symm, X.blwk, X.blwk.symm, X.bllw, X.bllw.symm, X.iapa, X.iapa.symm, X.iapl, X.iapl.symm, X.iawk, X.iawk.symm, X.ialw, X.ialw.symm, X.papl, X.papl.symm, X.pawk, X.pawk.symm, X.palw, X.palw.symm, X.plwk, X.plwk.symm, X.pllw, X.pllw.symm]) (by simp [X.blia, X.blia.symm, X.blpa, X.blpa.symm, X.blpl, X.blpl.symm, X.blwk, X.blwk.symm, X.bllw, X.bllw.symm, X.iapa, X.iapa.symm, X.iapl, X.iapl.symm, X.iawk, X.iawk.symm, X.ialw, X.ialw.symm, X.papl, X.papl.symm, X.pawk, X.pawk.symm, X.palw, X.palw.symm, X.plwk, X.plwk.symm, X.pllw, X.pllw.symm]) (by simp [X.blia, X.blia.symm, X.blpa, X.blpa.symm, X.blpl, X.blpl.symm, X.blwk, X.blwk.symm, X.bllw, X.bllw.symm, X.iapa, X.iapa.symm, X.iapl, X.iapl.symm, X.iawk, X.iawk.symm, X.ialw, X.ialw.symm, X.papl, X.papl.symm, X.pawk, X.pawk.symm, X.palw, X.palw.symm, X.plwk, X.plwk.symm, X.pllw, X.pllw.symm]) (by simp [X.blia, X.blia.symm, X.blpa, X.blpa.symm, X.blpl, X.blpl.symm, X.blwk, X.blwk.symm, X.bllw, X.bllw.symm, X.iapa, X.iapa.symm, X.iapl, X.iapl.symm, X.iawk, X.iawk.symm, X.ialw, X.ialw.symm, X.papl, X.papl.symm, X.pawk, X.pawk.symm, X.palw, X.palw.symm, X.plwk, X.plwk.symm, X.pllw, X.pllw.symm])
  · intro i hi
    exact W.miss (h.sts i (by omega)) (far _ _ (by omega) (by omega) (by omega) (by omega) (by omega) (by omega))
  · rw [hpl]
    have := h.sts k (by omega)
    rw [hpl] at this
    exact hit this (by simp [look, writes, X.blia, X.blia.symm, X.blpa, X.blpa.symm, X.blpl, X.blpl.symm, X.blwk, X.blwk.symm, X.bllw, X.bllw.symm, X.iapa, X.iapa.symm, X.iapl, X.iapl.symm, X.iawk, X.iawk.symm, X.ialw, X.ialw.symm, X.papl, X.papl.symm, X.pawk, X.pawk.symm, X.palw, X.palw.symm, X.plwk, X.plwk.symm, X.pllw, X.pllw.symm])
  · intro i hi
    exact W.miss (h.rws i hi) (far _ _ (by omega) (by omega) (by omega) (by omega) (by omega) (by omega))
  · intro i hi
    have him : m ≠ i := by omega
    by_cases his : i = s
    · subst his
      have e : w0.heap.size + 4 + (k + 1) + nx i m i = lw := by simp [nx, hlw]
      rw [e]
      exact hit (h.rpa i (by omega)) (by simp [look, writes, him, X.blia, X.blia.symm, X.blpa, X.blpa.symm, X.blpl, X.blpl.symm, X.blwk, X.blwk.symm, X.bllw, X.bllw.symm, X.iapa, X.iapa.symm, X.iapl, X.iapl.symm, X.iawk, X.iawk.symm, X.ialw, X.ialw.symm, X.papl, X.papl.symm, X.pawk, X.pawk.symm, X.palw, X.palw.symm, X.plwk, X.plwk.symm, X.pllw, X.pllw.symm])
    · have hsi : s ≠ i := fun e => his e.symm
      have e : nx s m i = i := by simp [nx, his]
      rw [e]
      exact mis (h.rpa i (by omega)) (by simp [look, writes, him, hsi, X.blia, X.blia.symm, X.blpa, X.blpa.symm, X.blpl, X.blpl.symm, X.blwk, X.blwk.symm, X.bllw, X.bllw.symm, X.iapa, X.iapa.symm, X.iapl, X.iapl.symm, X.iawk, X.iawk.symm, X.ialw, X.ialw.symm, X.papl, X.papl.symm, X.pawk, X.pawk.symm, X.palw, X.palw.symm, X.plwk, X.plwk.symm, X.pllw, X.pllw.symm]) (by simp [X.blia, X.blia.symm, X.blpa, X.blpa.symm, X.blpl, X.blpl.symm, X.blwk, X.blwk.symm, X.bllw, X.bllw.symm, X.iapa, X.iapa.symm, X.iapl, X.iapl.symm, X.iawk, X.iawk.symm, X.ialw, X.ialw.symm, X.papl, X.papl.symm, X.pawk, X.pawk.symm, X.palw, X.palw.symm, X.plwk, X.plwk.symm, X.pllw, X.pllw.symm]) (by simp [X.blia, X.blia.symm, X.blpa, X.blpa.symm, X.blpl, X.blpl.symm, X.blwk, X.blwk.symm, X.bllw, X.bllw.symm, X.iapa, X.iapa.symm, X.iapl, X.iapl.symm, X.iawk, X.iawk.symm, X.ialw, X.ialw.symm, X.papl, X.papl.symm, X.pawk, X.pawk.symm, X.palw, X.palw.symm, X.plwk, X.plwk.symm, X.pllw, X.pllw.symm]) (by simp [X.blia, X.blia.symm, X.blpa, X.blpa.symm, X.blpl, X.blpl.symm, X.blwk, X.blwk.symm, X.bllw, X.bllw.symm, X.iapa, X.iapa.symm, X.iapl, X.iapl.symm, X.iawk, X.iawk.symm, X.ialw, X.ialw.symm, X.papl, X.papl.symm, X.pawk, X.pawk.symm, X.palw, X.palw.symm, X.plwk, X.plwk.symm, X.pllw, X.pllw.symm])
  · intro i hi
    by_cases his : i = s
    · subst his
      have e : w0.heap.size + 4 + (k + 1) + nx i m i = lw := by simp [nx, hlw]
      rw [e]
      have hc := h.sl m (by omega)
      rw [hlw] at hc
      have hwl : wk ≠ lw := by omega
      exact hit hc (by simp [look, writes, hwl, hwl.symm, X.blia, X.blia.symm, X.blpa, X.blpa.symm, X.blpl, X.blpl.symm, X.blwk, X.blwk.symm, X.bllw, X.bllw.symm, X.iapa, X.iapa.symm, X.iapl, X.iapl.symm, X.iawk, X.iawk.symm, X.ialw, X.ialw.symm, X.papl, X.papl.symm, X.pawk, X.pawk.symm, X.palw, X.palw.symm, X.plwk, X.plwk.symm, X.pllw, X.pllw.symm])
    · have e : nx s m i = i := by simp [nx, his]
      rw [e]
      exact W.miss (h.sl i (by omega)) (far _ _ (by omega) (by omega) (by omega) (by omega) (by omega) (by omega))
  · rw [hpl]; simp [look, writes, X.blia, X.blia.symm, X.blpa, X.blpa.symm, X.blpl, X.blpl.symm, X.blwk, X.blwk.symm, X.bllw, X.bllw.symm, X.iapa, X.iapa.symm, X.iapl, X.iapl.symm, X.iawk, X.iawk.symm, X.ialw, X.ialw.symm, X.papl, X.papl.symm, X.pawk, X.pawk.symm, X.palw, X.palw.symm, X.plwk, X.plwk.symm, X.pllw, X.pllw.symm]
  · simp [look, writes, X.blia, X.blia.symm, X.blpa, X.blpa.symm, X.blpl, X.blpl.symm, X.blwk, X.blwk.symm, X.bllw, X.bllw.symm, X.iapa, X.iapa.symm, X.iapl, X.iapl.symm, X.iawk, X.iawk.symm, X.ialw, X.ialw.symm, X.papl, X.papl.symm, X.pawk, X.pawk.symm, X.palw, X.palw.symm, X.plwk, X.plwk.symm, X.pllw, X.pllw.symm]
  · simp [look, writes, X.blia, X.blia.symm, X.blpa, X.blpa.symm, X.blpl, X.blpl.symm, X.blwk, X.blwk.symm, X.bllw, X.bllw.symm, X.iapa, X.iapa.symm, X.iapl, X.iapl.symm, X.iawk, X.iawk.symm, X.ialw, X.ialw.symm, X.papl, X.papl.symm, X.pawk, X.pawk.symm, X.palw, X.palw.symm, X.plwk, X.plwk.symm, X.pllw, X.pllw.symm]
  · simp [look, writes, X.blia, X.blia.symm, X.blpa, X.blpa.symm, X.blpl, X.blpl.symm, X.blwk, X.blwk.symm, X.bllw, X.bllw.symm, X.iapa, X.iapa.symm, X.iapl, X.iapl.symm, X.iawk, X.iawk.symm, X.ialw, X.ialw.symm, X.papl, X.papl.symm, X.pawk, X.pawk.symm, X.palw, X.palw.symm, X.plwk, X.plwk.symm, X.pllw, X.pllw.symm]
  · simp [look, writes, X.blia, X.blia.symm, X.blpa, X.blpa.symm, X.blpl, X.blpl.symm, X.blwk, X.blwk.symm, X.bllw, X.bllw.symm, X.iapa, X.iapa.symm, X.iapl, X.iapl.symm, X.iawk, X.iawk.symm, X.ialw, X.ialw.symm, X.papl, X.papl.symm, X.pawk, X.pawk.symm, X.palw, X.palw.symm, X.plwk, X.plwk.symm, X.pllw, X.pllw.symm]
  · simp [look, writes, X.blia, X.blia.symm, X.blpa, X.blpa.symm, X.blpl, X.blpl.symm, X.blwk, X.blwk.symm, X.bllw, X.bllw.symm, X.iapa, X.iapa.symm, X.iapl, X.iapl.symm, X.iawk, X.iawk.symm, X.ialw, X.ialw.symm, X.papl, X.papl.symm, X.pawk, X.pawk.symm, X.palw, X.palw.symm, X.plwk, X.plwk.symm, X.pllw, X.pllw.symm]
end Go.Proofs.YbulkcpmoDoor
