import Derived.Test.YbulkcpmoDoorLot
namespace Go.Proofs.YbulkcpmoDoor
open Go.RowKit
set_option linter.unusedVariables false
set_option linter.unusedSimpArgs false

/-- A list of writes that names no cell of the block. -/
theorem look_far {L : List (Addr × Value)} {b : Nat} (h : ∀ p ∈ L, p.1.block ≠ b) (o : Nat) : look L ⟨b, o, none⟩ = none := by
  induction L with
  | nil => rfl
  | cons p L ih =>
    have h1 : p.1 ≠ ⟨b, o, none⟩ := fun e => h p (List.mem_cons_self ..) (by rw [e])
    simp only [look, if_neg h1]
    exact ih fun q hq => h q (List.mem_cons_of_mem _ hq)

/-- A row of pointers to the blocks from f on. -/
def Row (w : World) (b n f : Nat) : Prop := ∀ i, i < n → w.cell? ⟨b, i, none⟩ = some (.pointer (some ⟨f + i, 0, none⟩))
theorem Row.wr {w w' : World} {L : List (Addr × Value)} {b n f : Nat} (h : Row w b n f) (W : Wr L w w') (hL : ∀ p ∈ L, p.1.block ≠ b) : Row w' b n f :=
  fun i hi => W.miss (h i hi) (look_far hL i)

/-- The status of processor i. -/
def stI (st : Int) (i : Nat) : Int := (st + (i : Int)) % 18446744073709551616

/-- The statuses of the first k processors. -/
def Sts (w : World) (q k : Nat) (st : Int) : Prop := ∀ i, i < k → w.cell? ⟨q + i, 260, none⟩ = some (.int .u64 (stI st i))
theorem Sts.wr {w w' : World} {L : List (Addr × Value)} {q k : Nat} {st : Int} (h : Sts w q k st) (W : Wr L w w') (hL : ∀ i, i < k → ∀ p ∈ L, p.1.block ≠ q + i) : Sts w' q k st :=
  fun i hi => W.miss (h i hi) (look_far (hL i hi) 260)

/-- A fresh worker of number i. -/
structure Fresh (w : World) (b : Nat) (i : Int) : Prop where
  c0 : w.cell? ⟨b, 0, none⟩ = some (.pointer none)
  c1 : w.cell? ⟨b, 1, none⟩ = some (.int .u64 0)
  c2 : w.cell? ⟨b, 2, none⟩ = some (.bool false)
  c4 : w.cell? ⟨b, 4, none⟩ = some .nilFunc
  c5 : w.cell? ⟨b, 5, none⟩ = some (.bool false)
  c8 : w.cell? ⟨b, 8, none⟩ = some (.int .i64 i)
theorem Fresh.wr {w w' : World} {L : List (Addr × Value)} {b : Nat} {i : Int} (h : Fresh w b i) (W : Wr L w w') (hL : ∀ p ∈ L, p.1.block ≠ b) : Fresh w' b i :=
  ⟨W.miss h.c0 (look_far hL 0), W.miss h.c1 (look_far hL 1), W.miss h.c2 (look_far hL 2), W.miss h.c4 (look_far hL 4), W.miss h.c5 (look_far hL 5), W.miss h.c8 (look_far hL 8)⟩

/-- The lot, and what lies around it. -/
structure Base (w0 w : World) (bl : Nat) (P : Int) (v8 v9 : Value) (n11 n13 : Int) : Prop where
  bel : Below w0.heap.size w0 w
  bl0 : bl = w0.heap.size
  h0 : 0 < w0.heap.size
  hbl : bl < w.heap.size
  g : w.cell? ⟨0, 0, none⟩ = some (.bool false)
  fz : ∀ b, w0.heap.size ≤ b → b < w.heap.size → Fz w b
  l0 : w.cell? ⟨bl, 0, none⟩ = some (.int .i64 P)
  l6 : w.cell? ⟨bl, 6, none⟩ = some (.int .i32 0)
  l8 : w.cell? ⟨bl, 8, none⟩ = some v8
  l9 : w.cell? ⟨bl, 9, none⟩ = some v9
  l11 : w.cell? ⟨bl, 11, none⟩ = some (.int .i32 n11)
  l13 : w.cell? ⟨bl, 13, none⟩ = some (.int .i32 n13)

/-- The lot's own cells as they were; other blocks of ours turned, or new. -/
theorem Base.wr {w0 w w' : World} {L : List (Addr × Value)} {bl : Nat} {P : Int} {v8 v9 : Value} {n11 n13 : Int} (h : Base w0 w bl P v8 v9 n11 n13) (W : Wr L w w') (hL : ∀ p ∈ L, bl < p.1.block)
    (hN : ∀ b, w.heap.size ≤ b → b < w'.heap.size → Fz w' b) : Base w0 w' bl P v8 v9 n11 n13 := by
  have e0 := h.bl0
  have e1 := h.h0
  have hl : ∀ p ∈ L, p.1.block ≠ bl := fun p hp e => by have := hL p hp; omega
  exact ⟨h.bel.trans (W.below h.bel.size (fun p hp => by have := hL p hp; omega)), h.bl0, h.h0, Nat.lt_of_lt_of_le h.hbl W.size, W.miss h.g (look_far (fun p hp e => by have := hL p hp; omega) 0),
    fun b hb hb2 => if hw : b < w.heap.size then (h.fz b hb hw).wr W hw else hN b (by omega) hb2,
    W.miss h.l0 (look_far hl 0), W.miss h.l6 (look_far hl 6), W.miss h.l8 (look_far hl 8), W.miss h.l9 (look_far hl 9), W.miss h.l11 (look_far hl 11), W.miss h.l13 (look_far hl 13)⟩

/-- Behind newParkingLot. -/
structure SA (w0 w : World) (bl : Nat) (P : Int) : Prop where
  base : Base w0 w bl P (.slice none 0 0) (.slice none 0 0) 0 0
  size : w.heap.size = w0.heap.size + 1

/-- Loop 1: k processors stand. -/
structure SB (w0 w : World) (bl psb K k : Nat) (P st : Int) : Prop where
  base : Base w0 w bl P (.slice none 0 0) (.slice none 0 0) 0 0
  size : w.heap.size = w0.heap.size + 2 + k
  psb0 : psb = w0.heap.size + 1
  row : Row w psb k (w0.heap.size + 2)
  more : ∀ i, k ≤ i → i < K → ∃ v, w.cell? ⟨psb, i, none⟩ = some v
  sts : Sts w (w0.heap.size + 2) k st

/-- Behind the filling of the idle list. -/
structure SC (w0 w : World) (bl psb iab K : Nat) (P n st : Int) : Prop where
  base : Base w0 w bl P (.slice (some ⟨iab, 0, none⟩) K K) (.slice none 0 0) (K : Int) n
  size : w.heap.size = w0.heap.size + 3 + K
  psb0 : psb = w0.heap.size + 1
  iab0 : iab = w0.heap.size + 2 + K
  rps : Row w psb K (w0.heap.size + 2)
  ria : Row w iab K (w0.heap.size + 2)
  sts : Sts w (w0.heap.size + 2) K st

/-- Loop 2: k workers stand. -/
structure SD (w0 w : World) (bl psb iab wsb K M k : Nat) (P n st : Int) : Prop where
  base : Base w0 w bl P (.slice (some ⟨iab, 0, none⟩) K K) (.slice none 0 0) (K : Int) n
  size : w.heap.size = w0.heap.size + 4 + K + k
  psb0 : psb = w0.heap.size + 1
  iab0 : iab = w0.heap.size + 2 + K
  wsb0 : wsb = w0.heap.size + 3 + K
  rps : Row w psb K (w0.heap.size + 2)
  ria : Row w iab K (w0.heap.size + 2)
  sts : Sts w (w0.heap.size + 2) K st
  row : Row w wsb k (w0.heap.size + 4 + K)
  more : ∀ i, k ≤ i → i < M → ∃ v, w.cell? ⟨wsb, i, none⟩ = some v
  wks : ∀ i, i < k → Fresh w (w0.heap.size + 4 + K + i) (i : Int)

/-- Behind the filling of the parked list. -/
structure SE (w0 w : World) (bl psb iab wsb pab K M : Nat) (P n st : Int) : Prop where
  base : Base w0 w bl P (.slice (some ⟨iab, 0, none⟩) K K) (.slice (some ⟨pab, 0, none⟩) M M) (K : Int) n
  size : w.heap.size = w0.heap.size + 5 + K + M
  psb0 : psb = w0.heap.size + 1
  iab0 : iab = w0.heap.size + 2 + K
  wsb0 : wsb = w0.heap.size + 3 + K
  pab0 : pab = w0.heap.size + 4 + K + M
  rps : Row w psb K (w0.heap.size + 2)
  ria : Row w iab K (w0.heap.size + 2)
  sts : Sts w (w0.heap.size + 2) K st
  rws : Row w wsb M (w0.heap.size + 4 + K)
  rpa : Row w pab M (w0.heap.size + 4 + K)
  wks : ∀ i, i < M → Fresh w (w0.heap.size + 4 + K + i) (i : Int)

/-! ### Steps -/
theorem made_get (n i : Nat) (z : Value) (h : i < n) : (madeCells #[z] n)[i]? = some z := by
  have := congrArg (fun l : List Value => l[i]?) (toList_madeCells_one z n)
  simpa [h] using this

/-- Behind 'make([]*proc, K)'. -/
theorem SA.made {w0 w : World} {bl : Nat} {P st : Int} (h : SA w0 w bl P) (K : Nat) : SB w0 (w.alloc (.cells (madeCells #[.pointer none] K) 26)) bl w.heap.size K 0 P st :=
  ⟨h.base.wr ((Wr.refl w).alloc _) (fun p hp => by cases hp) (fun b hb hb2 o => by
      obtain rfl : b = w.heap.size := by simp at hb2; omega
      exact froz_new _ _ _ o),
    by have := h.size; simp; omega, h.size, fun i hi => absurd hi (Nat.not_lt_zero _),
    fun i _ hi => ⟨_, (cell_new _ _ _ _).trans (made_get K i _ hi)⟩, fun i hi => absurd hi (Nat.not_lt_zero _)⟩

/-- A round of loop 1. -/
theorem SB.next {w0 w : World} {bl psb K k : Nat} {P st : Int} (h : SB w0 w bl psb K k P st) (hk : k < K) {Z : Array Value} {t : TypeId} {u : Value} (z : Z[260]? = some u) :
    SB w0 (((w.alloc (.cells Z t)).setCell ⟨w.heap.size, 260, none⟩ (.int .u64 (stI st k))).setCell ⟨psb, k, none⟩ (.pointer (some ⟨w.heap.size, 0, none⟩))) bl psb K (k + 1) P st := by
  obtain ⟨v, hv⟩ := h.more k (Nat.le_refl _) hk
  have e := h.size
  have ep := h.psb0
  have eb := h.base.bl0
  have hvb := World.block_lt_of_cell? _ _ hv
  have hne : psb ≠ w.heap.size := by omega
  have c1 : (w.alloc (.cells Z t)).cell? ⟨w.heap.size, 260, none⟩ = some u := (cell_new _ _ _ _).trans z
  have W1 : Wr [(⟨w.heap.size, 260, none⟩, .int .u64 (stI st k))] w ((w.alloc (.cells Z t)).setCell ⟨w.heap.size, 260, none⟩ (.int .u64 (stI st k))) := ((Wr.refl w).alloc _).set c1 _
  have c2 := W1.miss hv (look_far (by simp <;> omega) k)
  have W := W1.set c2 (.pointer (some ⟨w.heap.size, 0, none⟩))
  have hf : ∀ p ∈ [((⟨psb, k, none⟩ : Addr), (.pointer (some ⟨w.heap.size, 0, none⟩) : Value)), (⟨w.heap.size, 260, none⟩, .int .u64 (stI st k))], p.1.block = psb ∨ p.1.block = w.heap.size := by
    intro p hp
    simp only [List.mem_cons, List.not_mem_nil, or_false] at hp
    rcases hp with rfl | rfl
    · exact .inl rfl
    · exact .inr rfl
  have hsz : (((w.alloc (.cells Z t)).setCell ⟨w.heap.size, 260, none⟩ (.int .u64 (stI st k))).setCell ⟨psb, k, none⟩ (.pointer (some ⟨w.heap.size, 0, none⟩))).heap.size = w.heap.size + 1 := by simp
  refine ⟨h.base.wr W (fun p hp => by rcases hf p hp with hq | hq <;> omega) ?_, by omega, h.psb0, ?_, ?_, ?_⟩
  · intro b hb hb2 o
    obtain rfl : b = w.heap.size := by omega
    simp [froz_new]
  · intro i hi
    by_cases hik : i = k
    · subst hik
      rw [World.cell?_setCell_same _ _ _ c2, e]
    · refine W.miss (h.row i (by omega)) ?_
      rw [look_miss _ _ (by simp <;> omega), look_miss _ _ (by simp <;> omega)]
      rfl
  · intro i hi1 hi2
    obtain ⟨v', hv'⟩ := h.more i (by omega) hi2
    refine ⟨v', W.miss hv' ?_⟩
    rw [look_miss _ _ (by simp <;> omega), look_miss _ _ (by simp <;> omega)]
    rfl
  · intro i hi
    by_cases hik : i = k
    · subst hik
      rw [← e]
      rw [World.cell?_setCell_other _ _ _ _ (by simp <;> omega)]
      exact World.cell?_setCell_same _ _ _ c1
    · refine W.miss (h.sts i (by omega)) (look_far ?_ _)
      intro p hp
      rcases hf p hp with hq | hq <;> omega
end Go.Proofs.YbulkcpmoDoor
