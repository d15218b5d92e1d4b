import Derived.Test.YbulkcpmoDoorSt
namespace Go.Proofs.YbulkcpmoDoor
open Go.RowKit
set_option linter.unusedVariables false
set_option linter.unusedSimpArgs false

/-- The numbers' bounds. -/
structure Num (K M s : Nat) (P n st : Int) : Prop where
  hK : K < 8
  hM : 1 ≤ M ∧ M ≤ 6
  hs : s ≤ M
  hP : 0 ≤ P ∧ P < 16
  hn : 0 ≤ n ∧ n < 12
  hst : 0 ≤ st ∧ st < 18446744073709551616

/-! ### make and copy -/
theorem Ybad.info26 : (Ybad.prog.info? 26).map (fun i => (i.zero, i.size, i.bytes)) = some (some (.pointer none), 1, 8) := by kernel_rfl
theorem Ybad.info67 : (Ybad.prog.info? 67).map (fun i => (i.zero, i.size, i.bytes)) = some (some (.pointer none), 1, 8) := by kernel_rfl
theorem make25 (K : Nat) (h : K < 8) (W : World) : (Instr.makeSlice 25 (.int .i64 (K : Int)) (.int .i64 (K : Int))).run Ybad.prog W = .ok (.slice (some ⟨W.heap.size, 0, none⟩) K K) (W.alloc (.cells (madeCells #[.pointer none] K) 26)) :=
  run_make_row' 25 26 (.pointer none) 8 Ybad.underlying25 Ybad.info26 rfl .i64 .i64 K (by omega) (by omega) W
theorem make56 (K : Nat) (h : K < 8) (W : World) : (Instr.makeSlice 56 (.int .i64 (K : Int)) (.int .i64 (K : Int))).run Ybad.prog W = .ok (.slice (some ⟨W.heap.size, 0, none⟩) K K) (W.alloc (.cells (madeCells #[.pointer none] K) 67)) :=
  run_make_row' 56 67 (.pointer none) 8 Ybad.underlying56 Ybad.info67 rfl .i64 .i64 K (by omega) (by omega) W

/-- The cells of a row of pointers. -/
def ptrs (n f : Nat) : List Value := (List.range n).map fun i => .pointer (some ⟨f + i, 0, none⟩)
theorem ptrs_get {n f i : Nat} (h : i < n) : (ptrs n f)[i]? = some (.pointer (some ⟨f + i, 0, none⟩)) := by simp [ptrs, h]
theorem ptrs_some {n f j : Nat} {v : Value} (h : (ptrs n f)[j]? = some v) : j < n ∧ v = .pointer (some ⟨f + j, 0, none⟩) := by
  have hj : j < n := by
    have := (List.getElem?_eq_some_iff.1 h).1
    simpa [ptrs] using this
  rw [ptrs_get hj] at h
  exact ⟨hj, (Option.some.inj h).symm⟩

/-- The row of a new block laid anew. -/
theorem setRow_new (w : World) (A B : Array Value) (t : TypeId) : (w.alloc (.cells A t)).setRow w.heap.size B = w.alloc (.cells B t) := by
  unfold World.setRow
  cases w with
  | mk heap tape drawn os output =>
    simp only [World.alloc]
    congr 1
    apply Array.ext
    · simp
    · intro k h1 h2
      simp only [Array.getElem_modify]
      split
      · rename_i hk; subst hk; simp
      · rename_i hk
        have : k < heap.size := by simp at h2; omega
        simp [Array.getElem_push_lt this]

/-- 'copy' of a whole row of pointers into a new row. -/
theorem copy_new (T e ty : TypeId) (hu : Ybad.prog.underlying T = some (.slice e)) (hs : (Ybad.prog.info? e).map (·.size) = some 1) (w : World) (n b f : Nat) (hb : b < w.heap.size) (h : Row w b n f) :
    (Builtin.copy_ #[T, T] ty #[.slice (some ⟨w.heap.size, 0, none⟩) n n, .slice (some ⟨b, 0, none⟩) n n]).run Ybad.prog (w.alloc (.cells (madeCells #[.pointer none] n) e)) = .ok (.int .i64 (n : Int)) (w.alloc (.cells (ptrs n f).toArray e)) := by
  have hz : (madeCells #[Value.pointer none] n).size = n := size_madeCells _ _
  have hlen : (ptrs n f).length = n := by simp [ptrs]
  have := run_copy_row Ybad.prog (w.alloc (.cells (madeCells #[.pointer none] n) e)) T T ty e w.heap.size 0 n n ⟨b, 0, none⟩ n n (madeCells #[.pointer none] n) e (ptrs n f) hu hs (heap_alloc_new _ _) (by rw [hlen]; exact (Nat.min_self n).symm)
    (fun j v hj => by
      obtain ⟨hj2, rfl⟩ := ptrs_some hj
      have hadd : (⟨b, 0, none⟩ : Addr).add j = ⟨b, j, none⟩ := by unfold Addr.add; split <;> simp_all
      rw [hadd]
      exact ((Wr.refl w).alloc _).miss (h j hj2) rfl) (by rw [hlen, hz]; omega) (fun v hv => by
      obtain ⟨i, -, rfl⟩ := List.mem_map.1 hv
      rfl)
  rw [this, setRow_new, hlen]
  have hd : (madeCells #[Value.pointer none] n).toList.drop (0 + n) = [] := List.drop_eq_nil_of_le (by simp [hz])
  rw [hd]
  simp [goInt]

theorem row_new (w : World) (n f : Nat) (t : TypeId) : Row (w.alloc (.cells (ptrs n f).toArray t)) w.heap.size n f := fun i hi => (cell_new _ _ _ _).trans (by simpa using ptrs_get (f := f) hi)

/-! ### The states, further -/
theorem zero44 (i : Int) : (Ybad.zeroCells44.setIfInBounds 0 (.int .i64 i))[260]? = some (.int .u64 0) := by kernel_rfl
theorem zero74 (i : Int) : (Ybad.zeroCells74.setIfInBounds 8 (.int .i64 i))[0]? = some (.pointer none) ∧ (Ybad.zeroCells74.setIfInBounds 8 (.int .i64 i))[1]? = some (.int .u64 0) ∧ (Ybad.zeroCells74.setIfInBounds 8 (.int .i64 i))[2]? = some (.bool false) ∧ (Ybad.zeroCells74.setIfInBounds 8 (.int .i64 i))[4]? = some .nilFunc ∧ (Ybad.zeroCells74.setIfInBounds 8 (.int .i64 i))[5]? = some (.bool false) ∧ (Ybad.zeroCells74.setIfInBounds 8 (.int .i64 i))[8]? = some (.int .i64 i) :=
  ⟨by kernel_rfl, by kernel_rfl, by kernel_rfl, by kernel_rfl, by kernel_rfl, by kernel_rfl⟩
theorem stI_wrap (st : Int) (k : Nat) : IntKind.u64.wrap (st + (k : Int)) = stI st k := by
  simp [IntKind.wrap, stI, IntKind.signed, IntKind.bits]
theorem fz_new {w : World} {Z : Array Value} {t : TypeId} {b : Nat} (h1 : w.heap.size ≤ b) (h2 : b < (w.alloc (.cells Z t)).heap.size) : Fz (w.alloc (.cells Z t)) b := by
  obtain rfl : b = w.heap.size := by simp at h2; omega
  exact fun o => froz_new _ _ _ o

/-- The lot's lists and counts written. -/
theorem Base.put {w0 w w' : World} {L : List (Addr × Value)} {bl : Nat} {P : Int} {v8 v9 u8 u9 : Value} {n11 n13 m11 m13 : Int} (h : Base w0 w bl P v8 v9 n11 n13) (W : Wr L w w') (hs : w'.heap.size = w.heap.size) (hL : ∀ p ∈ L, p.1.block = bl)
    (k0 : look L ⟨bl, 0, none⟩ = none) (k6 : look L ⟨bl, 6, none⟩ = none) (l8 : w'.cell? ⟨bl, 8, none⟩ = some u8) (l9 : w'.cell? ⟨bl, 9, none⟩ = some u9) (l11 : w'.cell? ⟨bl, 11, none⟩ = some (.int .i32 m11)) (l13 : w'.cell? ⟨bl, 13, none⟩ = some (.int .i32 m13)) : Base w0 w' bl P u8 u9 m11 m13 := by
  have e0 := h.bl0
  have e1 := h.h0
  exact ⟨h.bel.trans (W.below h.bel.size (fun p hp => by have := hL p hp; omega)), h.bl0, h.h0, Nat.lt_of_lt_of_le h.hbl W.size, W.miss h.g (look_far (fun p hp e => by have := hL p hp; omega) 0),
    fun b hb hb2 => (h.fz b hb (by omega)).wr W (by omega), W.miss h.l0 k0, W.miss h.l6 k6, l8, l9, l11, l13⟩

theorem one3 {bl o1 o2 o3 : Nat} {a b c : Value} : ∀ p ∈ [((⟨bl, o1, none⟩ : Addr), a), (⟨bl, o2, none⟩, b), (⟨bl, o3, none⟩, c)], p.1.block = bl := by
  intro p hp
  simp only [List.mem_cons, List.not_mem_nil, or_false] at hp
  rcases hp with rfl | rfl | rfl <;> rfl

/-- The idle list laid. -/
theorem SB.filled {w0 w : World} {bl psb K : Nat} {P n st : Int} (h : SB w0 w bl psb K K P st) :
    SC w0 ((((w.alloc (.cells (ptrs K (w0.heap.size + 2)).toArray 26)).setCell ⟨bl, 8, none⟩ (.slice (some ⟨w.heap.size, 0, none⟩) K K)).setCell ⟨bl, 11, none⟩ (.int .i32 (K : Int))).setCell ⟨bl, 13, none⟩ (.int .i32 n)) bl psb w.heap.size K P n st := by
  have e := h.size
  have ep := h.psb0
  have eb := h.base.bl0
  have W1 : Wr [] w (w.alloc (.cells (ptrs K (w0.heap.size + 2)).toArray 26)) := (Wr.refl w).alloc _
  have B1 := h.base.wr W1 (fun p hp => by cases hp) (fun b hb hb2 => fz_new hb hb2)
  have c8 := B1.l8
  have W2 := Wr.one c8 (.slice (some ⟨w.heap.size, 0, none⟩) K K)
  have W3 := W2.set (W2.miss B1.l11 (by simp [look])) (.int .i32 (K : Int))
  have W4 := W3.set (W3.miss B1.l13 (by simp [look])) (.int .i32 n)
  refine ⟨B1.put W4 (by simp) one3 (by simp [look]) (by simp [look]) (W4.hit B1.l8 (by simp [look])) (W4.miss B1.l9 (by simp [look])) (W4.hit B1.l11 (by simp [look])) (W4.hit B1.l13 (by simp [look])), by simp; omega, ep, by omega, ?_, ?_, ?_⟩
  · exact (h.row.wr W1 (fun p hp => by cases hp)).wr W4 (fun p hp => by have := one3 p hp; omega)
  · exact (row_new w K _ _).wr W4 (fun p hp => by have := one3 p hp; omega)
  · exact (h.sts.wr W1 (fun i hi p hp => by cases hp)).wr W4 (fun i hi p hp => by have := one3 p hp; omega)

/-- Behind 'make([]*worker, M)'. -/
theorem SC.made {w0 w : World} {bl psb iab K : Nat} {P n st : Int} (h : SC w0 w bl psb iab K P n st) (M : Nat) : SD w0 (w.alloc (.cells (madeCells #[.pointer none] M) 67)) bl psb iab w.heap.size K M 0 P n st := by
  have W1 : Wr [] w (w.alloc (.cells (madeCells #[.pointer none] M) 67)) := (Wr.refl w).alloc _
  have e := h.size
  exact ⟨h.base.wr W1 (fun p hp => by cases hp) (fun b hb hb2 => fz_new hb hb2), by simp; omega, h.psb0, h.iab0, by omega, h.rps.wr W1 (fun p hp => by cases hp), h.ria.wr W1 (fun p hp => by cases hp), h.sts.wr W1 (fun i hi p hp => by cases hp),
    fun i hi => absurd hi (Nat.not_lt_zero _), fun i _ hi => ⟨_, (cell_new _ _ _ _).trans (made_get M i _ hi)⟩, fun i hi => absurd hi (Nat.not_lt_zero _)⟩

theorem fresh_new (w : World) (Z : Array Value) (t : TypeId) (i : Int) (h : Z[0]? = some (.pointer none) ∧ Z[1]? = some (.int .u64 0) ∧ Z[2]? = some (.bool false) ∧ Z[4]? = some .nilFunc ∧ Z[5]? = some (.bool false) ∧ Z[8]? = some (.int .i64 i)) :
    Fresh (w.alloc (.cells Z t)) w.heap.size i :=
  ⟨(cell_new _ _ _ _).trans h.1, (cell_new _ _ _ _).trans h.2.1, (cell_new _ _ _ _).trans h.2.2.1, (cell_new _ _ _ _).trans h.2.2.2.1, (cell_new _ _ _ _).trans h.2.2.2.2.1, (cell_new _ _ _ _).trans h.2.2.2.2.2⟩

/-- A round of loop 2. -/
theorem SD.next {w0 w : World} {bl psb iab wsb K M k : Nat} {P n st : Int} (h : SD w0 w bl psb iab wsb K M k P n st) (hk : k < M) {Z : Array Value} {t : TypeId}
    (hZ : Z[0]? = some (.pointer none) ∧ Z[1]? = some (.int .u64 0) ∧ Z[2]? = some (.bool false) ∧ Z[4]? = some .nilFunc ∧ Z[5]? = some (.bool false) ∧ Z[8]? = some (.int .i64 (k : Int))) :
    SD w0 ((w.alloc (.cells Z t)).setCell ⟨wsb, k, none⟩ (.pointer (some ⟨w.heap.size, 0, none⟩))) bl psb iab wsb K M (k + 1) P n st := by
  obtain ⟨v, hv⟩ := h.more k (Nat.le_refl _) hk
  have e := h.size
  have ep := h.psb0
  have ei := h.iab0
  have ew := h.wsb0
  have eb := h.base.bl0
  have W1 : Wr [] w (w.alloc (.cells Z t)) := (Wr.refl w).alloc _
  have c2 := W1.miss hv rfl
  have W2 := Wr.one c2 (.pointer (some ⟨w.heap.size, 0, none⟩))
  have W := W1.trans W2
  have hf : ∀ p ∈ [((⟨wsb, k, none⟩ : Addr), (.pointer (some ⟨w.heap.size, 0, none⟩) : Value))], p.1.block = wsb := by
    intro p hp
    simp only [List.mem_cons, List.not_mem_nil, or_false] at hp
    rw [hp]
  have hf2 : ∀ p ∈ [((⟨wsb, k, none⟩ : Addr), (.pointer (some ⟨w.heap.size, 0, none⟩) : Value))] ++ [], p.1.block = wsb := by simp
  refine ⟨h.base.wr W (fun p hp => by have := hf2 p hp; omega) ?_, by simp; omega, ep, ei, ew, h.rps.wr W (fun p hp => by have := hf2 p hp; omega), h.ria.wr W (fun p hp => by have := hf2 p hp; omega), h.sts.wr W (fun i hi p hp => by have := hf2 p hp; omega), ?_, ?_, ?_⟩
  · intro b hb hb2
    exact (fz_new hb (by simpa using hb2)).wr W2 (by simpa using hb2)
  · intro i hi
    by_cases hik : i = k
    · subst hik
      rw [World.cell?_setCell_same _ _ _ c2, e]
    · refine W.miss (h.row i (by omega)) ?_
      rw [List.append_nil, look_miss _ _ (by simp <;> omega)]
      rfl
  · intro i hi1 hi2
    obtain ⟨v', hv'⟩ := h.more i (by omega) hi2
    refine ⟨v', W.miss hv' ?_⟩
    rw [List.append_nil, look_miss _ _ (by simp <;> omega)]
    rfl
  · intro i hi
    by_cases hik : i = k
    · subst hik
      rw [← e]
      exact (fresh_new w Z t (i : Int) hZ).wr W2 (fun p hp => by have := hf p hp; omega)
    · exact (h.wks i (by omega)).wr W (fun p hp => by have := hf2 p hp; omega)

/-- The parked list laid. -/
theorem SD.filled {w0 w : World} {bl psb iab wsb K M : Nat} {P n st : Int} (h : SD w0 w bl psb iab wsb K M M P n st) :
    SE w0 ((w.alloc (.cells (ptrs M (w0.heap.size + 4 + K)).toArray 67)).setCell ⟨bl, 9, none⟩ (.slice (some ⟨w.heap.size, 0, none⟩) M M)) bl psb iab wsb w.heap.size K M P n st := by
  have e := h.size
  have ep := h.psb0
  have ei := h.iab0
  have ew := h.wsb0
  have eb := h.base.bl0
  have W1 : Wr [] w (w.alloc (.cells (ptrs M (w0.heap.size + 4 + K)).toArray 67)) := (Wr.refl w).alloc _
  have B1 := h.base.wr W1 (fun p hp => by cases hp) (fun b hb hb2 => fz_new hb hb2)
  have W2 := Wr.one B1.l9 (.slice (some ⟨w.heap.size, 0, none⟩) M M)
  have hf : ∀ p ∈ [((⟨bl, 9, none⟩ : Addr), (.slice (some ⟨w.heap.size, 0, none⟩) M M : Value))], p.1.block = bl := by
    intro p hp
    simp only [List.mem_cons, List.not_mem_nil, or_false] at hp
    rw [hp]
  refine ⟨B1.put W2 (by simp) hf (by simp [look]) (by simp [look]) (W2.miss B1.l8 (by simp [look])) (W2.hit B1.l9 (by simp [look])) (W2.miss B1.l11 (by simp [look])) (W2.miss B1.l13 (by simp [look])), by simp; omega, ep, ei, ew, by omega, ?_, ?_, ?_, ?_, ?_, ?_⟩
  · exact (h.rps.wr W1 (fun p hp => by cases hp)).wr W2 (fun p hp => by have := hf p hp; omega)
  · exact (h.ria.wr W1 (fun p hp => by cases hp)).wr W2 (fun p hp => by have := hf p hp; omega)
  · exact (h.sts.wr W1 (fun i hi p hp => by cases hp)).wr W2 (fun i hi p hp => by have := hf p hp; omega)
  · exact (h.row.wr W1 (fun p hp => by cases hp)).wr W2 (fun p hp => by have := hf p hp; omega)
  · exact (row_new w M _ _).wr W2 (fun p hp => by have := hf p hp; omega)
  · intro i hi
    exact ((h.wks i hi).wr W1 (fun p hp => by cases hp)).wr W2 (fun p hp => by have := hf p hp; omega)
end Go.Proofs.YbulkcpmoDoor
