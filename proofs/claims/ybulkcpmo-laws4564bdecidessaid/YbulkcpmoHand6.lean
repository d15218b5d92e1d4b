import Derived.Test.YbulkcpmoHand5
namespace Go.Proofs.Ybulkcpmo
open Go.RowKit

/-- 'Hall' without the record seen. -/
structure Rest (w : World) (bm bs bl bp : Nat) (idle srch g : Int) (nxt : Option Addr) : Prop where
  m0 : w.cell? ⟨bm, 0, none⟩ = some (.pointer (some ⟨bs, 0, none⟩))
  s7 : w.cell? ⟨bs, 7, none⟩ = some (.pointer (some ⟨bl, 0, none⟩))
  s1 : w.cell? ⟨bs, 1, none⟩ = some (.int .i32 0)
  f1 : w.frozen? ⟨bs, 1, none⟩ = false
  s5 : w.cell? ⟨bs, 5, none⟩ = some (.int .i64 g)
  l11 : w.cell? ⟨bl, 11, none⟩ = some (.int .i32 idle)
  l13 : w.cell? ⟨bl, 13, none⟩ = some (.int .i32 srch)
  p1 : w.cell? ⟨bp, 1, none⟩ = some (.pointer nxt)
  p2 : w.cell? ⟨bp, 2, none⟩ = some (.int .u32 0)
  p3 : w.cell? ⟨bp, 3, none⟩ = some (.int .u32 0)
  task : nxt = none ∨ ∃ (t : Nat) (cs : Array Value) (fr : Nat × Nat), nxt = some ⟨t, 0, none⟩ ∧ w.heap[t]? = some (.cells cs 95 fr) ∧ cs.size = 6

theorem Rest.below {w w1 : World} {bm bs bl bp : Nat} {idle srch g : Int} {nxt : Option Addr} {B : Nat} (h : Rest w bm bs bl bp idle srch g nxt) (hb : Below B w w1) (hB : w.heap.size ≤ B) : Rest w1 bm bs bl bp idle srch g nxt := by
  have c : ∀ {b o : Nat} {v : Value}, w.cell? ⟨b, o, none⟩ = some v → w1.cell? ⟨b, o, none⟩ = some v := fun {b o v} hc =>
    (hb.cell (p := ⟨b, o, none⟩) (Nat.lt_of_lt_of_le (World.block_lt_of_cell? _ _ hc) hB)).trans hc
  refine ⟨c h.m0, c h.s7, c h.s1, ?_, c h.s5, c h.l11, c h.l13, c h.p1, c h.p2, c h.p3, ?_⟩
  · exact (hb.frozen (p := ⟨bs, 1, none⟩) (Nat.lt_of_lt_of_le (World.block_lt_of_cell? _ _ h.s1) hB)).trans h.f1
  · rcases h.task with h0 | ⟨t, cs, fr, e, ht, hs⟩
    · exact .inl h0
    · refine .inr ⟨t, cs, fr, e, ?_, hs⟩
      have hlt : t < w.heap.size := by
        rcases Nat.lt_or_ge t w.heap.size with hh | hh
        · exact hh
        · rw [Array.getElem?_eq_none hh] at ht; cases ht
      rw [hb.block t (by omega)]; exact ht

theorem heap_alloc4 (w : World) (A B C D : Obj) : let W := (((w.alloc A).alloc B).alloc C).alloc D
    W.heap[w.heap.size]? = some A ∧ W.heap[w.heap.size + 1]? = some B ∧ W.heap[w.heap.size + 2]? = some C ∧ W.heap[w.heap.size + 3]? = some D ∧ W.heap.size = w.heap.size + 4 ∧ Below w.heap.size w W := by
  refine ⟨?_, ?_, ?_, ?_, by simp, ((((Below.refl _ _).alloc (Nat.le_refl _) _).alloc (by simp) _).alloc (by simp; omega) _).alloc (by simp; omega) _⟩
  · show ((((w.heap.push A).push B).push C).push D)[w.heap.size]? = _
    simp only [Array.getElem?_push, Array.size_push]
    rw [if_neg (by omega), if_neg (by omega), if_neg (by omega), if_pos trivial]
  · show ((((w.heap.push A).push B).push C).push D)[w.heap.size + 1]? = _
    simp only [Array.getElem?_push, Array.size_push]
    rw [if_neg (by omega), if_neg (by omega), if_pos trivial]
  · show ((((w.heap.push A).push B).push C).push D)[w.heap.size + 2]? = _
    simp only [Array.getElem?_push, Array.size_push]
    rw [if_neg (by omega), if_pos trivial]
  · show ((((w.heap.push A).push B).push C).push D)[w.heap.size + 3]? = _
    simp only [Array.getElem?_push, Array.size_push]
    rw [if_pos trivial]

theorem set_at {Z : Array Value} {i : Nat} {u v : Value} (h : Z[i]? = some u) : (Z.setIfInBounds i v)[i]? = some v := by
  have := (Array.getElem?_eq_some_iff.1 h).1
  simp [this]
theorem set_off {Z : Array Value} {i j : Nat} {v : Value} (h : i ≠ j) : (Z.setIfInBounds i v)[j]? = Z[j]? := by simp [h]

theorem rest_nil (w : World) (Z1 Z2 Z3 Z4 : Array Value) (idle srch g : Int) (z11 : Z1[11]? = some (.int .i32 0)) (z13 : Z1[13]? = some (.int .i32 0))
    (s1 : Z2[1]? = some (.int .i32 0)) (s5 : Z2[5]? = some (.int .i64 0)) (s7 : Z2[7]? = some (.pointer (some ⟨w.heap.size, 0, none⟩))) (m0 : Z3[0]? = some (.pointer (some ⟨w.heap.size + 1, 0, none⟩)))
    (p1 : Z4[1]? = some (.pointer none)) (p2 : Z4[2]? = some (.int .u32 0)) (p3 : Z4[3]? = some (.int .u32 0)) :
    let W := (((w.alloc (.cells ((Z1.setIfInBounds 11 (.int .i32 idle)).setIfInBounds 13 (.int .i32 srch)) 51)).alloc (.cells (Z2.setIfInBounds 5 (.int .i64 g)) 70)).alloc (.cells Z3 81)).alloc (.cells Z4 91)
    Rest W (w.heap.size + 2) (w.heap.size + 1) w.heap.size (w.heap.size + 3) idle srch g none ∧ W.heap.size = w.heap.size + 4 ∧ Below w.heap.size w W := by
  obtain ⟨h0, h1, h2, h3, hs, hb⟩ := heap_alloc4 w (.cells ((Z1.setIfInBounds 11 (.int .i32 idle)).setIfInBounds 13 (.int .i32 srch)) 51) (.cells (Z2.setIfInBounds 5 (.int .i64 g)) 70) (.cells Z3 81) (.cells Z4 91)
  refine ⟨⟨?_, ?_, ?_, ?_, ?_, ?_, ?_, ?_, ?_, ?_, .inl rfl⟩, hs, hb⟩
  · rw [cell_of_row _ _ _ _ _ _ h2]; exact m0
  · rw [cell_of_row _ _ _ _ _ _ h1, set_off (by decide)]; exact s7
  · rw [cell_of_row _ _ _ _ _ _ h1, set_off (by decide)]; exact s1
  · exact frozen_of_row _ _ _ _ _ h1
  · rw [cell_of_row _ _ _ _ _ _ h1]; exact set_at s5
  · rw [cell_of_row _ _ _ _ _ _ h0, set_off (by decide)]; exact set_at z11
  · rw [cell_of_row _ _ _ _ _ _ h0]; exact set_at ((set_off (by decide)).trans z13)
  · rw [cell_of_row _ _ _ _ _ _ h3]; exact p1
  · rw [cell_of_row _ _ _ _ _ _ h3]; exact p2
  · rw [cell_of_row _ _ _ _ _ _ h3]; exact p3

/-- The next slot is filled with a new task. -/
theorem Rest.fill {W : World} {bm bs bl bp : Nat} {idle srch g : Int} (h : Rest W bm bs bl bp idle srch g none) (cs : Array Value) (hs : cs.size = 6) (h1 : bp ≠ bm) (h2 : bp ≠ bs) (h3 : bp ≠ bl) :
    Rest ((W.alloc (.cells cs 95)).setCell ⟨bp, 1, none⟩ (.pointer (some ⟨W.heap.size, 0, none⟩))) bm bs bl bp idle srch g (some ⟨W.heap.size, 0, none⟩) := by
  have hb : Below W.heap.size W (W.alloc (.cells cs 95)) := (Below.refl _ _).alloc (Nat.le_refl _) _
  have r := h.below hb (Nat.le_refl _)
  have hlt : bp < W.heap.size := World.block_lt_of_cell? _ _ h.p1
  have o : ∀ {b k : Nat} (v : Value), bp ≠ b → ((W.alloc (.cells cs 95)).setCell ⟨bp, 1, none⟩ v).cell? ⟨b, k, none⟩ = (W.alloc (.cells cs 95)).cell? ⟨b, k, none⟩ := fun {b k} v hne => World.cell?_setCell_other _ _ _ _ (fun e => hne (congrArg Addr.block e))
  refine ⟨(o _ h1).trans r.m0, (o _ h2).trans r.s7, (o _ h2).trans r.s1, ?_, (o _ h2).trans r.s5, (o _ h3).trans r.l11, (o _ h3).trans r.l13, ?_, ?_, ?_, ?_⟩
  · simp [r.f1]
  · exact World.cell?_setCell_same _ _ _ r.p1
  · exact (World.cell?_setCell_other _ _ _ _ (by simp)).trans r.p2
  · exact (World.cell?_setCell_other _ _ _ _ (by simp)).trans r.p3
  · refine .inr ⟨W.heap.size, cs, (0, 0), rfl, ?_, hs⟩
    rw [Below.heap_setCell _ _ _ _ (by show W.heap.size ≠ bp; omega)]
    exact heap_alloc_new W _

/-! ### Plain: the times -/
theorem times (nowMs rMs : Int) (h0 : -2147483648 ≤ nowMs) (h1 : nowMs ≤ 2147483647) (r0 : -2147483648 ≤ rMs) (r1 : rMs ≤ 2147483647) (W : World) :
    Calls Yba.prog 8 #[.agg (tvc (nowMs * 1000000)), .int .i64 (-(rMs * 1000000))] W fun e w' => e = .returned (.agg (tvc (nowMs * 1000000 - rMs * 1000000))) ∧ Below W.heap.size W w' := by
  have h := add_any (nowMs * 1000000) (-(rMs * 1000000)) (by omega) (by omega) (by omega) (by omega) W
  rw [show nowMs * 1000000 + -(rMs * 1000000) = nowMs * 1000000 - rMs * 1000000 by omega] at h
  exact h
theorem ages (nowMs rMs : Int) (h0 : -2147483648 ≤ nowMs) (h1 : nowMs ≤ 2147483647) (r0 : -2147483648 ≤ rMs) (r1 : rMs ≤ 2147483647) (W : World) :
    Calls Yba.prog 23 #[.agg (tvc (nowMs * 1000000)), .agg (tvc (nowMs * 1000000 - rMs * 1000000))] W fun e w' => e = .returned (.int .i64 (rMs * 1000000)) ∧ Below W.heap.size W w' := by
  have h := sub_any (nowMs * 1000000) (nowMs * 1000000 - rMs * 1000000) (by omega) (by omega) (by omega) (by omega) W
  rw [show nowMs * 1000000 - (nowMs * 1000000 - rMs * 1000000) = rMs * 1000000 by omega] at h
  exact h
theorem start (nowMs : Int) (h0 : -2147483648 ≤ nowMs) (h1 : nowMs ≤ 2147483647) (W : World) :
    Calls Yba.prog 8 #[.agg #[.int .u64 0, .int .i64 0, .pointer none], .int .i64 (nowMs * 1000000)] W fun e w' => e = .returned (.agg (tvc (nowMs * 1000000))) ∧ Below W.heap.size W w' := by
  have h := add_any 0 (nowMs * 1000000) (by omega) (by omega) (by omega) (by omega) W
  rw [Int.zero_add] at h
  exact h
theorem less_ms (x : Int) : decide (x * 1000000 < 10000000) = decide (x < 10) := by
  by_cases h : x < 10
  · simp [h]; omega
  · simp [h]; omega
theorem tvc_out (x : Int) : ∃ n s, tvc x = #[.int .u64 n, .int .i64 s, .pointer none] := ⟨_, _, rfl⟩

theorem clocks (nowMs rMs sMs : Int) (h0 : -2147483648 ≤ nowMs) (h1 : nowMs ≤ 2147483647) (r0 : -2147483648 ≤ rMs) (r1 : rMs ≤ 2147483647) (t0 : -2147483648 ≤ sMs) (t1 : sMs ≤ 2147483647) :
    ∃ n s nr sr ns ss : Int,
      Hid (∀ W, Calls Yba.prog 8 #[.agg #[.int .u64 0, .int .i64 0, .pointer none], .int .i64 (nowMs * 1000000)] W fun e w' => e = .returned (.agg #[.int .u64 n, .int .i64 s, .pointer none]) ∧ Below W.heap.size W w') ∧
      Hid (∀ W, Calls Yba.prog 8 #[.agg #[.int .u64 n, .int .i64 s, .pointer none], .int .i64 (-(rMs * 1000000))] W fun e w' => e = .returned (.agg #[.int .u64 nr, .int .i64 sr, .pointer none]) ∧ Below W.heap.size W w') ∧
      Hid (∀ W, Calls Yba.prog 8 #[.agg #[.int .u64 n, .int .i64 s, .pointer none], .int .i64 (-(sMs * 1000000))] W fun e w' => e = .returned (.agg #[.int .u64 ns, .int .i64 ss, .pointer none]) ∧ Below W.heap.size W w') ∧
      Hid (∀ W, Calls Yba.prog 23 #[.agg #[.int .u64 n, .int .i64 s, .pointer none], .agg #[.int .u64 nr, .int .i64 sr, .pointer none]] W fun e w' => e = .returned (.int .i64 (rMs * 1000000)) ∧ Below W.heap.size W w') ∧
      Hid (∀ W, Calls Yba.prog 23 #[.agg #[.int .u64 n, .int .i64 s, .pointer none], .agg #[.int .u64 ns, .int .i64 ss, .pointer none]] W fun e w' => e = .returned (.int .i64 (sMs * 1000000)) ∧ Below W.heap.size W w') :=
  ⟨_, _, _, _, _, _, fun W => start nowMs h0 h1 W, fun W => times nowMs rMs h0 h1 r0 r1 W, fun W => times nowMs sMs h0 h1 t0 t1 W, fun W => ages nowMs rMs h0 h1 r0 r1 W, fun W => ages nowMs sMs h0 h1 t0 t1 W⟩

/-- The record seen, ten cells. -/
def seenV (nr sr ns ss status : Int) (nx again : Bool) : Array Value :=
  #[.int .u32 7, .int .u64 nr, .int .i64 sr, .pointer none, .bool nx, .int .u64 status, .int .u64 ns, .int .i64 ss, .pointer none, .bool again]

theorem heap_alloc3 (w : World) (A B C : Obj) : let W := ((w.alloc A).alloc B).alloc C
    W.heap[w.heap.size]? = some A ∧ W.heap[w.heap.size + 1]? = some B ∧ W.heap[w.heap.size + 2]? = some C ∧ W.heap.size = w.heap.size + 3 ∧ Below w.heap.size w W := by
  refine ⟨?_, ?_, ?_, by simp, (((Below.refl _ _).alloc (Nat.le_refl _) _).alloc (by simp) _).alloc (by simp; omega) _⟩
  · show (((w.heap.push A).push B).push C)[w.heap.size]? = _
    simp only [Array.getElem?_push, Array.size_push]
    rw [if_neg (by omega), if_neg (by omega), if_pos trivial]
  · show (((w.heap.push A).push B).push C)[w.heap.size + 1]? = _
    simp only [Array.getElem?_push, Array.size_push]
    rw [if_neg (by omega), if_pos trivial]
  · show (((w.heap.push A).push B).push C)[w.heap.size + 2]? = _
    simp only [Array.getElem?_push, Array.size_push]
    rw [if_pos trivial]

theorem hall_of {W : World} {bm bs bl bp : Nat} {idle srch g : Int} {nxt : Option Addr} (h : Rest W bm bs bl bp idle srch g nxt) {bq : Nat} {nr sr ns ss status : Int} {nx again : Bool} (hq : W.heap[bq]? = some (.cells (seenV nr sr ns ss status nx again) 101)) :
    Hall W bm bs bl bp bq idle srch g status nr sr ns ss nxt := by
  have c : ∀ (j : Nat) (v : Value), (seenV nr sr ns ss status nx again)[j]? = some v → W.cell? ⟨bq, j, none⟩ = some v := fun j v hv => by rw [cell_of_row _ _ _ _ _ _ hq]; exact hv
  exact ⟨h.m0, h.s7, h.s1, h.f1, h.s5, h.l11, h.l13, h.p1, h.p2, h.p3, c 1 _ rfl, c 2 _ rfl, c 3 _ rfl, c 5 _ rfl, c 6 _ rfl, c 7 _ rfl, c 8 _ rfl, h.task⟩

/-- A box of three cells, kept. -/
structure BoxAt (W : World) (b : Nat) (n s : Int) : Prop where
  c0 : W.cell? ⟨b, 0, none⟩ = some (.int .u64 n)
  c1 : W.cell? ⟨b, 1, none⟩ = some (.int .i64 s)
  c2 : W.cell? ⟨b, 2, none⟩ = some (.pointer none)
theorem BoxAt.below {W w1 : World} {b B : Nat} {n s : Int} (h : BoxAt W b n s) (hb : Below B W w1) (hB : W.heap.size ≤ B) : BoxAt w1 b n s := by
  have hlt : b < W.heap.size := World.block_lt_of_cell? _ _ h.c0
  exact ⟨(hb.cell (p := ⟨b, 0, none⟩) (by show b < B; omega)).trans h.c0, (hb.cell (p := ⟨b, 1, none⟩) (by show b < B; omega)).trans h.c1, (hb.cell (p := ⟨b, 2, none⟩) (by show b < B; omega)).trans h.c2⟩
theorem BoxAt.new (W : World) (n s : Int) : BoxAt (W.alloc (.cells #[.int .u64 n, .int .i64 s, .pointer none] 79)) W.heap.size n s := ⟨by simp, by simp, by simp⟩
end Go.Proofs.Ybulkcpmo
