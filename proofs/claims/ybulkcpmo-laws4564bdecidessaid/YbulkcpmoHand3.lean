import Derived.Test.YbulkcpmoHand2
import Derived.Deep.RegionHeld3
namespace Go.Proofs.Ybulkcpmo
open Go.RowKit

/-- What lies before 'wantsHandOff': the monitor (block bm), its scheduler (bs), the lot (bl), the processor (bp), the record seen (bq). -/
structure Hall (w : World) (bm bs bl bp bq : Nat) (idle srch g status nr sr ns ss : Int) (nxt : Option Addr) : Prop where
  m0 : w.cell? ⟨bm, 0, none⟩ = some (.pointer (some ⟨bs, 0, none⟩))
  s7 : w.cell? ⟨bs, 7, none⟩ = some (.pointer (some ⟨bl, 0, none⟩))
  s1 : w.cell? ⟨bs, 1, none⟩ = some (.int .i32 0)
  f1 : w.frozen? ⟨bs, 1, none⟩ = false
  s5 : w.cell? ⟨bs, 5, none⟩ = some (.int .i64 g)
  l11 : w.cell? ⟨bl, 11, none⟩ = some (.int .i32 idle)
  l13 : w.cell? ⟨bl, 13, none⟩ = some (.int .i32 srch)
  p1 : w.cell? ⟨bp, 1, none⟩ = some (.pointer nxt)
  p2 : w.cell? ⟨bp, 2, none⟩ = some (.int .u32 0)
  p3 : w.cell? ⟨bp, 3, none⟩ = some (.int .u32 0)
  q1 : w.cell? ⟨bq, 1, none⟩ = some (.int .u64 nr)
  q2 : w.cell? ⟨bq, 2, none⟩ = some (.int .i64 sr)
  q3 : w.cell? ⟨bq, 3, none⟩ = some (.pointer none)
  q5 : w.cell? ⟨bq, 5, none⟩ = some (.int .u64 status)
  q6 : w.cell? ⟨bq, 6, none⟩ = some (.int .u64 ns)
  q7 : w.cell? ⟨bq, 7, none⟩ = some (.int .i64 ss)
  q8 : w.cell? ⟨bq, 8, none⟩ = some (.pointer none)
  task : nxt = none ∨ ∃ (t : Nat) (cs : Array Value) (fr : Nat × Nat), nxt = some ⟨t, 0, none⟩ ∧ w.heap[t]? = some (.cells cs 95 fr) ∧ cs.size = 6

theorem Hall.below {w w1 : World} {bm bs bl bp bq : Nat} {idle srch g status nr sr ns ss : Int} {nxt : Option Addr} {B : Nat} (h : Hall w bm bs bl bp bq idle srch g status nr sr ns ss nxt) (hb : Below B w w1) (hB : w.heap.size ≤ B) : Hall w1 bm bs bl bp bq idle srch g status nr sr ns ss nxt := by
  have c : ∀ {b o : Nat} {v : Value}, w.cell? ⟨b, o, none⟩ = some v → w1.cell? ⟨b, o, none⟩ = some v := fun {b o v} hc =>
    (hb.cell (p := ⟨b, o, none⟩) (Nat.lt_of_lt_of_le (World.block_lt_of_cell? _ _ hc) hB)).trans hc
  refine ⟨c h.m0, c h.s7, c h.s1, ?_, c h.s5, c h.l11, c h.l13, c h.p1, c h.p2, c h.p3, c h.q1, c h.q2, c h.q3, c h.q5, c h.q6, c h.q7, c h.q8, ?_⟩
  · exact (hb.frozen (p := ⟨bs, 1, none⟩) (Nat.lt_of_lt_of_le (World.block_lt_of_cell? _ _ h.s1) hB)).trans h.f1
  · rcases h.task with h0 | ⟨t, cs, fr, e, ht, hs⟩
    · exact .inl h0
    · refine .inr ⟨t, cs, fr, e, ?_, hs⟩
      have hlt : t < w.heap.size := by
        rcases Nat.lt_or_ge t w.heap.size with hh | hh
        · exact hh
        · rw [Array.getElem?_eq_none hh] at ht; cases ht
      rw [hb.block t (by omega)]; exact ht

def qn (nxt : Option Addr) : Int := if nxt.isSome then 1 else 0
theorem queued_any {w : World} {bm bs bl bp bq : Nat} {idle srch g status nr sr ns ss : Int} {nxt : Option Addr} (h : Hall w bm bs bl bp bq idle srch g status nr sr ns ss nxt) :
    Calls Yba.prog 22 #[.pointer (some ⟨bp, 0, none⟩)] w fun e w' => e = .returned (.int .i64 (qn nxt)) ∧ w' = w := by
  rcases h.task with rfl | ⟨t, cs, fr, rfl, ht, hs⟩
  · exact queued_none bp w h.p1 h.p2 h.p3
  · exact queued_one bp t cs fr w h.p1 h.p2 h.p3 ht hs
theorem qn_ne (nxt : Option Addr) : (qn nxt != 0) = nxt.isSome := by unfold qn; cases nxt <;> rfl

/-- 'now', in a new box behind w. -/
structure NowAt (w : World) (n s : Int) (W : World) : Prop where
  c0 : W.cell? ⟨w.heap.size, 0, none⟩ = some (.int .u64 n)
  c1 : W.cell? ⟨w.heap.size, 1, none⟩ = some (.int .i64 s)
  c2 : W.cell? ⟨w.heap.size, 2, none⟩ = some (.pointer none)
  bel : Below w.heap.size w W
  lt : w.heap.size < W.heap.size
theorem NowAt.start (w : World) (n s : Int) : NowAt w n s (w.alloc (.cells #[.int .u64 n, .int .i64 s, .pointer none] 79)) :=
  ⟨by simp, by simp, by simp, (Below.refl _ _).alloc (Nat.le_refl _) _, by simp⟩
theorem NowAt.later {w W w1 : World} {n s : Int} (h : NowAt w n s W) (hb : Below W.heap.size W w1) : NowAt w n s w1 :=
  ⟨(hb.cell (p := ⟨w.heap.size, 0, none⟩) h.lt).trans h.c0, (hb.cell (p := ⟨w.heap.size, 1, none⟩) h.lt).trans h.c1, (hb.cell (p := ⟨w.heap.size, 2, none⟩) h.lt).trans h.c2, h.bel.trans (hb.mono (Nat.le_of_lt h.lt)), Nat.lt_of_lt_of_le h.lt hb.size⟩
theorem NowAt.drew {w W : World} {n s : Int} (h : NowAt w n s W) : NowAt w n s W.drew := ⟨h.c0, h.c1, h.c2, h.bel.drew, h.lt⟩

theorem sR_of {w W : World} {bm bs bl bp bq : Nat} {idle srch g status nr sr ns ss : Int} {nxt : Option Addr} {n s : Int} (hH : Hall w bm bs bl bp bq idle srch g status nr sr ns ss nxt) (hN : NowAt w n s W) :
    W.cell? ⟨w.heap.size, 0, none⟩ = some (.int .u64 n) ∧ W.cell? ⟨w.heap.size, 1, none⟩ = some (.int .i64 s) ∧ W.cell? ⟨w.heap.size, 2, none⟩ = some (.pointer none) ∧ W.cell? ⟨bq, 1, none⟩ = some (.int .u64 nr) ∧ W.cell? ⟨bq, 2, none⟩ = some (.int .i64 sr) ∧ W.cell? ⟨bq, 3, none⟩ = some (.pointer none) ∧ NowAt w n s W :=
  have h := hH.below hN.bel (Nat.le_refl _)
  ⟨hN.c0, hN.c1, hN.c2, h.q1, h.q2, h.q3, hN⟩
theorem sS_of {w W : World} {bm bs bl bp bq : Nat} {idle srch g status nr sr ns ss : Int} {nxt : Option Addr} {n s : Int} (hH : Hall w bm bs bl bp bq idle srch g status nr sr ns ss nxt) (hN : NowAt w n s W) :
    W.cell? ⟨w.heap.size, 0, none⟩ = some (.int .u64 n) ∧ W.cell? ⟨w.heap.size, 1, none⟩ = some (.int .i64 s) ∧ W.cell? ⟨w.heap.size, 2, none⟩ = some (.pointer none) ∧ W.cell? ⟨bq, 6, none⟩ = some (.int .u64 ns) ∧ W.cell? ⟨bq, 7, none⟩ = some (.int .i64 ss) ∧ W.cell? ⟨bq, 8, none⟩ = some (.pointer none) ∧ NowAt w n s W :=
  have h := hH.below hN.bel (Nat.le_refl _)
  ⟨hN.c0, hN.c1, hN.c2, h.q6, h.q7, h.q8, hN⟩

set_option linter.unusedSimpArgs false in
set_option maxHeartbeats 1000000 in
theorem wants_running {w : World} {bm bs bl bp bq : Nat} {idle srch g status nr sr ns ss : Int} {nxt : Option Addr} (hH : Hall w bm bs bl bp bq idle srch g status nr sr ns ss nxt)
    (hst : bits .and .u64 status 3 = 1) (again : Bool) (n s D : Int)
    (hD : ∀ W, Calls Yba.prog 23 #[.agg #[.int .u64 n, .int .i64 s, .pointer none], .agg #[.int .u64 nr, .int .i64 sr, .pointer none]] W fun e w' => e = .returned (.int .i64 D) ∧ Below W.heap.size W w') :
    Calls Yba.prog 9 #[.pointer (some ⟨bm, 0, none⟩), .pointer (some ⟨bp, 0, none⟩), .pointer (some ⟨bq, 0, none⟩), .bool again, .agg #[.int .u64 n, .int .i64 s, .pointer none]] w fun e w' =>
      e = .returned (.tuple #[.bool (!decide (D < 10000000) && (nxt.isSome || (idle == 0 && g != 0))), .bool (!decide (D < 10000000) && (nxt.isSome || (idle == 0 && g != 0)))]) ∧ Below w.heap.size w w' := by
  have HH : Hid (Hall w bm bs bl bp bq idle srch g status nr sr ns ss nxt) := hH
  have HD : Hid (∀ W, Calls Yba.prog 23 #[.agg #[.int .u64 n, .int .i64 s, .pointer none], .agg #[.int .u64 nr, .int .i64 sr, .pointer none]] W fun e w' => e = .returned (.int .i64 D) ∧ Below W.heap.size W w') := hD
  have HN : Hid (NowAt w n s (w.alloc (.cells #[.int .u64 n, .int .i64 s, .pointer none] 79))) := NowAt.start w n s
  have m0 := hH.m0
  have s7 := hH.s7
  have q5 := hH.q5
  have bm0 : bm < w.heap.size := World.block_lt_of_cell? _ _ m0
  have bs0 : bs < w.heap.size := World.block_lt_of_cell? _ _ s7
  have bq0 : bq < w.heap.size := World.block_lt_of_cell? _ _ q5
  clear hH hD
  go_enter Yba.func9, Yba.ntmps9
  go_wp2_with (go_at_call 21; go_in)
  refine wp_region_held_drew (S := fun W => W.cell? ⟨w.heap.size, 0, none⟩ = some (.int .u64 n) ∧ W.cell? ⟨w.heap.size, 1, none⟩ = some (.int .i64 s) ∧ W.cell? ⟨w.heap.size, 2, none⟩ = some (.pointer none) ∧ W.cell? ⟨bq, 1, none⟩ = some (.int .u64 nr) ∧ W.cell? ⟨bq, 2, none⟩ = some (.int .i64 sr) ∧ W.cell? ⟨bq, 3, none⟩ = some (.pointer none) ∧ NowAt w n s W) (by kernel_rfl) (sR_of HH.out HN.out.drew) (fun hHeld => ?_)
  refine wpAnyH_take (i := 0) (oi := _) (v := .agg #[.int .u64 n, .int .i64 s, .pointer none]) rfl (by kernel_rfl) (by kernel_rfl) (by kernel_rfl) (fun _ _ _ h => h) (Or.inl ⟨by rfl, fun w hS => by go_simp⟩) (by assumption) ?_
  simp only [Act.put, List.setIfInBounds_toArray, List.set_cons_zero, List.set_cons_succ]
  refine wpAnyH_take (i := 1) (oi := _) (v := .pointer (some ⟨bq, 0, none⟩)) rfl (by kernel_rfl) (by kernel_rfl) (by kernel_rfl) (fun _ _ _ h => h) (Or.inl ⟨by rfl, fun w hS => by go_simp⟩) (by assumption) ?_
  simp only [Act.put, List.setIfInBounds_toArray, List.set_cons_zero, List.set_cons_succ]
  refine wpAnyH_take (i := 2) (oi := _) (v := .pointer (some ⟨bq, 0, none⟩)) rfl (by kernel_rfl) (by kernel_rfl) (by kernel_rfl) (fun _ _ _ h => h) (Or.inl ⟨by rfl, fun w hS => by go_simp⟩) (by assumption) ?_
  simp only [Act.put, List.setIfInBounds_toArray, List.set_cons_zero, List.set_cons_succ]
  refine wpAnyH_take (i := 3) (oi := _) (v := .pointer (some ⟨bq, 1, none⟩)) rfl (by kernel_rfl) (by kernel_rfl) (by kernel_rfl) (fun _ _ _ h => h) (Or.inl ⟨by rfl, fun w hS => by go_simp⟩) (by assumption) ?_
  simp only [Act.put, List.setIfInBounds_toArray, List.set_cons_zero, List.set_cons_succ]
  refine wpAnyH_take (i := 4) (oi := _) (v := .agg #[.int .u64 nr, .int .i64 sr, .pointer none]) rfl (by kernel_rfl) (by kernel_rfl) (by kernel_rfl) (fun _ _ _ h => h) (Or.inl ⟨by rfl, fun w hS => by go_simp⟩) (by assumption) ?_
  simp only [Act.put, List.setIfInBounds_toArray, List.set_cons_zero, List.set_cons_succ]
  refine wpAnyH_ready (rs := [5]) (by kernel_rfl) (by simp) ?_
  refine AllReadyH.cons (o := _) rfl (fun K hK => ?_) AllReadyH.nil
  go_simp
  refine (HD.out _).mono ?_
  rintro e w2 ⟨rfl, hb⟩
  have hN2 : NowAt w n s w2 := hHeld.2.2.2.2.2.2.later hb
  refine hK.out _ _ (sR_of HH.out hN2) (fun hHeld2 => ?_)
  clear hK K hHeld hb
  refine wpAnyH_take (i := 6) (oi := _) (v := .bool (decide (D < 10000000))) rfl (by kernel_rfl) (by kernel_rfl) (by kernel_rfl) (fun _ _ _ h => h) (Or.inl ⟨by rfl, fun w hS => by go_simp⟩) (by assumption) ?_
  simp only [Act.put, List.setIfInBounds_toArray, List.set_cons_zero, List.set_cons_succ]
  refine wpAnyH_done (by kernel_rfl) ?_ _
  have HN2 : Hid (NowAt w n s w2) := hN2
  have HH2 : Hid (Hall w2 bm bs bl bp bq idle srch g status nr sr ns ss nxt) := HH.out.below hN2.bel (Nat.le_refl _)
  clear hHeld2 hN2 HN HD m0 s7 q5 bm0 bs0 bq0 HH
  by_cases hlt : D < 10000000
  · go_wp2
    go_ret2
    exact ⟨by simp [hlt], HN2.out.bel⟩
  · go_wp2_with fail
    refine (queued_any HH2.out).mono ?_
    rintro e w3 ⟨rfl, rfl⟩
    cases hx : nxt.isSome
    · have hqn : (qn nxt != 0) = false := by rw [qn_ne, hx]
      go_wp2_with fail
      refine (loadI32 bl 11 idle _ HH2.out.l11).mono ?_
      rintro e w3 ⟨rfl, rfl⟩
      cases hi : (idle == 0)
      · go_wp2
        go_ret2
        exact ⟨by simp [hx, hi], HN2.out.bel⟩
      · have m0 := HH2.out.m0
        go_wp2_with fail
        refine (globalQueued_any bs g _ HH2.out.s1 HH2.out.s5 HH2.out.f1).mono ?_
        rintro e w4 ⟨rfl, hb4⟩
        have HB4 : Hid (Below w.heap.size w w4) := (HN2.out.later hb4).bel
        clear hb4 HN2 HH2 m0
        go_wp2
        go_ret2
        exact ⟨by simp [show ¬ D < 10000000 by omega, hx, hi], HB4.out⟩
    · have hqn : (qn nxt != 0) = true := by rw [qn_ne, hx]
      go_wp2
      go_ret2
      exact ⟨by simp [show ¬ D < 10000000 by omega, hx], HN2.out.bel⟩
end Go.Proofs.Ybulkcpmo
