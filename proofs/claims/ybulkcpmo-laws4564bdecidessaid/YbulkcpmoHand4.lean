import Derived.Test.YbulkcpmoHand3
namespace Go.Proofs.Ybulkcpmo
open Go.RowKit

section
variable {P : Program} {ops : Array Oper} {Q : Exit → Act → World → Prop} {md : Region.Mode} {S : World → Prop}
/-- An operation that is wanted is taken first; its slot is told outright. -/
theorem takeYes {i : Nat} {oi : Oper} {v : Value} {fuel : Nat} {listed : Array Bool} {a : Act} {w : World} (d : Option Tmp) (hi : ops[i]? = some oi) (hd : oi.dst = d)
    (hs : Region.noSelect ops = true) (hf : Region.free md ops listed i = true) (hr : (Region.ready md ops listed).contains i = true)
    (hQ : ∀ c a w, Q (.panic c) (a.put d v) w → Q (.panic c) a w) (hw : Region.wanted oi (yielded ops a.tmps) = true) (hy : ∀ w, S w → (execOp a.eval oi).run P w = .ok (.value v) w) (hS : S w)
    (h : wpAnyH P md ops Q S fuel (listed.setIfInBounds i true) (a.put d v) w) : wpAnyH P md ops Q S (fuel + 1) listed a w := by
  subst hd
  exact wpAnyH_take hi hs hf hr hQ (Or.inl ⟨hw, hy⟩) hS h
/-- .. one that its guard passes over. -/
theorem takeNo {i : Nat} {oi : Oper} {fuel : Nat} {listed : Array Bool} {a : Act} {w : World} (d : Option Tmp) (hi : ops[i]? = some oi) (hd : oi.dst = d)
    (hs : Region.noSelect ops = true) (hf : Region.free md ops listed i = true) (hr : (Region.ready md ops listed).contains i = true)
    (hQ : ∀ c a w, Q (.panic c) (a.put d undef) w → Q (.panic c) a w) (hw : Region.wanted oi (yielded ops a.tmps) = false) (hS : S w)
    (h : wpAnyH P md ops Q S fuel (listed.setIfInBounds i true) (a.put d undef) w) : wpAnyH P md ops Q S (fuel + 1) listed a w := by
  subst hd
  exact wpAnyH_take hi hs hf hr hQ (Or.inr ⟨hw, rfl⟩) hS h
end

/-- Neither blocked nor running. -/
theorem wants_other {w : World} {bm bs bl bp bq : Nat} {idle srch g status nr sr ns ss : Int} {nxt : Option Addr} (hH : Hall w bm bs bl bp bq idle srch g status nr sr ns ss nxt)
    (st : Int) (hst : bits .and .u64 status 3 = st) (h2 : (st == 2) = false) (h1 : (st == 1) = false) (again : Bool) (n s : Int) :
    Calls Yba.prog 9 #[.pointer (some ⟨bm, 0, none⟩), .pointer (some ⟨bp, 0, none⟩), .pointer (some ⟨bq, 0, none⟩), .bool again, .agg #[.int .u64 n, .int .i64 s, .pointer none]] w fun e w' => e = .returned (.tuple #[.bool false, .bool false]) ∧ Below w.heap.size w w' := by
  have HH : Hid (Hall w bm bs bl bp bq idle srch g status nr sr ns ss nxt) := hH
  have HN : Hid (NowAt w n s (w.alloc (.cells #[.int .u64 n, .int .i64 s, .pointer none] 79))) := NowAt.start w n s
  have m0 := hH.m0
  have s7 := hH.s7
  have q5 := hH.q5
  have bm0 : bm < w.heap.size := World.block_lt_of_cell? _ _ m0
  have bs0 : bs < w.heap.size := World.block_lt_of_cell? _ _ s7
  have bq0 : bq < w.heap.size := World.block_lt_of_cell? _ _ q5
  clear hH
  go_enter Yba.func9, Yba.ntmps9
  go_wp2_with (go_at_call 21; go_in)
  go_ret2
  exact ⟨rfl, HN.out.bel⟩

/-- Blocked, first seen so. -/
theorem wants_fresh {w : World} {bm bs bl bp bq : Nat} {idle srch g status nr sr ns ss : Int} {nxt : Option Addr} (hH : Hall w bm bs bl bp bq idle srch g status nr sr ns ss nxt)
    (hst : bits .and .u64 status 3 = 2) (n s : Int) :
    Calls Yba.prog 9 #[.pointer (some ⟨bm, 0, none⟩), .pointer (some ⟨bp, 0, none⟩), .pointer (some ⟨bq, 0, none⟩), .bool false, .agg #[.int .u64 n, .int .i64 s, .pointer none]] w fun e w' => e = .returned (.tuple #[.bool false, .bool false]) ∧ Below w.heap.size w w' := by
  have HH : Hid (Hall w bm bs bl bp bq idle srch g status nr sr ns ss nxt) := hH
  have HN : Hid (NowAt w n s (w.alloc (.cells #[.int .u64 n, .int .i64 s, .pointer none] 79))) := NowAt.start w n s
  have m0 := hH.m0
  have s7 := hH.s7
  have q5 := hH.q5
  have bm0 : bm < w.heap.size := World.block_lt_of_cell? _ _ m0
  have bs0 : bs < w.heap.size := World.block_lt_of_cell? _ _ s7
  have bq0 : bq < w.heap.size := World.block_lt_of_cell? _ _ q5
  clear hH
  go_enter Yba.func9, Yba.ntmps9
  go_wp2_with (go_at_call 21; go_in)
  go_ret2
  exact ⟨rfl, HN.out.bel⟩

set_option linter.unusedSimpArgs false in
set_option maxHeartbeats 1000000 in
/-- Blocked, seen so again, a task in the next slot. -/
theorem wants_next {w : World} {bm bs bl bp bq : Nat} {idle srch g status nr sr ns ss : Int} {nxt : Option Addr} (hH : Hall w bm bs bl bp bq idle srch g status nr sr ns ss nxt)
    (hst : bits .and .u64 status 3 = 2) (hx : nxt.isSome = true) (n s : Int) :
    Calls Yba.prog 9 #[.pointer (some ⟨bm, 0, none⟩), .pointer (some ⟨bp, 0, none⟩), .pointer (some ⟨bq, 0, none⟩), .bool true, .agg #[.int .u64 n, .int .i64 s, .pointer none]] w fun e w' => e = .returned (.tuple #[.bool true, .bool true]) ∧ Below w.heap.size w w' := by
  have hqn : (qn nxt != 0) = true := by rw [qn_ne, hx]
  have HH : Hid (Hall w bm bs bl bp bq idle srch g status nr sr ns ss nxt) := hH
  have HN : Hid (NowAt w n s (w.alloc (.cells #[.int .u64 n, .int .i64 s, .pointer none] 79))) := NowAt.start w n s
  have m0 := hH.m0
  have s7 := hH.s7
  have q5 := hH.q5
  have bm0 : bm < w.heap.size := World.block_lt_of_cell? _ _ m0
  have bs0 : bs < w.heap.size := World.block_lt_of_cell? _ _ s7
  have bq0 : bq < w.heap.size := World.block_lt_of_cell? _ _ q5
  clear hH
  go_enter Yba.func9, Yba.ntmps9
  go_wp2_with (go_at_call 21; go_in)
  refine (queued_any (HH.out.below HN.out.bel (Nat.le_refl _))).mono ?_
  rintro e w1 ⟨rfl, rfl⟩
  go_wp2_with fail
  refine wp_region_held_drew (S := fun W => W.cell? ⟨w.heap.size, 0, none⟩ = some (.int .u64 n) ∧ W.cell? ⟨w.heap.size, 1, none⟩ = some (.int .i64 s) ∧ W.cell? ⟨w.heap.size, 2, none⟩ = some (.pointer none) ∧ W.cell? ⟨bq, 6, none⟩ = some (.int .u64 ns) ∧ W.cell? ⟨bq, 7, none⟩ = some (.int .i64 ss) ∧ W.cell? ⟨bq, 8, none⟩ = some (.pointer none) ∧ NowAt w n s W) (by kernel_rfl) (sS_of HH.out HN.out.drew) (fun hHeld => ?_)
  refine takeYes (i := 0) (v := .bool true) (some 34) rfl rfl (by kernel_rfl) (by kernel_rfl) (by kernel_rfl) (fun _ _ _ h => h) (by kernel_rfl) (fun w hS => by go_simp) (by assumption) ?_
  simp only [Act.put, List.setIfInBounds_toArray, List.set_cons_zero, List.set_cons_succ]
  refine takeYes (i := 1) (v := .bool false) (some 35) rfl rfl (by kernel_rfl) (by kernel_rfl) (by kernel_rfl) (fun _ _ _ h => h) (by kernel_rfl) (fun w hS => by go_simp) (by assumption) ?_
  simp only [Act.put, List.setIfInBounds_toArray, List.set_cons_zero, List.set_cons_succ]
  refine takeYes (i := 2) (v := .bool false) (some 36) rfl rfl (by kernel_rfl) (by kernel_rfl) (by kernel_rfl) (fun _ _ _ h => h) (by kernel_rfl) (fun w hS => by go_simp) (by assumption) ?_
  simp only [Act.put, List.setIfInBounds_toArray, List.set_cons_zero, List.set_cons_succ]
  refine takeNo (i := 3) (some 37) rfl rfl (by kernel_rfl) (by kernel_rfl) (by kernel_rfl) (fun _ _ _ h => h) (by kernel_rfl) (by assumption) ?_
  simp only [Act.put, List.setIfInBounds_toArray, List.set_cons_zero, List.set_cons_succ]
  refine takeNo (i := 4) (some 38) rfl rfl (by kernel_rfl) (by kernel_rfl) (by kernel_rfl) (fun _ _ _ h => h) (by kernel_rfl) (by assumption) ?_
  simp only [Act.put, List.setIfInBounds_toArray, List.set_cons_zero, List.set_cons_succ]
  refine takeNo (i := 5) (some 39) rfl rfl (by kernel_rfl) (by kernel_rfl) (by kernel_rfl) (fun _ _ _ h => h) (by kernel_rfl) (by assumption) ?_
  simp only [Act.put, List.setIfInBounds_toArray, List.set_cons_zero, List.set_cons_succ]
  refine takeNo (i := 6) (some 40) rfl rfl (by kernel_rfl) (by kernel_rfl) (by kernel_rfl) (fun _ _ _ h => h) (by kernel_rfl) (by assumption) ?_
  simp only [Act.put, List.setIfInBounds_toArray, List.set_cons_zero, List.set_cons_succ]
  refine takeNo (i := 7) (some 41) rfl rfl (by kernel_rfl) (by kernel_rfl) (by kernel_rfl) (fun _ _ _ h => h) (by kernel_rfl) (by assumption) ?_
  simp only [Act.put, List.setIfInBounds_toArray, List.set_cons_zero, List.set_cons_succ]
  refine takeNo (i := 8) (some 42) rfl rfl (by kernel_rfl) (by kernel_rfl) (by kernel_rfl) (fun _ _ _ h => h) (by kernel_rfl) (by assumption) ?_
  simp only [Act.put, List.setIfInBounds_toArray, List.set_cons_zero, List.set_cons_succ]
  refine takeNo (i := 9) (some 43) rfl rfl (by kernel_rfl) (by kernel_rfl) (by kernel_rfl) (fun _ _ _ h => h) (by kernel_rfl) (by assumption) ?_
  simp only [Act.put, List.setIfInBounds_toArray, List.set_cons_zero, List.set_cons_succ]
  refine takeYes (i := 10) (v := .bool false) (some 44) rfl rfl (by kernel_rfl) (by kernel_rfl) (by kernel_rfl) (fun _ _ _ h => h) (by kernel_rfl) (fun w hS => by go_simp) (by assumption) ?_
  simp only [Act.put, List.setIfInBounds_toArray, List.set_cons_zero, List.set_cons_succ]
  refine takeYes (i := 11) (v := .bool false) (some 45) rfl rfl (by kernel_rfl) (by kernel_rfl) (by kernel_rfl) (fun _ _ _ h => h) (by kernel_rfl) (fun w hS => by go_simp) (by assumption) ?_
  simp only [Act.put, List.setIfInBounds_toArray, List.set_cons_zero, List.set_cons_succ]
  refine takeNo (i := 12) (some 46) rfl rfl (by kernel_rfl) (by kernel_rfl) (by kernel_rfl) (fun _ _ _ h => h) (by kernel_rfl) (by assumption) ?_
  simp only [Act.put, List.setIfInBounds_toArray, List.set_cons_zero, List.set_cons_succ]
  refine takeNo (i := 13) (some 47) rfl rfl (by kernel_rfl) (by kernel_rfl) (by kernel_rfl) (fun _ _ _ h => h) (by kernel_rfl) (by assumption) ?_
  simp only [Act.put, List.setIfInBounds_toArray, List.set_cons_zero, List.set_cons_succ]
  refine takeNo (i := 14) (some 48) rfl rfl (by kernel_rfl) (by kernel_rfl) (by kernel_rfl) (fun _ _ _ h => h) (by kernel_rfl) (by assumption) ?_
  simp only [Act.put, List.setIfInBounds_toArray, List.set_cons_zero, List.set_cons_succ]
  refine takeNo (i := 15) (some 49) rfl rfl (by kernel_rfl) (by kernel_rfl) (by kernel_rfl) (fun _ _ _ h => h) (by kernel_rfl) (by assumption) ?_
  simp only [Act.put, List.setIfInBounds_toArray, List.set_cons_zero, List.set_cons_succ]
  refine takeNo (i := 16) (some 50) rfl rfl (by kernel_rfl) (by kernel_rfl) (by kernel_rfl) (fun _ _ _ h => h) (by kernel_rfl) (by assumption) ?_
  simp only [Act.put, List.setIfInBounds_toArray, List.set_cons_zero, List.set_cons_succ]
  refine takeNo (i := 17) (some 51) rfl rfl (by kernel_rfl) (by kernel_rfl) (by kernel_rfl) (fun _ _ _ h => h) (by kernel_rfl) (by assumption) ?_
  simp only [Act.put, List.setIfInBounds_toArray, List.set_cons_zero, List.set_cons_succ]
  refine takeNo (i := 18) (some 52) rfl rfl (by kernel_rfl) (by kernel_rfl) (by kernel_rfl) (fun _ _ _ h => h) (by kernel_rfl) (by assumption) ?_
  simp only [Act.put, List.setIfInBounds_toArray, List.set_cons_zero, List.set_cons_succ]
  refine takeNo (i := 19) (some 53) rfl rfl (by kernel_rfl) (by kernel_rfl) (by kernel_rfl) (fun _ _ _ h => h) (by kernel_rfl) (by assumption) ?_
  simp only [Act.put, List.setIfInBounds_toArray, List.set_cons_zero, List.set_cons_succ]
  refine takeNo (i := 20) (some 54) rfl rfl (by kernel_rfl) (by kernel_rfl) (by kernel_rfl) (fun _ _ _ h => h) (by kernel_rfl) (by assumption) ?_
  simp only [Act.put, List.setIfInBounds_toArray, List.set_cons_zero, List.set_cons_succ]
  refine takeNo (i := 21) (some 55) rfl rfl (by kernel_rfl) (by kernel_rfl) (by kernel_rfl) (fun _ _ _ h => h) (by kernel_rfl) (by assumption) ?_
  simp only [Act.put, List.setIfInBounds_toArray, List.set_cons_zero, List.set_cons_succ]
  refine takeNo (i := 22) (some 56) rfl rfl (by kernel_rfl) (by kernel_rfl) (by kernel_rfl) (fun _ _ _ h => h) (by kernel_rfl) (by assumption) ?_
  simp only [Act.put, List.setIfInBounds_toArray, List.set_cons_zero, List.set_cons_succ]
  refine takeNo (i := 23) (some 57) rfl rfl (by kernel_rfl) (by kernel_rfl) (by kernel_rfl) (fun _ _ _ h => h) (by kernel_rfl) (by assumption) ?_
  simp only [Act.put, List.setIfInBounds_toArray, List.set_cons_zero, List.set_cons_succ]
  refine takeYes (i := 24) (v := .bool false) (some 58) rfl rfl (by kernel_rfl) (by kernel_rfl) (by kernel_rfl) (fun _ _ _ h => h) (by kernel_rfl) (fun w hS => by go_simp) (by assumption) ?_
  simp only [Act.put, List.setIfInBounds_toArray, List.set_cons_zero, List.set_cons_succ]
  refine wpAnyH_done (by kernel_rfl) ?_ _
  have HB : Hid (Below w.heap.size w _) := hHeld.2.2.2.2.2.2.bel
  clear hHeld HN HH m0 s7 q5 bm0 bs0 bq0
  go_wp2
  go_ret2
  exact ⟨rfl, HB.out⟩

set_option linter.unusedSimpArgs false in
set_option maxHeartbeats 2000000 in
/-- Blocked for its patience or longer, nothing queued. -/
theorem wants_late {w : World} {bm bs bl bp bq : Nat} {idle srch g status nr sr ns ss : Int} {nxt : Option Addr} (hH : Hall w bm bs bl bp bq idle srch g status nr sr ns ss nxt)
    (hst : bits .and .u64 status 3 = 2) (hx : nxt.isSome = false) (n s D : Int) (hlt : ¬ D < 10000000)
    (hD : ∀ W, Calls Yba.prog 23 #[.agg #[.int .u64 n, .int .i64 s, .pointer none], .agg #[.int .u64 ns, .int .i64 ss, .pointer none]] W fun e w' => e = .returned (.int .i64 D) ∧ Below W.heap.size W w') :
    Calls Yba.prog 9 #[.pointer (some ⟨bm, 0, none⟩), .pointer (some ⟨bp, 0, none⟩), .pointer (some ⟨bq, 0, none⟩), .bool true, .agg #[.int .u64 n, .int .i64 s, .pointer none]] w fun e w' => e = .returned (.tuple #[.bool true, .bool (g != 0)]) ∧ Below w.heap.size w w' := by
  have hqn : (qn nxt != 0) = false := by rw [qn_ne, hx]
  have HH : Hid (Hall w bm bs bl bp bq idle srch g status nr sr ns ss nxt) := hH
  have HN : Hid (NowAt w n s (w.alloc (.cells #[.int .u64 n, .int .i64 s, .pointer none] 79))) := NowAt.start w n s
  have m0 := hH.m0
  have s7 := hH.s7
  have q5 := hH.q5
  have bm0 : bm < w.heap.size := World.block_lt_of_cell? _ _ m0
  have bs0 : bs < w.heap.size := World.block_lt_of_cell? _ _ s7
  have bq0 : bq < w.heap.size := World.block_lt_of_cell? _ _ q5
  clear hH
  have HD : Hid (∀ W, Calls Yba.prog 23 #[.agg #[.int .u64 n, .int .i64 s, .pointer none], .agg #[.int .u64 ns, .int .i64 ss, .pointer none]] W fun e w' => e = .returned (.int .i64 D) ∧ Below W.heap.size W w') := hD
  clear hD
  go_enter Yba.func9, Yba.ntmps9
  go_wp2_with (go_at_call 21; go_in)
  refine (queued_any (HH.out.below HN.out.bel (Nat.le_refl _))).mono ?_
  rintro e w1 ⟨rfl, rfl⟩
  go_wp2_with fail
  refine wp_region_held_drew (S := fun W => W.cell? ⟨w.heap.size, 0, none⟩ = some (.int .u64 n) ∧ W.cell? ⟨w.heap.size, 1, none⟩ = some (.int .i64 s) ∧ W.cell? ⟨w.heap.size, 2, none⟩ = some (.pointer none) ∧ W.cell? ⟨bq, 6, none⟩ = some (.int .u64 ns) ∧ W.cell? ⟨bq, 7, none⟩ = some (.int .i64 ss) ∧ W.cell? ⟨bq, 8, none⟩ = some (.pointer none) ∧ NowAt w n s W) (by kernel_rfl) (sS_of HH.out HN.out.drew) (fun hHeld => ?_)
  refine takeYes (i := 0) (v := .bool false) (some 34) rfl rfl (by kernel_rfl) (by kernel_rfl) (by kernel_rfl) (fun _ _ _ h => h) (by kernel_rfl) (fun w hS => by go_simp) (by assumption) ?_
  simp only [Act.put, List.setIfInBounds_toArray, List.set_cons_zero, List.set_cons_succ]
  refine takeYes (i := 1) (v := .bool true) (some 35) rfl rfl (by kernel_rfl) (by kernel_rfl) (by kernel_rfl) (fun _ _ _ h => h) (by kernel_rfl) (fun w hS => by go_simp) (by assumption) ?_
  simp only [Act.put, List.setIfInBounds_toArray, List.set_cons_zero, List.set_cons_succ]
  refine takeYes (i := 2) (v := .bool true) (some 36) rfl rfl (by kernel_rfl) (by kernel_rfl) (by kernel_rfl) (fun _ _ _ h => h) (by kernel_rfl) (fun w hS => by go_simp) (by assumption) ?_
  simp only [Act.put, List.setIfInBounds_toArray, List.set_cons_zero, List.set_cons_succ]
  refine takeYes (i := 3) (v := .agg #[.int .u64 n, .int .i64 s, .pointer none]) (some 37) rfl rfl (by kernel_rfl) (by kernel_rfl) (by kernel_rfl) (fun _ _ _ h => h) (by kernel_rfl) (fun w hS => by go_simp) (by assumption) ?_
  simp only [Act.put, List.setIfInBounds_toArray, List.set_cons_zero, List.set_cons_succ]
  refine takeYes (i := 4) (v := .pointer (some ⟨bq, 0, none⟩)) (some 38) rfl rfl (by kernel_rfl) (by kernel_rfl) (by kernel_rfl) (fun _ _ _ h => h) (by kernel_rfl) (fun w hS => by go_simp) (by assumption) ?_
  simp only [Act.put, List.setIfInBounds_toArray, List.set_cons_zero, List.set_cons_succ]
  refine takeYes (i := 5) (v := .pointer (some ⟨bq, 0, none⟩)) (some 39) rfl rfl (by kernel_rfl) (by kernel_rfl) (by kernel_rfl) (fun _ _ _ h => h) (by kernel_rfl) (fun w hS => by go_simp) (by assumption) ?_
  simp only [Act.put, List.setIfInBounds_toArray, List.set_cons_zero, List.set_cons_succ]
  refine takeYes (i := 6) (v := .pointer (some ⟨bq, 6, none⟩)) (some 40) rfl rfl (by kernel_rfl) (by kernel_rfl) (by kernel_rfl) (fun _ _ _ h => h) (by kernel_rfl) (fun w hS => by go_simp) (by assumption) ?_
  simp only [Act.put, List.setIfInBounds_toArray, List.set_cons_zero, List.set_cons_succ]
  refine takeYes (i := 7) (v := .agg #[.int .u64 ns, .int .i64 ss, .pointer none]) (some 41) rfl rfl (by kernel_rfl) (by kernel_rfl) (by kernel_rfl) (fun _ _ _ h => h) (by kernel_rfl) (fun w hS => by go_simp) (by assumption) ?_
  simp only [Act.put, List.setIfInBounds_toArray, List.set_cons_zero, List.set_cons_succ]
  refine wpAnyH_ready (rs := [8]) (by kernel_rfl) (by simp) ?_
  refine AllReadyH.cons (o := _) rfl (fun K hK => ?_) AllReadyH.nil
  go_simp
  refine (HD.out _).mono ?_
  rintro e w2 ⟨rfl, hb⟩
  have hN2 : NowAt w n s w2 := hHeld.2.2.2.2.2.2.later hb
  refine hK.out _ _ (sS_of HH.out hN2) (fun hHeld2 => ?_)
  clear hK K hHeld hb
  refine takeYes (i := 9) (v := .bool false) (some 43) rfl rfl (by kernel_rfl) (by kernel_rfl) (by kernel_rfl) (fun _ _ _ h => h) (by kernel_rfl) (fun w hS => by go_simp) (by assumption) ?_
  simp only [Act.put, List.setIfInBounds_toArray, List.set_cons_zero, List.set_cons_succ]
  refine takeYes (i := 10) (v := .bool false) (some 44) rfl rfl (by kernel_rfl) (by kernel_rfl) (by kernel_rfl) (fun _ _ _ h => h) (by kernel_rfl) (fun w hS => by go_simp) (by assumption) ?_
  simp only [Act.put, List.setIfInBounds_toArray, List.set_cons_zero, List.set_cons_succ]
  refine takeYes (i := 11) (v := .bool false) (some 45) rfl rfl (by kernel_rfl) (by kernel_rfl) (by kernel_rfl) (fun _ _ _ h => h) (by kernel_rfl) (fun w hS => by go_simp) (by assumption) ?_
  simp only [Act.put, List.setIfInBounds_toArray, List.set_cons_zero, List.set_cons_succ]
  refine takeNo (i := 12) (some 46) rfl rfl (by kernel_rfl) (by kernel_rfl) (by kernel_rfl) (fun _ _ _ h => h) (by kernel_rfl) (by assumption) ?_
  simp only [Act.put, List.setIfInBounds_toArray, List.set_cons_zero, List.set_cons_succ]
  refine takeNo (i := 13) (some 47) rfl rfl (by kernel_rfl) (by kernel_rfl) (by kernel_rfl) (fun _ _ _ h => h) (by kernel_rfl) (by assumption) ?_
  simp only [Act.put, List.setIfInBounds_toArray, List.set_cons_zero, List.set_cons_succ]
  refine takeNo (i := 14) (some 48) rfl rfl (by kernel_rfl) (by kernel_rfl) (by kernel_rfl) (fun _ _ _ h => h) (by kernel_rfl) (by assumption) ?_
  simp only [Act.put, List.setIfInBounds_toArray, List.set_cons_zero, List.set_cons_succ]
  refine takeNo (i := 15) (some 49) rfl rfl (by kernel_rfl) (by kernel_rfl) (by kernel_rfl) (fun _ _ _ h => h) (by kernel_rfl) (by assumption) ?_
  simp only [Act.put, List.setIfInBounds_toArray, List.set_cons_zero, List.set_cons_succ]
  refine takeNo (i := 16) (some 50) rfl rfl (by kernel_rfl) (by kernel_rfl) (by kernel_rfl) (fun _ _ _ h => h) (by kernel_rfl) (by assumption) ?_
  simp only [Act.put, List.setIfInBounds_toArray, List.set_cons_zero, List.set_cons_succ]
  refine takeNo (i := 17) (some 51) rfl rfl (by kernel_rfl) (by kernel_rfl) (by kernel_rfl) (fun _ _ _ h => h) (by kernel_rfl) (by assumption) ?_
  simp only [Act.put, List.setIfInBounds_toArray, List.set_cons_zero, List.set_cons_succ]
  refine takeNo (i := 18) (some 52) rfl rfl (by kernel_rfl) (by kernel_rfl) (by kernel_rfl) (fun _ _ _ h => h) (by kernel_rfl) (by assumption) ?_
  simp only [Act.put, List.setIfInBounds_toArray, List.set_cons_zero, List.set_cons_succ]
  refine takeNo (i := 19) (some 53) rfl rfl (by kernel_rfl) (by kernel_rfl) (by kernel_rfl) (fun _ _ _ h => h) (by kernel_rfl) (by assumption) ?_
  simp only [Act.put, List.setIfInBounds_toArray, List.set_cons_zero, List.set_cons_succ]
  refine takeNo (i := 20) (some 54) rfl rfl (by kernel_rfl) (by kernel_rfl) (by kernel_rfl) (fun _ _ _ h => h) (by kernel_rfl) (by assumption) ?_
  simp only [Act.put, List.setIfInBounds_toArray, List.set_cons_zero, List.set_cons_succ]
  refine takeNo (i := 21) (some 55) rfl rfl (by kernel_rfl) (by kernel_rfl) (by kernel_rfl) (fun _ _ _ h => h) (by kernel_rfl) (by assumption) ?_
  simp only [Act.put, List.setIfInBounds_toArray, List.set_cons_zero, List.set_cons_succ]
  refine takeNo (i := 22) (some 56) rfl rfl (by kernel_rfl) (by kernel_rfl) (by kernel_rfl) (fun _ _ _ h => h) (by kernel_rfl) (by assumption) ?_
  simp only [Act.put, List.setIfInBounds_toArray, List.set_cons_zero, List.set_cons_succ]
  refine takeNo (i := 23) (some 57) rfl rfl (by kernel_rfl) (by kernel_rfl) (by kernel_rfl) (fun _ _ _ h => h) (by kernel_rfl) (by assumption) ?_
  simp only [Act.put, List.setIfInBounds_toArray, List.set_cons_zero, List.set_cons_succ]
  refine takeYes (i := 24) (v := .bool false) (some 58) rfl rfl (by kernel_rfl) (by kernel_rfl) (by kernel_rfl) (fun _ _ _ h => h) (by kernel_rfl) (fun w hS => by go_simp) (by assumption) ?_
  simp only [Act.put, List.setIfInBounds_toArray, List.set_cons_zero, List.set_cons_succ]
  refine wpAnyH_done (by kernel_rfl) ?_ _
  have HN2 : Hid (NowAt w n s w2) := hN2
  have HH2 : Hid (Hall w2 bm bs bl bp bq idle srch g status nr sr ns ss nxt) := HH.out.below hN2.bel (Nat.le_refl _)
  clear hHeld2 hN2 HN HD m0 s7 q5 bm0 bs0 bq0 HH
  have m0 := HH2.out.m0
  go_wp2_with fail
  refine (globalQueued_any bs g _ HH2.out.s1 HH2.out.s5 HH2.out.f1).mono ?_
  rintro e w4 ⟨rfl, hb4⟩
  have HB4 : Hid (Below w.heap.size w w4) := (HN2.out.later hb4).bel
  clear hb4 HN2 HH2 m0
  go_wp2
  go_ret2
  exact ⟨rfl, HB4.out⟩

set_option linter.unusedSimpArgs false in
set_option maxHeartbeats 2000000 in
/-- Blocked for less than its patience, nothing queued, somebody searches. -/
theorem wants_searching {w : World} {bm bs bl bp bq : Nat} {idle srch g status nr sr ns ss : Int} {nxt : Option Addr} (hH : Hall w bm bs bl bp bq idle srch g status nr sr ns ss nxt)
    (hst : bits .and .u64 status 3 = 2) (hx : nxt.isSome = false) (n s D : Int) (hlt : D < 10000000) (hs : (srch != 0) = true)
    (hD : ∀ W, Calls Yba.prog 23 #[.agg #[.int .u64 n, .int .i64 s, .pointer none], .agg #[.int .u64 ns, .int .i64 ss, .pointer none]] W fun e w' => e = .returned (.int .i64 D) ∧ Below W.heap.size W w') :
    Calls Yba.prog 9 #[.pointer (some ⟨bm, 0, none⟩), .pointer (some ⟨bp, 0, none⟩), .pointer (some ⟨bq, 0, none⟩), .bool true, .agg #[.int .u64 n, .int .i64 s, .pointer none]] w fun e w' => e = .returned (.tuple #[.bool false, .bool false]) ∧ Below w.heap.size w w' := by
  have hqn : (qn nxt != 0) = false := by rw [qn_ne, hx]
  have HH : Hid (Hall w bm bs bl bp bq idle srch g status nr sr ns ss nxt) := hH
  have HN : Hid (NowAt w n s (w.alloc (.cells #[.int .u64 n, .int .i64 s, .pointer none] 79))) := NowAt.start w n s
  have m0 := hH.m0
  have s7 := hH.s7
  have q5 := hH.q5
  have bm0 : bm < w.heap.size := World.block_lt_of_cell? _ _ m0
  have bs0 : bs < w.heap.size := World.block_lt_of_cell? _ _ s7
  have bq0 : bq < w.heap.size := World.block_lt_of_cell? _ _ q5
  clear hH
  have HD : Hid (∀ W, Calls Yba.prog 23 #[.agg #[.int .u64 n, .int .i64 s, .pointer none], .agg #[.int .u64 ns, .int .i64 ss, .pointer none]] W fun e w' => e = .returned (.int .i64 D) ∧ Below W.heap.size W w') := hD
  clear hD
  go_enter Yba.func9, Yba.ntmps9
  go_wp2_with (go_at_call 21; go_in)
  refine (queued_any (HH.out.below HN.out.bel (Nat.le_refl _))).mono ?_
  rintro e w1 ⟨rfl, rfl⟩
  go_wp2_with fail
  refine wp_region_held_drew (S := fun W => W.cell? ⟨w.heap.size, 0, none⟩ = some (.int .u64 n) ∧ W.cell? ⟨w.heap.size, 1, none⟩ = some (.int .i64 s) ∧ W.cell? ⟨w.heap.size, 2, none⟩ = some (.pointer none) ∧ W.cell? ⟨bq, 6, none⟩ = some (.int .u64 ns) ∧ W.cell? ⟨bq, 7, none⟩ = some (.int .i64 ss) ∧ W.cell? ⟨bq, 8, none⟩ = some (.pointer none) ∧ NowAt w n s W) (by kernel_rfl) (sS_of HH.out HN.out.drew) (fun hHeld => ?_)
  refine takeYes (i := 0) (v := .bool false) (some 34) rfl rfl (by kernel_rfl) (by kernel_rfl) (by kernel_rfl) (fun _ _ _ h => h) (by kernel_rfl) (fun w hS => by go_simp) (by assumption) ?_
  simp only [Act.put, List.setIfInBounds_toArray, List.set_cons_zero, List.set_cons_succ]
  refine takeYes (i := 1) (v := .bool true) (some 35) rfl rfl (by kernel_rfl) (by kernel_rfl) (by kernel_rfl) (fun _ _ _ h => h) (by kernel_rfl) (fun w hS => by go_simp) (by assumption) ?_
  simp only [Act.put, List.setIfInBounds_toArray, List.set_cons_zero, List.set_cons_succ]
  refine takeYes (i := 2) (v := .bool true) (some 36) rfl rfl (by kernel_rfl) (by kernel_rfl) (by kernel_rfl) (fun _ _ _ h => h) (by kernel_rfl) (fun w hS => by go_simp) (by assumption) ?_
  simp only [Act.put, List.setIfInBounds_toArray, List.set_cons_zero, List.set_cons_succ]
  refine takeYes (i := 3) (v := .agg #[.int .u64 n, .int .i64 s, .pointer none]) (some 37) rfl rfl (by kernel_rfl) (by kernel_rfl) (by kernel_rfl) (fun _ _ _ h => h) (by kernel_rfl) (fun w hS => by go_simp) (by assumption) ?_
  simp only [Act.put, List.setIfInBounds_toArray, List.set_cons_zero, List.set_cons_succ]
  refine takeYes (i := 4) (v := .pointer (some ⟨bq, 0, none⟩)) (some 38) rfl rfl (by kernel_rfl) (by kernel_rfl) (by kernel_rfl) (fun _ _ _ h => h) (by kernel_rfl) (fun w hS => by go_simp) (by assumption) ?_
  simp only [Act.put, List.setIfInBounds_toArray, List.set_cons_zero, List.set_cons_succ]
  refine takeYes (i := 5) (v := .pointer (some ⟨bq, 0, none⟩)) (some 39) rfl rfl (by kernel_rfl) (by kernel_rfl) (by kernel_rfl) (fun _ _ _ h => h) (by kernel_rfl) (fun w hS => by go_simp) (by assumption) ?_
  simp only [Act.put, List.setIfInBounds_toArray, List.set_cons_zero, List.set_cons_succ]
  refine takeYes (i := 6) (v := .pointer (some ⟨bq, 6, none⟩)) (some 40) rfl rfl (by kernel_rfl) (by kernel_rfl) (by kernel_rfl) (fun _ _ _ h => h) (by kernel_rfl) (fun w hS => by go_simp) (by assumption) ?_
  simp only [Act.put, List.setIfInBounds_toArray, List.set_cons_zero, List.set_cons_succ]
  refine takeYes (i := 7) (v := .agg #[.int .u64 ns, .int .i64 ss, .pointer none]) (some 41) rfl rfl (by kernel_rfl) (by kernel_rfl) (by kernel_rfl) (fun _ _ _ h => h) (by kernel_rfl) (fun w hS => by go_simp) (by assumption) ?_
  simp only [Act.put, List.setIfInBounds_toArray, List.set_cons_zero, List.set_cons_succ]
  refine wpAnyH_ready (rs := [8]) (by kernel_rfl) (by simp) ?_
  refine AllReadyH.cons (o := _) rfl (fun K hK => ?_) AllReadyH.nil
  go_simp
  refine (HD.out _).mono ?_
  rintro e w2 ⟨rfl, hb⟩
  have hN2 : NowAt w n s w2 := hHeld.2.2.2.2.2.2.later hb
  refine hK.out _ _ (sS_of HH.out hN2) (fun hHeld2 => ?_)
  clear hK K hHeld hb
  refine takeYes (i := 9) (v := .bool true) (some 43) rfl rfl (by kernel_rfl) (by kernel_rfl) (by kernel_rfl) (fun _ _ _ h => h) (by kernel_rfl) (fun w hS => by go_simp) (by assumption) ?_
  simp only [Act.put, List.setIfInBounds_toArray, List.set_cons_zero, List.set_cons_succ]
  refine takeYes (i := 10) (v := .bool true) (some 44) rfl rfl (by kernel_rfl) (by kernel_rfl) (by kernel_rfl) (fun _ _ _ h => h) (by kernel_rfl) (fun w hS => by go_simp) (by assumption) ?_
  simp only [Act.put, List.setIfInBounds_toArray, List.set_cons_zero, List.set_cons_succ]
  refine takeYes (i := 11) (v := .bool true) (some 45) rfl rfl (by kernel_rfl) (by kernel_rfl) (by kernel_rfl) (fun _ _ _ h => h) (by kernel_rfl) (fun w hS => by go_simp) (by assumption) ?_
  simp only [Act.put, List.setIfInBounds_toArray, List.set_cons_zero, List.set_cons_succ]
  refine takeYes (i := 12) (v := .pointer (some ⟨bl, 0, none⟩)) (some 46) rfl rfl (by kernel_rfl) (by kernel_rfl) (by kernel_rfl) (fun _ _ _ h => h) (by kernel_rfl) (fun w hS => by go_simp) (by assumption) ?_
  simp only [Act.put, List.setIfInBounds_toArray, List.set_cons_zero, List.set_cons_succ]
  refine takeYes (i := 13) (v := .pointer (some ⟨bl, 0, none⟩)) (some 47) rfl rfl (by kernel_rfl) (by kernel_rfl) (by kernel_rfl) (fun _ _ _ h => h) (by kernel_rfl) (fun w hS => by go_simp) (by assumption) ?_
  simp only [Act.put, List.setIfInBounds_toArray, List.set_cons_zero, List.set_cons_succ]
  refine takeYes (i := 14) (v := .pointer (some ⟨bl, 13, none⟩)) (some 48) rfl rfl (by kernel_rfl) (by kernel_rfl) (by kernel_rfl) (fun _ _ _ h => h) (by kernel_rfl) (fun w hS => by go_simp) (by assumption) ?_
  simp only [Act.put, List.setIfInBounds_toArray, List.set_cons_zero, List.set_cons_succ]
  refine wpAnyH_ready (rs := [15]) (by kernel_rfl) (by simp) ?_
  refine AllReadyH.cons (o := _) rfl (fun K hK => ?_) AllReadyH.nil
  go_simp
  refine (loadI32 bl 13 srch _ (HH.out.below hN2.bel (Nat.le_refl _)).l13).mono ?_
  rintro e w3 ⟨rfl, rfl⟩
  refine hK.out _ _ hHeld2 (fun hHeld3 => ?_)
  clear hK K hHeld2
  have hHeld2 := hHeld3
  clear hHeld3
  refine takeYes (i := 16) (v := .bool true) (some 50) rfl rfl (by kernel_rfl) (by kernel_rfl) (by kernel_rfl) (fun _ _ _ h => h) (by kernel_rfl) (fun w hS => by go_simp) (by assumption) ?_
  simp only [Act.put, List.setIfInBounds_toArray, List.set_cons_zero, List.set_cons_succ]
  refine takeYes (i := 17) (v := .bool true) (some 51) rfl rfl (by kernel_rfl) (by kernel_rfl) (by kernel_rfl) (fun _ _ _ h => h) (by kernel_rfl) (fun w hS => by go_simp) (by assumption) ?_
  simp only [Act.put, List.setIfInBounds_toArray, List.set_cons_zero, List.set_cons_succ]
  refine takeNo (i := 18) (some 52) rfl rfl (by kernel_rfl) (by kernel_rfl) (by kernel_rfl) (fun _ _ _ h => h) (by kernel_rfl) (by assumption) ?_
  simp only [Act.put, List.setIfInBounds_toArray, List.set_cons_zero, List.set_cons_succ]
  refine takeNo (i := 19) (some 53) rfl rfl (by kernel_rfl) (by kernel_rfl) (by kernel_rfl) (fun _ _ _ h => h) (by kernel_rfl) (by assumption) ?_
  simp only [Act.put, List.setIfInBounds_toArray, List.set_cons_zero, List.set_cons_succ]
  refine takeNo (i := 20) (some 54) rfl rfl (by kernel_rfl) (by kernel_rfl) (by kernel_rfl) (fun _ _ _ h => h) (by kernel_rfl) (by assumption) ?_
  simp only [Act.put, List.setIfInBounds_toArray, List.set_cons_zero, List.set_cons_succ]
  refine takeNo (i := 21) (some 55) rfl rfl (by kernel_rfl) (by kernel_rfl) (by kernel_rfl) (fun _ _ _ h => h) (by kernel_rfl) (by assumption) ?_
  simp only [Act.put, List.setIfInBounds_toArray, List.set_cons_zero, List.set_cons_succ]
  refine takeNo (i := 22) (some 56) rfl rfl (by kernel_rfl) (by kernel_rfl) (by kernel_rfl) (fun _ _ _ h => h) (by kernel_rfl) (by assumption) ?_
  simp only [Act.put, List.setIfInBounds_toArray, List.set_cons_zero, List.set_cons_succ]
  refine takeYes (i := 23) (v := .bool true) (some 57) rfl rfl (by kernel_rfl) (by kernel_rfl) (by kernel_rfl) (fun _ _ _ h => h) (by kernel_rfl) (fun w hS => by go_simp) (by assumption) ?_
  simp only [Act.put, List.setIfInBounds_toArray, List.set_cons_zero, List.set_cons_succ]
  refine takeYes (i := 24) (v := .bool true) (some 58) rfl rfl (by kernel_rfl) (by kernel_rfl) (by kernel_rfl) (fun _ _ _ h => h) (by kernel_rfl) (fun w hS => by go_simp) (by assumption) ?_
  simp only [Act.put, List.setIfInBounds_toArray, List.set_cons_zero, List.set_cons_succ]
  refine wpAnyH_done (by kernel_rfl) ?_ _
  have HN2 : Hid (NowAt w n s w3) := hN2
  have HH2 : Hid (Hall w3 bm bs bl bp bq idle srch g status nr sr ns ss nxt) := HH.out.below hN2.bel (Nat.le_refl _)
  clear hHeld2 hN2 HN HD m0 s7 q5 bm0 bs0 bq0 HH
  go_wp2
  go_ret2
  exact ⟨rfl, HN2.out.bel⟩

set_option linter.unusedSimpArgs false in
set_option maxHeartbeats 2000000 in
/-- Blocked for less than its patience, nothing queued, nobody searches, a processor is idle. -/
theorem wants_idle {w : World} {bm bs bl bp bq : Nat} {idle srch g status nr sr ns ss : Int} {nxt : Option Addr} (hH : Hall w bm bs bl bp bq idle srch g status nr sr ns ss nxt)
    (hst : bits .and .u64 status 3 = 2) (hx : nxt.isSome = false) (n s D : Int) (hlt : D < 10000000) (hs : (srch != 0) = false) (hi : (idle != 0) = true)
    (hD : ∀ W, Calls Yba.prog 23 #[.agg #[.int .u64 n, .int .i64 s, .pointer none], .agg #[.int .u64 ns, .int .i64 ss, .pointer none]] W fun e w' => e = .returned (.int .i64 D) ∧ Below W.heap.size W w') :
    Calls Yba.prog 9 #[.pointer (some ⟨bm, 0, none⟩), .pointer (some ⟨bp, 0, none⟩), .pointer (some ⟨bq, 0, none⟩), .bool true, .agg #[.int .u64 n, .int .i64 s, .pointer none]] w fun e w' => e = .returned (.tuple #[.bool false, .bool false]) ∧ Below w.heap.size w w' := by
  have hqn : (qn nxt != 0) = false := by rw [qn_ne, hx]
  have HH : Hid (Hall w bm bs bl bp bq idle srch g status nr sr ns ss nxt) := hH
  have HN : Hid (NowAt w n s (w.alloc (.cells #[.int .u64 n, .int .i64 s, .pointer none] 79))) := NowAt.start w n s
  have m0 := hH.m0
  have s7 := hH.s7
  have q5 := hH.q5
  have bm0 : bm < w.heap.size := World.block_lt_of_cell? _ _ m0
  have bs0 : bs < w.heap.size := World.block_lt_of_cell? _ _ s7
  have bq0 : bq < w.heap.size := World.block_lt_of_cell? _ _ q5
  clear hH
  have HD : Hid (∀ W, Calls Yba.prog 23 #[.agg #[.int .u64 n, .int .i64 s, .pointer none], .agg #[.int .u64 ns, .int .i64 ss, .pointer none]] W fun e w' => e = .returned (.int .i64 D) ∧ Below W.heap.size W w') := hD
  clear hD
  go_enter Yba.func9, Yba.ntmps9
  go_wp2_with (go_at_call 21; go_in)
  refine (queued_any (HH.out.below HN.out.bel (Nat.le_refl _))).mono ?_
  rintro e w1 ⟨rfl, rfl⟩
  go_wp2_with fail
  refine wp_region_held_drew (S := fun W => W.cell? ⟨w.heap.size, 0, none⟩ = some (.int .u64 n) ∧ W.cell? ⟨w.heap.size, 1, none⟩ = some (.int .i64 s) ∧ W.cell? ⟨w.heap.size, 2, none⟩ = some (.pointer none) ∧ W.cell? ⟨bq, 6, none⟩ = some (.int .u64 ns) ∧ W.cell? ⟨bq, 7, none⟩ = some (.int .i64 ss) ∧ W.cell? ⟨bq, 8, none⟩ = some (.pointer none) ∧ NowAt w n s W) (by kernel_rfl) (sS_of HH.out HN.out.drew) (fun hHeld => ?_)
  refine takeYes (i := 0) (v := .bool false) (some 34) rfl rfl (by kernel_rfl) (by kernel_rfl) (by kernel_rfl) (fun _ _ _ h => h) (by kernel_rfl) (fun w hS => by go_simp) (by assumption) ?_
  simp only [Act.put, List.setIfInBounds_toArray, List.set_cons_zero, List.set_cons_succ]
  refine takeYes (i := 1) (v := .bool true) (some 35) rfl rfl (by kernel_rfl) (by kernel_rfl) (by kernel_rfl) (fun _ _ _ h => h) (by kernel_rfl) (fun w hS => by go_simp) (by assumption) ?_
  simp only [Act.put, List.setIfInBounds_toArray, List.set_cons_zero, List.set_cons_succ]
  refine takeYes (i := 2) (v := .bool true) (some 36) rfl rfl (by kernel_rfl) (by kernel_rfl) (by kernel_rfl) (fun _ _ _ h => h) (by kernel_rfl) (fun w hS => by go_simp) (by assumption) ?_
  simp only [Act.put, List.setIfInBounds_toArray, List.set_cons_zero, List.set_cons_succ]
  refine takeYes (i := 3) (v := .agg #[.int .u64 n, .int .i64 s, .pointer none]) (some 37) rfl rfl (by kernel_rfl) (by kernel_rfl) (by kernel_rfl) (fun _ _ _ h => h) (by kernel_rfl) (fun w hS => by go_simp) (by assumption) ?_
  simp only [Act.put, List.setIfInBounds_toArray, List.set_cons_zero, List.set_cons_succ]
  refine takeYes (i := 4) (v := .pointer (some ⟨bq, 0, none⟩)) (some 38) rfl rfl (by kernel_rfl) (by kernel_rfl) (by kernel_rfl) (fun _ _ _ h => h) (by kernel_rfl) (fun w hS => by go_simp) (by assumption) ?_
  simp only [Act.put, List.setIfInBounds_toArray, List.set_cons_zero, List.set_cons_succ]
  refine takeYes (i := 5) (v := .pointer (some ⟨bq, 0, none⟩)) (some 39) rfl rfl (by kernel_rfl) (by kernel_rfl) (by kernel_rfl) (fun _ _ _ h => h) (by kernel_rfl) (fun w hS => by go_simp) (by assumption) ?_
  simp only [Act.put, List.setIfInBounds_toArray, List.set_cons_zero, List.set_cons_succ]
  refine takeYes (i := 6) (v := .pointer (some ⟨bq, 6, none⟩)) (some 40) rfl rfl (by kernel_rfl) (by kernel_rfl) (by kernel_rfl) (fun _ _ _ h => h) (by kernel_rfl) (fun w hS => by go_simp) (by assumption) ?_
  simp only [Act.put, List.setIfInBounds_toArray, List.set_cons_zero, List.set_cons_succ]
  refine takeYes (i := 7) (v := .agg #[.int .u64 ns, .int .i64 ss, .pointer none]) (some 41) rfl rfl (by kernel_rfl) (by kernel_rfl) (by kernel_rfl) (fun _ _ _ h => h) (by kernel_rfl) (fun w hS => by go_simp) (by assumption) ?_
  simp only [Act.put, List.setIfInBounds_toArray, List.set_cons_zero, List.set_cons_succ]
  refine wpAnyH_ready (rs := [8]) (by kernel_rfl) (by simp) ?_
  refine AllReadyH.cons (o := _) rfl (fun K hK => ?_) AllReadyH.nil
  go_simp
  refine (HD.out _).mono ?_
  rintro e w2 ⟨rfl, hb⟩
  have hN2 : NowAt w n s w2 := hHeld.2.2.2.2.2.2.later hb
  refine hK.out _ _ (sS_of HH.out hN2) (fun hHeld2 => ?_)
  clear hK K hHeld hb
  refine takeYes (i := 9) (v := .bool true) (some 43) rfl rfl (by kernel_rfl) (by kernel_rfl) (by kernel_rfl) (fun _ _ _ h => h) (by kernel_rfl) (fun w hS => by go_simp) (by assumption) ?_
  simp only [Act.put, List.setIfInBounds_toArray, List.set_cons_zero, List.set_cons_succ]
  refine takeYes (i := 10) (v := .bool true) (some 44) rfl rfl (by kernel_rfl) (by kernel_rfl) (by kernel_rfl) (fun _ _ _ h => h) (by kernel_rfl) (fun w hS => by go_simp) (by assumption) ?_
  simp only [Act.put, List.setIfInBounds_toArray, List.set_cons_zero, List.set_cons_succ]
  refine takeYes (i := 11) (v := .bool true) (some 45) rfl rfl (by kernel_rfl) (by kernel_rfl) (by kernel_rfl) (fun _ _ _ h => h) (by kernel_rfl) (fun w hS => by go_simp) (by assumption) ?_
  simp only [Act.put, List.setIfInBounds_toArray, List.set_cons_zero, List.set_cons_succ]
  refine takeYes (i := 12) (v := .pointer (some ⟨bl, 0, none⟩)) (some 46) rfl rfl (by kernel_rfl) (by kernel_rfl) (by kernel_rfl) (fun _ _ _ h => h) (by kernel_rfl) (fun w hS => by go_simp) (by assumption) ?_
  simp only [Act.put, List.setIfInBounds_toArray, List.set_cons_zero, List.set_cons_succ]
  refine takeYes (i := 13) (v := .pointer (some ⟨bl, 0, none⟩)) (some 47) rfl rfl (by kernel_rfl) (by kernel_rfl) (by kernel_rfl) (fun _ _ _ h => h) (by kernel_rfl) (fun w hS => by go_simp) (by assumption) ?_
  simp only [Act.put, List.setIfInBounds_toArray, List.set_cons_zero, List.set_cons_succ]
  refine takeYes (i := 14) (v := .pointer (some ⟨bl, 13, none⟩)) (some 48) rfl rfl (by kernel_rfl) (by kernel_rfl) (by kernel_rfl) (fun _ _ _ h => h) (by kernel_rfl) (fun w hS => by go_simp) (by assumption) ?_
  simp only [Act.put, List.setIfInBounds_toArray, List.set_cons_zero, List.set_cons_succ]
  refine wpAnyH_ready (rs := [15]) (by kernel_rfl) (by simp) ?_
  refine AllReadyH.cons (o := _) rfl (fun K hK => ?_) AllReadyH.nil
  go_simp
  refine (loadI32 bl 13 srch _ (HH.out.below hN2.bel (Nat.le_refl _)).l13).mono ?_
  rintro e w3 ⟨rfl, rfl⟩
  refine hK.out _ _ hHeld2 (fun hHeld3 => ?_)
  clear hK K hHeld2
  have hHeld2 := hHeld3
  clear hHeld3
  refine takeYes (i := 16) (v := .bool false) (some 50) rfl rfl (by kernel_rfl) (by kernel_rfl) (by kernel_rfl) (fun _ _ _ h => h) (by kernel_rfl) (fun w hS => by go_simp) (by assumption) ?_
  simp only [Act.put, List.setIfInBounds_toArray, List.set_cons_zero, List.set_cons_succ]
  refine takeYes (i := 17) (v := .bool false) (some 51) rfl rfl (by kernel_rfl) (by kernel_rfl) (by kernel_rfl) (fun _ _ _ h => h) (by kernel_rfl) (fun w hS => by go_simp) (by assumption) ?_
  simp only [Act.put, List.setIfInBounds_toArray, List.set_cons_zero, List.set_cons_succ]
  refine takeYes (i := 18) (v := .pointer (some ⟨bl, 0, none⟩)) (some 52) rfl rfl (by kernel_rfl) (by kernel_rfl) (by kernel_rfl) (fun _ _ _ h => h) (by kernel_rfl) (fun w hS => by go_simp) (by assumption) ?_
  simp only [Act.put, List.setIfInBounds_toArray, List.set_cons_zero, List.set_cons_succ]
  refine takeYes (i := 19) (v := .pointer (some ⟨bl, 0, none⟩)) (some 53) rfl rfl (by kernel_rfl) (by kernel_rfl) (by kernel_rfl) (fun _ _ _ h => h) (by kernel_rfl) (fun w hS => by go_simp) (by assumption) ?_
  simp only [Act.put, List.setIfInBounds_toArray, List.set_cons_zero, List.set_cons_succ]
  refine takeYes (i := 20) (v := .pointer (some ⟨bl, 11, none⟩)) (some 54) rfl rfl (by kernel_rfl) (by kernel_rfl) (by kernel_rfl) (fun _ _ _ h => h) (by kernel_rfl) (fun w hS => by go_simp) (by assumption) ?_
  simp only [Act.put, List.setIfInBounds_toArray, List.set_cons_zero, List.set_cons_succ]
  refine wpAnyH_ready (rs := [21]) (by kernel_rfl) (by simp) ?_
  refine AllReadyH.cons (o := _) rfl (fun K hK => ?_) AllReadyH.nil
  go_simp
  refine (loadI32 bl 11 idle _ (HH.out.below hN2.bel (Nat.le_refl _)).l11).mono ?_
  rintro e w3 ⟨rfl, rfl⟩
  refine hK.out _ _ hHeld2 (fun hHeld3 => ?_)
  clear hK K hHeld2
  have hHeld2 := hHeld3
  clear hHeld3
  refine takeYes (i := 22) (v := .bool true) (some 56) rfl rfl (by kernel_rfl) (by kernel_rfl) (by kernel_rfl) (fun _ _ _ h => h) (by kernel_rfl) (fun w hS => by go_simp) (by assumption) ?_
  simp only [Act.put, List.setIfInBounds_toArray, List.set_cons_zero, List.set_cons_succ]
  refine takeYes (i := 23) (v := .bool true) (some 57) rfl rfl (by kernel_rfl) (by kernel_rfl) (by kernel_rfl) (fun _ _ _ h => h) (by kernel_rfl) (fun w hS => by go_simp) (by assumption) ?_
  simp only [Act.put, List.setIfInBounds_toArray, List.set_cons_zero, List.set_cons_succ]
  refine takeYes (i := 24) (v := .bool true) (some 58) rfl rfl (by kernel_rfl) (by kernel_rfl) (by kernel_rfl) (fun _ _ _ h => h) (by kernel_rfl) (fun w hS => by go_simp) (by assumption) ?_
  simp only [Act.put, List.setIfInBounds_toArray, List.set_cons_zero, List.set_cons_succ]
  refine wpAnyH_done (by kernel_rfl) ?_ _
  have HN2 : Hid (NowAt w n s w3) := hN2
  have HH2 : Hid (Hall w3 bm bs bl bp bq idle srch g status nr sr ns ss nxt) := HH.out.below hN2.bel (Nat.le_refl _)
  clear hHeld2 hN2 HN HD m0 s7 q5 bm0 bs0 bq0 HH
  go_wp2
  go_ret2
  exact ⟨rfl, HN2.out.bel⟩

set_option linter.unusedSimpArgs false in
set_option maxHeartbeats 2000000 in
/-- Blocked for less than its patience, nothing queued, nobody searches, no processor is idle. -/
theorem wants_lone {w : World} {bm bs bl bp bq : Nat} {idle srch g status nr sr ns ss : Int} {nxt : Option Addr} (hH : Hall w bm bs bl bp bq idle srch g status nr sr ns ss nxt)
    (hst : bits .and .u64 status 3 = 2) (hx : nxt.isSome = false) (n s D : Int) (hlt : D < 10000000) (hs : (srch != 0) = false) (hi : (idle != 0) = false)
    (hD : ∀ W, Calls Yba.prog 23 #[.agg #[.int .u64 n, .int .i64 s, .pointer none], .agg #[.int .u64 ns, .int .i64 ss, .pointer none]] W fun e w' => e = .returned (.int .i64 D) ∧ Below W.heap.size W w') :
    Calls Yba.prog 9 #[.pointer (some ⟨bm, 0, none⟩), .pointer (some ⟨bp, 0, none⟩), .pointer (some ⟨bq, 0, none⟩), .bool true, .agg #[.int .u64 n, .int .i64 s, .pointer none]] w fun e w' => e = .returned (.tuple #[.bool true, .bool (g != 0)]) ∧ Below w.heap.size w w' := by
  have hqn : (qn nxt != 0) = false := by rw [qn_ne, hx]
  have HH : Hid (Hall w bm bs bl bp bq idle srch g status nr sr ns ss nxt) := hH
  have HN : Hid (NowAt w n s (w.alloc (.cells #[.int .u64 n, .int .i64 s, .pointer none] 79))) := NowAt.start w n s
  have m0 := hH.m0
  have s7 := hH.s7
  have q5 := hH.q5
  have bm0 : bm < w.heap.size := World.block_lt_of_cell? _ _ m0
  have bs0 : bs < w.heap.size := World.block_lt_of_cell? _ _ s7
  have bq0 : bq < w.heap.size := World.block_lt_of_cell? _ _ q5
  clear hH
  have HD : Hid (∀ W, Calls Yba.prog 23 #[.agg #[.int .u64 n, .int .i64 s, .pointer none], .agg #[.int .u64 ns, .int .i64 ss, .pointer none]] W fun e w' => e = .returned (.int .i64 D) ∧ Below W.heap.size W w') := hD
  clear hD
  go_enter Yba.func9, Yba.ntmps9
  go_wp2_with (go_at_call 21; go_in)
  refine (queued_any (HH.out.below HN.out.bel (Nat.le_refl _))).mono ?_
  rintro e w1 ⟨rfl, rfl⟩
  go_wp2_with fail
  refine wp_region_held_drew (S := fun W => W.cell? ⟨w.heap.size, 0, none⟩ = some (.int .u64 n) ∧ W.cell? ⟨w.heap.size, 1, none⟩ = some (.int .i64 s) ∧ W.cell? ⟨w.heap.size, 2, none⟩ = some (.pointer none) ∧ W.cell? ⟨bq, 6, none⟩ = some (.int .u64 ns) ∧ W.cell? ⟨bq, 7, none⟩ = some (.int .i64 ss) ∧ W.cell? ⟨bq, 8, none⟩ = some (.pointer none) ∧ NowAt w n s W) (by kernel_rfl) (sS_of HH.out HN.out.drew) (fun hHeld => ?_)
  refine takeYes (i := 0) (v := .bool false) (some 34) rfl rfl (by kernel_rfl) (by kernel_rfl) (by kernel_rfl) (fun _ _ _ h => h) (by kernel_rfl) (fun w hS => by go_simp) (by assumption) ?_
  simp only [Act.put, List.setIfInBounds_toArray, List.set_cons_zero, List.set_cons_succ]
  refine takeYes (i := 1) (v := .bool true) (some 35) rfl rfl (by kernel_rfl) (by kernel_rfl) (by kernel_rfl) (fun _ _ _ h => h) (by kernel_rfl) (fun w hS => by go_simp) (by assumption) ?_
  simp only [Act.put, List.setIfInBounds_toArray, List.set_cons_zero, List.set_cons_succ]
  refine takeYes (i := 2) (v := .bool true) (some 36) rfl rfl (by kernel_rfl) (by kernel_rfl) (by kernel_rfl) (fun _ _ _ h => h) (by kernel_rfl) (fun w hS => by go_simp) (by assumption) ?_
  simp only [Act.put, List.setIfInBounds_toArray, List.set_cons_zero, List.set_cons_succ]
  refine takeYes (i := 3) (v := .agg #[.int .u64 n, .int .i64 s, .pointer none]) (some 37) rfl rfl (by kernel_rfl) (by kernel_rfl) (by kernel_rfl) (fun _ _ _ h => h) (by kernel_rfl) (fun w hS => by go_simp) (by assumption) ?_
  simp only [Act.put, List.setIfInBounds_toArray, List.set_cons_zero, List.set_cons_succ]
  refine takeYes (i := 4) (v := .pointer (some ⟨bq, 0, none⟩)) (some 38) rfl rfl (by kernel_rfl) (by kernel_rfl) (by kernel_rfl) (fun _ _ _ h => h) (by kernel_rfl) (fun w hS => by go_simp) (by assumption) ?_
  simp only [Act.put, List.setIfInBounds_toArray, List.set_cons_zero, List.set_cons_succ]
  refine takeYes (i := 5) (v := .pointer (some ⟨bq, 0, none⟩)) (some 39) rfl rfl (by kernel_rfl) (by kernel_rfl) (by kernel_rfl) (fun _ _ _ h => h) (by kernel_rfl) (fun w hS => by go_simp) (by assumption) ?_
  simp only [Act.put, List.setIfInBounds_toArray, List.set_cons_zero, List.set_cons_succ]
  refine takeYes (i := 6) (v := .pointer (some ⟨bq, 6, none⟩)) (some 40) rfl rfl (by kernel_rfl) (by kernel_rfl) (by kernel_rfl) (fun _ _ _ h => h) (by kernel_rfl) (fun w hS => by go_simp) (by assumption) ?_
  simp only [Act.put, List.setIfInBounds_toArray, List.set_cons_zero, List.set_cons_succ]
  refine takeYes (i := 7) (v := .agg #[.int .u64 ns, .int .i64 ss, .pointer none]) (some 41) rfl rfl (by kernel_rfl) (by kernel_rfl) (by kernel_rfl) (fun _ _ _ h => h) (by kernel_rfl) (fun w hS => by go_simp) (by assumption) ?_
  simp only [Act.put, List.setIfInBounds_toArray, List.set_cons_zero, List.set_cons_succ]
  refine wpAnyH_ready (rs := [8]) (by kernel_rfl) (by simp) ?_
  refine AllReadyH.cons (o := _) rfl (fun K hK => ?_) AllReadyH.nil
  go_simp
  refine (HD.out _).mono ?_
  rintro e w2 ⟨rfl, hb⟩
  have hN2 : NowAt w n s w2 := hHeld.2.2.2.2.2.2.later hb
  refine hK.out _ _ (sS_of HH.out hN2) (fun hHeld2 => ?_)
  clear hK K hHeld hb
  refine takeYes (i := 9) (v := .bool true) (some 43) rfl rfl (by kernel_rfl) (by kernel_rfl) (by kernel_rfl) (fun _ _ _ h => h) (by kernel_rfl) (fun w hS => by go_simp) (by assumption) ?_
  simp only [Act.put, List.setIfInBounds_toArray, List.set_cons_zero, List.set_cons_succ]
  refine takeYes (i := 10) (v := .bool true) (some 44) rfl rfl (by kernel_rfl) (by kernel_rfl) (by kernel_rfl) (fun _ _ _ h => h) (by kernel_rfl) (fun w hS => by go_simp) (by assumption) ?_
  simp only [Act.put, List.setIfInBounds_toArray, List.set_cons_zero, List.set_cons_succ]
  refine takeYes (i := 11) (v := .bool true) (some 45) rfl rfl (by kernel_rfl) (by kernel_rfl) (by kernel_rfl) (fun _ _ _ h => h) (by kernel_rfl) (fun w hS => by go_simp) (by assumption) ?_
  simp only [Act.put, List.setIfInBounds_toArray, List.set_cons_zero, List.set_cons_succ]
  refine takeYes (i := 12) (v := .pointer (some ⟨bl, 0, none⟩)) (some 46) rfl rfl (by kernel_rfl) (by kernel_rfl) (by kernel_rfl) (fun _ _ _ h => h) (by kernel_rfl) (fun w hS => by go_simp) (by assumption) ?_
  simp only [Act.put, List.setIfInBounds_toArray, List.set_cons_zero, List.set_cons_succ]
  refine takeYes (i := 13) (v := .pointer (some ⟨bl, 0, none⟩)) (some 47) rfl rfl (by kernel_rfl) (by kernel_rfl) (by kernel_rfl) (fun _ _ _ h => h) (by kernel_rfl) (fun w hS => by go_simp) (by assumption) ?_
  simp only [Act.put, List.setIfInBounds_toArray, List.set_cons_zero, List.set_cons_succ]
  refine takeYes (i := 14) (v := .pointer (some ⟨bl, 13, none⟩)) (some 48) rfl rfl (by kernel_rfl) (by kernel_rfl) (by kernel_rfl) (fun _ _ _ h => h) (by kernel_rfl) (fun w hS => by go_simp) (by assumption) ?_
  simp only [Act.put, List.setIfInBounds_toArray, List.set_cons_zero, List.set_cons_succ]
  refine wpAnyH_ready (rs := [15]) (by kernel_rfl) (by simp) ?_
  refine AllReadyH.cons (o := _) rfl (fun K hK => ?_) AllReadyH.nil
  go_simp
  refine (loadI32 bl 13 srch _ (HH.out.below hN2.bel (Nat.le_refl _)).l13).mono ?_
  rintro e w3 ⟨rfl, rfl⟩
  refine hK.out _ _ hHeld2 (fun hHeld3 => ?_)
  clear hK K hHeld2
  have hHeld2 := hHeld3
  clear hHeld3
  refine takeYes (i := 16) (v := .bool false) (some 50) rfl rfl (by kernel_rfl) (by kernel_rfl) (by kernel_rfl) (fun _ _ _ h => h) (by kernel_rfl) (fun w hS => by go_simp) (by assumption) ?_
  simp only [Act.put, List.setIfInBounds_toArray, List.set_cons_zero, List.set_cons_succ]
  refine takeYes (i := 17) (v := .bool false) (some 51) rfl rfl (by kernel_rfl) (by kernel_rfl) (by kernel_rfl) (fun _ _ _ h => h) (by kernel_rfl) (fun w hS => by go_simp) (by assumption) ?_
  simp only [Act.put, List.setIfInBounds_toArray, List.set_cons_zero, List.set_cons_succ]
  refine takeYes (i := 18) (v := .pointer (some ⟨bl, 0, none⟩)) (some 52) rfl rfl (by kernel_rfl) (by kernel_rfl) (by kernel_rfl) (fun _ _ _ h => h) (by kernel_rfl) (fun w hS => by go_simp) (by assumption) ?_
  simp only [Act.put, List.setIfInBounds_toArray, List.set_cons_zero, List.set_cons_succ]
  refine takeYes (i := 19) (v := .pointer (some ⟨bl, 0, none⟩)) (some 53) rfl rfl (by kernel_rfl) (by kernel_rfl) (by kernel_rfl) (fun _ _ _ h => h) (by kernel_rfl) (fun w hS => by go_simp) (by assumption) ?_
  simp only [Act.put, List.setIfInBounds_toArray, List.set_cons_zero, List.set_cons_succ]
  refine takeYes (i := 20) (v := .pointer (some ⟨bl, 11, none⟩)) (some 54) rfl rfl (by kernel_rfl) (by kernel_rfl) (by kernel_rfl) (fun _ _ _ h => h) (by kernel_rfl) (fun w hS => by go_simp) (by assumption) ?_
  simp only [Act.put, List.setIfInBounds_toArray, List.set_cons_zero, List.set_cons_succ]
  refine wpAnyH_ready (rs := [21]) (by kernel_rfl) (by simp) ?_
  refine AllReadyH.cons (o := _) rfl (fun K hK => ?_) AllReadyH.nil
  go_simp
  refine (loadI32 bl 11 idle _ (HH.out.below hN2.bel (Nat.le_refl _)).l11).mono ?_
  rintro e w3 ⟨rfl, rfl⟩
  refine hK.out _ _ hHeld2 (fun hHeld3 => ?_)
  clear hK K hHeld2
  have hHeld2 := hHeld3
  clear hHeld3
  refine takeYes (i := 22) (v := .bool false) (some 56) rfl rfl (by kernel_rfl) (by kernel_rfl) (by kernel_rfl) (fun _ _ _ h => h) (by kernel_rfl) (fun w hS => by go_simp) (by assumption) ?_
  simp only [Act.put, List.setIfInBounds_toArray, List.set_cons_zero, List.set_cons_succ]
  refine takeYes (i := 23) (v := .bool false) (some 57) rfl rfl (by kernel_rfl) (by kernel_rfl) (by kernel_rfl) (fun _ _ _ h => h) (by kernel_rfl) (fun w hS => by go_simp) (by assumption) ?_
  simp only [Act.put, List.setIfInBounds_toArray, List.set_cons_zero, List.set_cons_succ]
  refine takeYes (i := 24) (v := .bool false) (some 58) rfl rfl (by kernel_rfl) (by kernel_rfl) (by kernel_rfl) (fun _ _ _ h => h) (by kernel_rfl) (fun w hS => by go_simp) (by assumption) ?_
  simp only [Act.put, List.setIfInBounds_toArray, List.set_cons_zero, List.set_cons_succ]
  refine wpAnyH_done (by kernel_rfl) ?_ _
  have HN2 : Hid (NowAt w n s w3) := hN2
  have HH2 : Hid (Hall w3 bm bs bl bp bq idle srch g status nr sr ns ss nxt) := HH.out.below hN2.bel (Nat.le_refl _)
  clear hHeld2 hN2 HN HD m0 s7 q5 bm0 bs0 bq0 HH
  have m0 := HH2.out.m0
  go_wp2_with fail
  refine (globalQueued_any bs g _ HH2.out.s1 HH2.out.s5 HH2.out.f1).mono ?_
  rintro e w4 ⟨rfl, hb4⟩
  have HB4 : Hid (Below w.heap.size w w4) := (HN2.out.later hb4).bel
  clear hb4 HN2 HH2 m0
  go_wp2
  go_ret2
  exact ⟨rfl, HB4.out⟩

end Go.Proofs.Ybulkcpmo
