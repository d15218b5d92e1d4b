import Derived.Test.YbulkcpoeNew2
import Derived.Test.YbulkcpoePut
namespace Go.Proofs.Ybulkcpoe
open Go.RowKit

theorem nofunc26 (w : World) (g : Fn) (a b : Array Value) : (binOp .eql 26 (.func g a b) .nilFunc).run Yba.prog w = .ok (.bool false) w := by kernel_rfl

theorem info9 : ∃ i : TypeInfo, Yba.prog.info? 9 = some i ∧ i.zero = some (.string ⟨#[]⟩) ∧ i.size = 1 ∧ i.bytes = 16 := by
  have h : (Yba.prog.info? 9).isSome = true := by kernel_rfl
  have h1 : (Yba.prog.info? 9).bind (·.zero) = some (.string ⟨#[]⟩) := by kernel_rfl
  have h2 : (Yba.prog.info? 9).map (·.size) = some 1 := by kernel_rfl
  have h3 : (Yba.prog.info? 9).map (·.bytes) = some 16 := by kernel_rfl
  obtain ⟨i, hi⟩ := Option.isSome_iff_exists.1 h
  rw [hi] at h1 h2 h3
  exact ⟨i, hi, h1, by simpa using h2, by simpa using h3⟩

theorem own_first {w : World} {base g cap : Nat} {v : Value} (h : w.ownsRow base 9 1 (.slice (some ⟨g, 0, none⟩) (0 + 1) cap) (0 + 1) ([] ++ [v])) : w.cell? ⟨g, 0, none⟩ = some v ∧ base ≤ g := by
  rcases h.2 with ⟨hv, _⟩ | ⟨g', cap', cur, hv, hb, hg, _, _, _, ht⟩
  · cases hv
  · simp only [Value.slice.injEq, Option.some.injEq, Addr.mk.injEq, and_true] at hv
    obtain ⟨rfl, -, rfl⟩ := hv
    refine ⟨?_, hb⟩
    rw [cell_of_row _ _ _ _ _ _ hg]
    have h0 : (cur.toList.take ((0 + 1) * 1))[0]? = some v := by rw [ht]; rfl
    rw [List.getElem?_take] at h0
    simpa using h0

set_option maxRecDepth 100000 in
set_option maxHeartbeats 2000000 in
theorem ev_runs (b : Nat) (s : ByteArray) (w : World) (hb : w.cell? ⟨b, 0, none⟩ = some (.slice none 0 0)) (hf : w.frozen? ⟨b, 0, none⟩ = false) :
    Calls Yba.prog 8 #[.agg #[Value.string { data := #[] }, Value.string s, Value.int IntKind.u64 0, Value.int IntKind.i64 0, Value.pointer none, Value.pointer none, Value.pointer none, Value.nilIface, Value.pointer none, Value.string { data := #[] }, Value.pointer none, Value.pointer none], .pointer (some ⟨b, 0, none⟩)] w fun e w' =>
      e = .returned (.tuple #[]) ∧ ∃ g cap, w.heap.size ≤ g ∧ w'.cell? ⟨b, 0, none⟩ = some (.slice (some ⟨g, 0, none⟩) 1 cap) ∧ w'.cell? ⟨g, 0, none⟩ = some (.string s) ∧ Kept (fun r => r = b) w w' := by
  have hb0 : b < w.heap.size := World.block_lt_of_cell? _ _ hb
  have hb1 : b < w.heap.size + 1 := by omega
  obtain ⟨i, hi, hz, hs, hby⟩ := info9
  have HI : Hid (Yba.prog.info? 9 = some i) := hi
  clear hi
  have HN : Hid (∀ j u, [Value.string s][j]? = some u → ((w.alloc (Obj.cells #[Value.string { data := #[] }, Value.string s, Value.int IntKind.u64 0, Value.int IntKind.i64 0, Value.pointer none, Value.pointer none, Value.pointer none, Value.nilIface, Value.pointer none, Value.string { data := #[] }, Value.pointer none, Value.pointer none] 64)).alloc (.cells #[.string s] 9)).cell? ((⟨w.heap.size + 1, 0, none⟩ : Addr).add j) = some u) := fun j u hj => by
    cases j with
    | zero => rw [← hj]; rw [Addr.add_mid]; go_simp
    | succ j => simp at hj
  go_enter Yba.func8, Yba.ntmps8
  go_wp2_with (at_builtin; refine wpList_append_lies _ rfl (.tmp 3) (.tmp 6) 53 rfl w.heap.size 9 i (.string ⟨#[]⟩) 1 16 Yba.underlying53 HI.out hz hs hby rfl (by omega) (.slice none 0 0) 0 [] rfl ⟨rfl, .inl ⟨rfl, rfl⟩⟩ ⟨w.heap.size + 1, 0, none⟩ 1 1 [.string s] rfl rfl HN.out (by simp [Value.oneCell']) (by omega) (by unfold maxLen; omega) (by omega) (by simp; omega) _ rfl ?_; intro g cap w1 hown hgrow hat hlt; have hB := (((Below.refl w.heap.size w).alloc (Nat.le_refl _) _).alloc (by simp) _).grown hgrow (by simp; omega) (fun k hk => by simp [Value.ownBlock] at hk); have rb : w1.cell? ⟨b, 0, none⟩ = some (.slice none 0 0) := (hB.cell (p := ⟨b, 0, none⟩) hb0).trans hb; have rf : w1.frozen? ⟨b, 0, none⟩ = false := (hB.frozen (p := ⟨b, 0, none⟩) hb0).trans hf; have HBw : Hid (Below w.heap.size w w1) := hB; have HO : Hid (w1.cell? ⟨g, 0, none⟩ = some (.string s) ∧ w.heap.size ≤ g) := own_first hown; clear hB hown hgrow hat hlt)
  obtain ⟨hg, hge⟩ := HO.out
  refine bodyPost_end (results_none rfl _ _ _) rfl ⟨rfl, g, cap, hge, ?_, ?_, ?_⟩
  · exact World.cell?_setCell_same _ _ _ rb
  · rw [World.cell?_setCell_other _ _ _ _ (by intro e; injection e with e1; omega)]
    exact hg
  · exact Kept.setCell (X := fun r => r = b) (Kept.of_below HBw.out) (a := ⟨b, 0, none⟩) (.inl rfl) _

theorem frozen_row {W : World} {b : Nat} {A : Array Value} {t : TypeId} (h : W.heap[b]? = some (.cells A t)) : W.frozen? ⟨b, 0, none⟩ = false := by
  simp [World.frozen?, h]

theorem ev_cells {W : World} {st : Nat} {mm ms : Int} {sl ev : Value} {mb : Nat} (h : W.heap[st]? = some (.cells (stationV mm ms sl ev mb) 41)) :
    W.cell? ⟨st, 0, none⟩ = some (.int .i64 (bound mm 1048576)) ∧ W.cell? ⟨st, 1, none⟩ = some (.int .i64 (bound ms 1000)) ∧ W.cell? ⟨st, 3, none⟩ = some ev := by
  have c : ∀ j, W.cell? ⟨st, j, none⟩ = (stationV mm ms sl ev mb)[j]? := fun j => cell_of_row _ _ _ _ _ _ h
  exact ⟨c 0, c 1, c 3⟩

set_option maxRecDepth 100000 in
set_option maxHeartbeats 2000000 in
theorem events (s : ByteArray) (ms : Int) (w : World) :
    Calls Yba.prog 4 #[.string s, .int .i64 ms] w fun e w' => e = .returned (.bool true) ∧ Below w.heap.size w w' := by
  go_enter Yba.func4, Yba.ntmps4
  go_wp2_with fail
  refine (new_nil 0 ms _ _).mono ?_
  rintro e w1 ⟨st, mb, rfl, hst, hmb, hB⟩
  obtain ⟨c0, c1, c3⟩ := ev_cells hst
  rw [bound_pos (by omega)] at c0
  have hl : w1.heap[w.heap.size]? = some (.cells #[.slice none 0 0] 53) := (hB.block _ (by simp)).trans (heap_alloc_new w _)
  have l0 : w1.cell? ⟨w.heap.size, 0, none⟩ = some (.slice none 0 0) := cell_of_row _ _ _ _ _ _ hl
  have hne : st ≠ w.heap.size := fun e => by
    subst e
    rw [hl] at hst
    simp [stationV] at hst
  have hf := nofunc26
  have HB : Hid (Below w.heap.size w w1) := ((Below.refl _ _).alloc (Nat.le_refl _) _).trans (hB.mono (by simp))
  have HL : Hid (w1.heap[w.heap.size]? = some (.cells #[.slice none 0 0] 53)) := hl
  clear hB hst hmb hl
  dsimp only
  go_wp2_with fail
  refine (ev_runs w.heap.size s w1 l0 (frozen_row HL.out)).mono ?_
  rintro e w2 ⟨rfl, g, cap, hg, e1, e2, hK⟩
  have hst0 : st < w1.heap.size := World.block_lt_of_cell? _ _ c0
  have d0 : w2.cell? ⟨st, 0, none⟩ = some (.int .i64 1048576) := (World.cell?_of_block (w := w1) (hK.block st hst0 hne)).trans c0
  have d1 : w2.cell? ⟨st, 1, none⟩ = some (.int .i64 (bound ms 1000)) := (World.cell?_of_block (w := w1) (hK.block st hst0 hne)).trans c1
  have hz : w.heap.size < w1.heap.size := World.block_lt_of_cell? _ _ l0
  have HB2 : Hid (Below w.heap.size w w2) := HB.out.trans (hK.below (by omega) (fun k hk => by omega))
  clear HB HL hK l0 c0 c1 c3 hg
  dsimp only
  by_cases h : ms ≤ 0
  · rw [bound_pos h] at d1
    go_wp2_with fail
    go_ret
    exact ⟨rfl, HB2.out⟩
  · rw [bound_neg h] at d1
    go_wp2_with fail
    go_ret
    exact ⟨rfl, HB2.out⟩
end Go.Proofs.Ybulkcpoe
