import Derived.Test.YbulkcpoeNew2
namespace Go.Proofs.Ybulkcpoe
open Go.RowKit

/-- Behind the clone: the box of the config, and what the rest of 'New' leaves. -/
theorem boxed {w w1 : World} {v0 v1 v2 v3 : Value} (hb : Below (w.heap.size + 1) (w.alloc (.cells #[v0, v1, v2, v3] 28)) w1) :
    w1.cell? ⟨w.heap.size, 0, none⟩ = some v0 ∧ w1.cell? ⟨w.heap.size, 1, none⟩ = some v1 ∧ w1.cell? ⟨w.heap.size, 2, none⟩ = some v2 ∧ w1.cell? ⟨w.heap.size, 3, none⟩ = some v3 ∧ w1.frozen? ⟨w.heap.size, 2, none⟩ = false ∧ w.heap.size < w1.heap.size ∧
    Hid (∀ (n cap g : Nat) (news : List Value), w.heap.size + 1 ≤ g → 0 < n → news.length = n * 4 → w1.rangeAt g 0 news → (∃ A, w1.heap[g]? = some (.cells A 51 (0, 0))) → ∀ (A B : Obj), let W := ((w1.setCell ⟨w.heap.size, 2, none⟩ (.slice (some ⟨g, 0, none⟩) n cap)).alloc A).alloc B
      W.heap[w1.heap.size]? = some A ∧ W.heap[w1.heap.size + 1]? = some B ∧ W.rangeAt g 0 news ∧ (∃ A, W.heap[g]? = some (.cells A 51 (0, 0))) ∧ Below w.heap.size w W) := by
  have hh : w1.heap[w.heap.size]? = some (.cells #[v0, v1, v2, v3] 28) := (hb.block _ (by omega)).trans (heap_alloc_new w _)
  have hlt : w.heap.size < w1.heap.size := by have := hb.size; simp at this; omega
  refine ⟨by rw [cell_of_row _ _ _ _ _ _ hh]; rfl, by rw [cell_of_row _ _ _ _ _ _ hh]; rfl, by rw [cell_of_row _ _ _ _ _ _ hh]; rfl, by rw [cell_of_row _ _ _ _ _ _ hh]; rfl, frozen_of_row _ _ _ _ _ hh, hlt, ?_⟩
  intro n cap g news hg hn hl hr hga A B
  have hs : (w1.setCell ⟨w.heap.size, 2, none⟩ (.slice (some ⟨g, 0, none⟩) n cap)).heap.size = w1.heap.size := by simp [World.setCell]
  have e1 := heap_alloc2_old (w1.setCell ⟨w.heap.size, 2, none⟩ (.slice (some ⟨g, 0, none⟩) n cap)) A B
  have e2 := heap_alloc2_new (w1.setCell ⟨w.heap.size, 2, none⟩ (.slice (some ⟨g, 0, none⟩) n cap)) A B
  rw [hs] at e1 e2
  have hgl : g < w1.heap.size := by
    obtain ⟨u, hu⟩ : ∃ u, news[0]? = some u := ⟨_, List.getElem?_eq_getElem (by omega)⟩
    exact World.block_lt_of_cell? _ _ (hr 0 u hu)
  refine ⟨e1, e2, fun j v hv => ?_, ?_, ?_⟩
  · rw [World.cell?_alloc_lt _ _ ⟨g, 0 + j, none⟩ (by show g < _; simp; omega), World.cell?_alloc_lt _ _ ⟨g, 0 + j, none⟩ (by show g < _; omega), World.cell?_setCell_other _ _ _ _ (fun e => by have := congrArg Addr.block e; simp at this; omega)]
    exact hr j v hv
  · obtain ⟨C, hC⟩ := hga
    exact ⟨C, by rw [Below.heap_alloc _ _ _ (by simp; omega), Below.heap_alloc _ _ _ (by omega), Below.heap_setCell _ _ _ _ (by show g ≠ w.heap.size; omega)]; exact hC⟩
  · have hb' : Below w.heap.size w w1 := ((Below.refl _ _).alloc (Nat.le_refl _) _).trans (hb.mono (by omega))
    exact ((hb'.setCell (Nat.le_refl _) _).alloc (by omega) _).alloc (by simp; omega) _

set_option maxHeartbeats 1000000 in
theorem new_some (mm ms : Int) (b n c : Nat) (news : List Value) (hl : news.length = n * 4) (h1 : ∀ u ∈ news, u.oneCell' = true) (hn : 0 < n) (hn2 : n ≤ 1024) (w : World) (hsrc : w.rangeAt b 0 news) :
    Calls Yba.prog 7 #[.agg #[.int .i64 mm, .int .i64 ms, .slice (some ⟨b, 0, none⟩) n c, .nilFunc]] w fun e w' => ∃ st mb g cap, e = .returned (.pointer (some ⟨st, 0, none⟩)) ∧ w'.heap[st]? = some (.cells (stationV mm ms (.slice (some ⟨g, 0, none⟩) n cap) .nilFunc mb) 41) ∧ w'.heap[mb]? = some (.map #[] 0) ∧
      w.heap.size < g ∧ w'.rangeAt g 0 news ∧ (∃ A, w'.heap[g]? = some (.cells A 51 (0, 0))) ∧ Below w.heap.size w w' := by
  have hmm := @run_makeMap Yba.prog
  have hb0 : b < w.heap.size := by
    obtain ⟨u, hu⟩ : ∃ u, news[0]? = some u := ⟨_, List.getElem?_eq_getElem (by omega)⟩
    exact World.block_lt_of_cell? _ _ (hsrc 0 u hu)
  have HC : Hid (∀ C : Array Value, Calls Yba.prog 12 #[.slice (some ⟨b, 0, none⟩) n c] (w.alloc (.cells C 28)) fun e w' => ∃ g cap, e = .returned (.slice (some ⟨g, 0, none⟩) n cap) ∧ w.heap.size + 1 ≤ g ∧ w'.rangeAt g 0 news ∧ (∃ A, w'.heap[g]? = some (.cells A 51 (0, 0))) ∧ Below (w.heap.size + 1) (w.alloc (.cells C 28)) w') := fun C => by
    have h := clone_some b n c news hl h1 hn hn2 (w.alloc (.cells C 28)) (fun j v hv => (World.cell?_alloc_lt w _ ⟨b, 0 + j, none⟩ hb0).trans (hsrc j v hv))
    simp only [World.size_alloc] at h
    exact h
  have HL : Hid (news.length = n * 4) := hl
  clear hl h1 hsrc
  by_cases h1 : mm ≤ 0
  · by_cases h2 : ms ≤ 0
    · go_enter Yba.func7, Yba.ntmps7
      go_wp2_with (go_at_call 12; refine (HC.out _).mono ?_; rintro e w1 ⟨g, cap, rfl, hg, hr, hga, hb1⟩; have HGA : Hid (∃ A, w1.heap[g]? = some (.cells A 51 (0, 0))) := hga; obtain ⟨c0, c1, c2, c3, f2, l1, HF⟩ := boxed hb1; have HG : Hid (w1.rangeAt g 0 news) := hr; clear hr hb1 hga)
      go_ret
      have fin := HF.out n cap g news hg hn HL.out HG.out HGA.out (.map #[] 0) (.cells (stationV mm ms (.slice (some ⟨g, 0, none⟩) n cap) .nilFunc w1.heap.size) 41)
      obtain ⟨a1, a2, a3, a5, a4⟩ := fin
      unfold stationV at a1 a2 a3 a4 a5
      rw [bound_pos (x := mm) (by omega), bound_pos (x := ms) (by omega)] at a1 a2 a3 a4 a5
      refine ⟨w1.heap.size + 1, w1.heap.size, g, cap, rfl, ?_, a1, by omega, a3, a5, a4⟩
      unfold stationV
      rw [bound_pos (x := mm) (by omega), bound_pos (x := ms) (by omega)]
      exact a2
    · go_enter Yba.func7, Yba.ntmps7
      go_wp2_with (go_at_call 12; refine (HC.out _).mono ?_; rintro e w1 ⟨g, cap, rfl, hg, hr, hga, hb1⟩; have HGA : Hid (∃ A, w1.heap[g]? = some (.cells A 51 (0, 0))) := hga; obtain ⟨c0, c1, c2, c3, f2, l1, HF⟩ := boxed hb1; have HG : Hid (w1.rangeAt g 0 news) := hr; clear hr hb1 hga)
      go_ret
      have fin := HF.out n cap g news hg hn HL.out HG.out HGA.out (.map #[] 0) (.cells (stationV mm ms (.slice (some ⟨g, 0, none⟩) n cap) .nilFunc w1.heap.size) 41)
      obtain ⟨a1, a2, a3, a5, a4⟩ := fin
      unfold stationV at a1 a2 a3 a4 a5
      rw [bound_pos (x := mm) (by omega), bound_neg (x := ms) (by omega)] at a1 a2 a3 a4 a5
      refine ⟨w1.heap.size + 1, w1.heap.size, g, cap, rfl, ?_, a1, by omega, a3, a5, a4⟩
      unfold stationV
      rw [bound_pos (x := mm) (by omega), bound_neg (x := ms) (by omega)]
      exact a2
  · by_cases h2 : ms ≤ 0
    · go_enter Yba.func7, Yba.ntmps7
      go_wp2_with (go_at_call 12; refine (HC.out _).mono ?_; rintro e w1 ⟨g, cap, rfl, hg, hr, hga, hb1⟩; have HGA : Hid (∃ A, w1.heap[g]? = some (.cells A 51 (0, 0))) := hga; obtain ⟨c0, c1, c2, c3, f2, l1, HF⟩ := boxed hb1; have HG : Hid (w1.rangeAt g 0 news) := hr; clear hr hb1 hga)
      go_ret
      have fin := HF.out n cap g news hg hn HL.out HG.out HGA.out (.map #[] 0) (.cells (stationV mm ms (.slice (some ⟨g, 0, none⟩) n cap) .nilFunc w1.heap.size) 41)
      obtain ⟨a1, a2, a3, a5, a4⟩ := fin
      unfold stationV at a1 a2 a3 a4 a5
      rw [bound_neg (x := mm) (by omega), bound_pos (x := ms) (by omega)] at a1 a2 a3 a4 a5
      refine ⟨w1.heap.size + 1, w1.heap.size, g, cap, rfl, ?_, a1, by omega, a3, a5, a4⟩
      unfold stationV
      rw [bound_neg (x := mm) (by omega), bound_pos (x := ms) (by omega)]
      exact a2
    · go_enter Yba.func7, Yba.ntmps7
      go_wp2_with (go_at_call 12; refine (HC.out _).mono ?_; rintro e w1 ⟨g, cap, rfl, hg, hr, hga, hb1⟩; have HGA : Hid (∃ A, w1.heap[g]? = some (.cells A 51 (0, 0))) := hga; obtain ⟨c0, c1, c2, c3, f2, l1, HF⟩ := boxed hb1; have HG : Hid (w1.rangeAt g 0 news) := hr; clear hr hb1 hga)
      go_ret
      have fin := HF.out n cap g news hg hn HL.out HG.out HGA.out (.map #[] 0) (.cells (stationV mm ms (.slice (some ⟨g, 0, none⟩) n cap) .nilFunc w1.heap.size) 41)
      obtain ⟨a1, a2, a3, a5, a4⟩ := fin
      unfold stationV at a1 a2 a3 a4 a5
      rw [bound_neg (x := mm) (by omega), bound_neg (x := ms) (by omega)] at a1 a2 a3 a4 a5
      refine ⟨w1.heap.size + 1, w1.heap.size, g, cap, rfl, ?_, a1, by omega, a3, a5, a4⟩
      unfold stationV
      rw [bound_neg (x := mm) (by omega), bound_neg (x := ms) (by omega)]
      exact a2
end Go.Proofs.Ybulkcpoe
