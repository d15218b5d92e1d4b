import Derived.Test.YbulkcpmoAtom
import Derived.Test.YbulkcpmoLocks
import Derived.Conc.MuLone
namespace Go.Proofs.Ybulkcpmo
open Go.RowKit Go.MuLone

theorem block_set {w : World} {g i : Nat} {cs : Array Value} {t : TypeId} {fr : Nat × Nat} (h : w.heap[g]? = some (.cells cs t fr)) (v : Value) : (w.setCell ⟨g, i, none⟩ v).heap[g]? = some (.cells (cs.setIfInBounds i v) t fr) := by
  rw [setCell_eq_setRow w g i cs t fr v h]
  exact setRow_heap w g _ _ t _ h

/-- A cell written and written back: every block is as it was. -/
theorem below_back {w : World} {b o : Nat} {u v : Value} (h : w.cell? ⟨b, o, none⟩ = some v) : Below w.heap.size w ((w.setCell ⟨b, o, none⟩ u).setCell ⟨b, o, none⟩ v) := by
  refine ⟨rfl, rfl, rfl, by simp [World.setCell], fun k _ => ?_⟩
  by_cases hk : k = b
  · subst hk
    unfold World.cell? at h
    split at h
    · rename_i c e fr hb
      simp only [Option.isSome_none, Bool.false_eq_true, if_false] at h
      have hb' : w.heap[k]? = some (.cells c e fr) := hb
      rw [block_set (block_set hb' u) v, hb']
      congr 2
      obtain ⟨ho, hv⟩ := Array.getElem?_eq_some_iff.1 h
      refine Array.ext_getElem? fun j => ?_
      by_cases hj : o = j
      · subst hj; simp [ho, hv]
      · simp [hj]
    · cases h
  · rw [Below.heap_setCell _ _ _ _ hk, Below.heap_setCell _ _ _ _ hk]

set_option maxHeartbeats 400000 in
theorem globalQueued_any (b : Nat) (g : Int) (w : World) (h1 : w.cell? ⟨b, 1, none⟩ = some (.int .i32 0)) (h5 : w.cell? ⟨b, 5, none⟩ = some (.int .i64 g))
    (f1 : w.frozen? ⟨b, 1, none⟩ = false) :
    Calls Yba.prog 25 #[.pointer (some ⟨b, 0, none⟩)] w fun e w' => e = .returned (.int .i64 g) ∧ Below w.heap.size w w' := by
  go_enter_defers Yba.func25, Yba.ntmps25
  go_wp2_with (go_at_call 38; refine (lock_free Yba.muLib ⟨b, 1, none⟩ _ h1 f1).mono ?_; rintro e w' ⟨rfl, rfl⟩)
  refine leaves_cons (f := 39) (args := #[.pointer (some ⟨b, 1, none⟩)]) (by simp) (by simp [go_sem]) ?_
  refine (unlock_deferred Yba.muLib ⟨b, 1, none⟩ .returning _ ?_ ?_).mono ?_
  · exact World.cell?_setCell_same w ⟨b, 1, none⟩ (.int .i32 1) h1
  · simp [f1]
  rintro e u' w'' ⟨rfl, rfl, rfl⟩
  exact ⟨_, results_tmp rfl _ _ _, rfl, below_back h1⟩

/-- An empty local queue; the next slot empty. -/
theorem queued_none (b : Nat) (w : World) (h1 : w.cell? ⟨b, 1, none⟩ = some (.pointer none)) (h2 : w.cell? ⟨b, 2, none⟩ = some (.int .u32 0)) (h3 : w.cell? ⟨b, 3, none⟩ = some (.int .u32 0)) :
    Calls Yba.prog 22 #[.pointer (some ⟨b, 0, none⟩)] w fun e w' => e = .returned (.int .i64 0) ∧ w' = w := by
  go_enter Yba.func22, Yba.ntmps22
  go_wp2_with (first | (go_at_call 32; go_in) | (go_at_call 33; refine (loadNextNil b 1 _ h1).mono ?_; rintro e w' ⟨rfl, rfl⟩) | fail)
  refine (loadU32 b 2 0 _ h2).mono ?_
  rintro e w' ⟨rfl, rfl⟩
  go_wp2_with fail
  refine (loadU32 b 3 0 _ h3).mono ?_
  rintro e w' ⟨rfl, rfl⟩
  go_wp2_with (first | (go_at_call 33; refine (loadNextNil b 1 _ h1).mono ?_; rintro e w' ⟨rfl, rfl⟩))
  go_ret
  exact ⟨rfl, rfl⟩
/-- An empty local queue; the next slot filled. -/
theorem queued_one (b t : Nat) (cs : Array Value) (fr : Nat × Nat) (w : World) (h1 : w.cell? ⟨b, 1, none⟩ = some (.pointer (some ⟨t, 0, none⟩))) (h2 : w.cell? ⟨b, 2, none⟩ = some (.int .u32 0)) (h3 : w.cell? ⟨b, 3, none⟩ = some (.int .u32 0))
    (h : w.heap[t]? = some (.cells cs 95 fr)) (hs : cs.size = 6) :
    Calls Yba.prog 22 #[.pointer (some ⟨b, 0, none⟩)] w fun e w' => e = .returned (.int .i64 1) ∧ w' = w := by
  have HH : Hid (w.heap[t]? = some (.cells cs 95 fr)) := h
  clear h
  go_enter Yba.func22, Yba.ntmps22
  go_wp2_with (first | (go_at_call 32; go_in) | fail)
  refine (loadU32 b 2 0 _ h2).mono ?_
  rintro e w' ⟨rfl, rfl⟩
  go_wp2_with fail
  refine (loadU32 b 3 0 _ h3).mono ?_
  rintro e w' ⟨rfl, rfl⟩
  go_wp2_with (first | (go_at_call 33; refine (loadNextTask b 1 t cs fr _ h1 HH.out hs).mono ?_; rintro e w' ⟨rfl, rfl⟩))
  go_ret
  exact ⟨rfl, rfl⟩
end Go.Proofs.Ybulkcpmo
