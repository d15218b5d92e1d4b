/-
  THE PROOF OF 'Rows.LawS4564CSequenceSaid': the walk (YbulkcpmoSeqWalk), lifted to the row.
-/
import Derived.Test.YbulkcpmoRows
import Derived.Test.YbulkcpmoSeqWalk
import Derived.Test.YbulkcpmoUtsOpen
import Derived.WalkKit
import Derived.ProofKit
import Derived.OpenShut
import Derived.Deep.Slices
namespace Go.Proofs.Ybulkcpmo.lawS4564CSequence
open Go.ChangeShapes Go.WideShapes Go.ChangeAt Go.RowKit
set_option linter.unusedVariables false

theorem own : ownKnob Yba.prog.godebug = none := by kernel_rfl
theorem laidOut : laidOutB Yba.prog = true := by kernel_rfl

theorem okWide_agg {P : Program} {W : World} {r : Reach} {base : Nat} {t : TypeId} {v : Value} {fs : Array Field} (ht : P.underlying t = some (.struct fs)) (h : Value.okWide P W r base t v) : ∃ l : List Value, v = .agg l.toArray := by
  unfold Value.okWide at h
  rw [ht] at h
  obtain ⟨cs, rfl, -, -⟩ := h
  exact ⟨cs.toList, by simp⟩

/-- Cells read one behind another lie there. -/
theorem range_of_cells {w : World} {base n : Nat} {a : Addr} {cs : List Value} (h : w.cells? base a n = some cs) (hn : 0 < n) : a.spot = none ∧ w.rangeAt a.block a.off cs := by
  unfold World.cells? at h
  split at h
  · have hl := mapM_some_length h
    have hg := fun i (hi : i < n) => mapM_some_get h i i (by simp [hi])
    have hlen : cs.length = n := by simpa using hl
    have h0 := hg 0 hn
    rw [List.getElem?_eq_getElem (by omega)] at h0
    have hsp : a.spot = none := by
      have : w.cell? a = some _ := h0
      unfold World.cell? at this
      split at this
      · split at this
        · cases this
        · rename_i hs; simpa using hs
      · cases this
    refine ⟨hsp, fun j v hv => ?_⟩
    have hj : j < n := by
      have := (List.getElem?_eq_some_iff.1 hv).1
      omega
    have hc := hg j hj
    rw [hv] at hc
    obtain ⟨b, o, sp⟩ := a
    simp only at hsp
    subst hsp
    rw [Addr.add_mid] at hc
    exact hc
  · cases h

theorem nodes_of_trod {H : Type} {enc : TypeId × Value → H} {w : World} {base : Nat} {spare : Nat → Bool} {held : Bool} {fuel : Nat} {a : Option Addr} {len cap : Nat} {x : DataW H × List MemPlace}
    (h : DataW.trod enc Yba.prog w base spare held fuel 118 [.slice a len cap] = some x) (h0 : 0 < len) : ∃ b off, a = some ⟨b, off, none⟩ ∧ NodesAt w b off len := by
  rcases Deep.open_slice Yba.underlying118 h with ⟨hcs, -⟩ | ⟨a', len', cap', m, n, D, Pl, hcs, -, hle, -, hm, -, hel⟩
  · simp at hcs; omega
  · simp at hcs
    obtain ⟨rfl, rfl, rfl⟩ := hcs
    have hml : len ≤ m := by rw [hm]; split <;> omega
    rw [Yba.cells111] at hel
    obtain ⟨b, off, sp⟩ := a'
    have hsp : sp = none := by
      obtain ⟨cs', hc, -⟩ := hel 0 (by omega)
      have := (range_of_cells hc (by omega)).1
      simpa [Addr.add] using this
    subst hsp
    refine ⟨b, off, rfl, fun k hk => ?_⟩
    obtain ⟨cs', hc, ht⟩ := hel k (by omega)
    obtain ⟨x0, x1, x2, x3, d, hN⟩ := isNode_of_trod ht
    rw [Addr.add_mid] at hc
    exact ⟨cs', x0, x1, x2, x3, d, hN, (range_of_cells hc (by omega)).2⟩

set_option maxRecDepth 100000 in
theorem lifted (os : Os) (started : os.Started) (H : Type) (enc : TypeId × Value → H) :
    ReturnsInHanded {} Yba.checked os 5 .any (Rows.lawS4564CSequenceSpec.pre6 enc Yba.prog Yba.f5 Rows.lawS4564CSequenceRow.domain false) (Rows.lawS4564CSequenceSpec.post enc Yba.prog Yba.f5 false true false false) := by
  refine returnsInHanded_of_change (C := Yba.checked) own started (by kernel_rfl) Yba.func5
    (ChangeSpec.witness6 (enc := enc) (C := Yba.checked) false ⟨#[], #[.agg #[.int .i64 0, .float .f64 0, .int .i64 0, .int .u32 0], .slice none 0 0], []⟩ 8 (by kernel_rfl) (by kernel_rfl) (by kernel_rfl) (by kernel_rfl)) ?_
  intro W base args ds gs before hval0 hW hcnd _
  have hval : ∀ (j : Nat) t v, Yba.f5.params[j]? = some t → args[j]? = some v → Value.okWide Yba.prog W .any base t v := hval0
  have hW' := hW
  obtain ⟨p, q, hA0, hV, rfl, hfz, hnd⟩ := hW
  have hA : DataW.TrodAll enc Yba.prog W 0 (fun _ => true) true Yba.f5.params.toList args.toList ds p := hA0
  rw [Yba.params5] at hA hval
  obtain ⟨v0, vs0, d0, ds0, p0, q0, hargs, rfl, rfl, h0, r0⟩ := trodAll_cons hA
  obtain ⟨v1, vs1, d1, ds1, p1, q1, rfl, rfl, rfl, h1, r1⟩ := trodAll_cons r0
  obtain ⟨rfl, rfl, rfl⟩ := trodAll_nil r1
  obtain rfl : args = #[v0, v1] := by cases args; simp_all
  obtain ⟨rfl, rfl⟩ := trodVars_none hV
  obtain ⟨T, rfl⟩ := okWide_agg Yba.underlying108 (hval 0 108 v0 rfl rfl)
  obtain ⟨a1, len1, cap1, rfl⟩ := okWide_slice Yba.underlying118 (hval 1 118 v1 rfl rfl)
  have k0 := h0
  have k1 := h1
  have lt0 : ∀ x ∈ p0, x.block < W.heap.size := by obtain ⟨m, hm⟩ := k0; exact DataW.trod_lt m _ _ _ hm
  have lt1 : ∀ x ∈ p1, x.block < W.heap.size := by obtain ⟨m, hm⟩ := k1; exact DataW.trod_lt m _ _ _ hm
  obtain ⟨rc, qq, m, hT⟩ : ∃ rc qq m, IsTree T rc qq m := by obtain ⟨fuel, hf⟩ := h0; exact isTree_of_trod (cs := T) hf
  have walk : Calls Yba.prog 5 #[.agg T.toArray, .slice a1 len1 cap1] W fun e w' => e = .returned (.bool true) ∧ Below W.heap.size W w' := by
    by_cases hl : 1024 < len1
    · exact seq_long T a1 len1 cap1 W hl
    · by_cases hz : len1 = 0
      · subst hz; exact seq_empty T a1 cap1 W
      · obtain ⟨fuel, hf⟩ := h1
        obtain ⟨b, off, rfl, hn⟩ := nodes_of_trod hf (by omega)
        exact seq_some T rc m qq hT b off len1 cap1 W (by omega) (by omega) hn
  clear hA0 hval0
  refine walk.mono fun e W' ⟨he, bel⟩ => ?_
  subst he
  exact ⟨_, rfl, _, _, _, [], _, [], hW', trodAll_mk1 (shut_bool Yba.underlying4 _), (trodAll_cons_mk (Below.trod laidOut (by kernel_rfl) (of_decide_eq_true (by kernel_rfl)) k0 bel lt0) (trodAll_cons_mk (Below.trod laidOut (by kernel_rfl) (of_decide_eq_true (by kernel_rfl)) k1 bel lt1) trodAll_mk0)), rfl, bel.frame _, fun h => by cases h⟩

theorem over : Rows.lawS4564CSequenceRow.holds Yba.pinned (OpenSpec.ofChange Rows.lawS4564CSequenceSpec) :=
  OpenClaim.holds_of_wide 5 Yba.f5 rfl rfl rfl rfl rfl rfl rfl ⟨rfl, rfl, rfl, rfl, rfl⟩ rfl rfl rfl rfl rfl (by kernel_rfl) Yba.func5 (by kernel_rfl)
    (of_decide_eq_true (by kernel_rfl)) (by unfold Func.isWrapper; first | (rw [if_pos (by decide +kernel)]; kernel_rfl) | (rw [if_neg (by decide +kernel)]; exact ⟨rfl, rfl⟩))
    (fun os started H enc _ => lifted os started H enc)

/-- THE STATEMENT -/
theorem proved : Rows.LawS4564CSequenceSaid :=
  over
#print axioms proved
end Go.Proofs.Ybulkcpmo.lawS4564CSequence
