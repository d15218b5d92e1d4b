/-
  The proof of Rows.LawS4567CModelSaid: the walks (Mod1, Mod2), lifted to the row.
-/
import Derived.Test.YbulkcpoeRows
import Derived.Test.YbulkcpoeMod1
import Derived.Test.YbulkcpoeMod2
import Derived.WalkKit
import Derived.ProofKit
import Derived.OpenShut
import Derived.Deep.Slices
namespace Go.Proofs.Ybulkcpoe.lawS4567CModel
open Go.ChangeShapes Go.WideShapes Go.ChangeAt Go.RowKit
set_option linter.unusedVariables false

theorem own : ownKnob Yba.prog.godebug = none := by kernel_rfl
theorem laidOut : laidOutB Yba.prog = true := by kernel_rfl
theorem cells69 : Yba.prog.cellsOf 69 = 4 := by kernel_rfl
theorem cells21 : Yba.prog.cellsOf 21 = 1 := by kernel_rfl
theorem cells31 : Yba.prog.cellsOf 31 = 1 := by kernel_rfl

theorem at_of_take {l : List Value} {i : Nat} {v : Value} (h : (l.drop i).take 1 = [v]) : l[i]? = some v := by
  have : ((l.drop i).take 1)[0]? = some v := by rw [h]; rfl
  simpa using this

/-- Cells read one behind another lie there. -/
theorem range_of_cells {w : World} {base n : Nat} {a : Addr} {cs : List Value} (h : w.cells? base a n = some cs) (hn : 0 < n) : a.spot = none ∧ w.rangeAt a.block a.off cs := by
  unfold World.cells? at h
  split at h
  · have hl := mapM_some_length h
    have hg := fun i (hi : i < n) => mapM_some_get h i i (by simp [hi])
    have hlen : cs.length = n := by simpa using hl
    have h0 := hg 0 hn
    rw [List.getElem?_eq_getElem (by omega)] at h0
    have hsp : a.spot = none := by
      have : w.cell? a = some _ := h0
      unfold World.cell? at this
      split at this
      · split at this
        · cases this
        · rename_i hs; simpa using hs
      · cases this
    refine ⟨hsp, fun j v hv => ?_⟩
    have hj : j < n := by
      have := (List.getElem?_eq_some_iff.1 hv).1
      omega
    have hc := hg j hj
    rw [hv] at hc
    obtain ⟨b, o, sp⟩ := a
    simp only at hsp
    subst hsp
    rw [Addr.add_mid] at hc
    exact hc
  · cases h

theorem four_of_trod {H : Type} {enc : TypeId × Value → H} {w : World} {base : Nat} {spare : Nat → Bool} {held : Bool} {fuel : Nat} {cs : List Value} {x : DataW H × List MemPlace} (h : DataW.trod enc Yba.prog w base spare held fuel 69 cs = some x) :
    ∃ q : Int × Ent, cs[0]? = some (.int .i32 q.1) ∧ cs[1]? = some (.int .u32 q.2.1) ∧ cs[2]? = some (.int .u32 q.2.2.1) ∧ cs[3]? = some (.int .u32 q.2.2.2) := by
  obtain ⟨xs, n, -, -, hl, hx, hf⟩ := DataW.trod_struct Yba.underlying69 h
  have hx' : xs.length = 4 := hx
  have h0 := hf 0 _ rfl
  have h1 := hf 1 _ rfl
  have h2 := hf 2 _ rfl
  have h3 := hf 3 _ rfl
  rw [List.getElem?_eq_getElem (by omega)] at h0 h1 h2 h3
  obtain ⟨a, e0, -, -⟩ := DataW.trod_int Yba.underlying21 h0
  obtain ⟨b, e1, -, -⟩ := DataW.trod_int Yba.underlying31 h1
  obtain ⟨c, e2, -, -⟩ := DataW.trod_int Yba.underlying31 h2
  obtain ⟨d, e3, -, -⟩ := DataW.trod_int Yba.underlying31 h3
  have e0' : (cs.drop 0).take (Yba.prog.cellsOf 21) = [.int .i32 a] := e0
  have e1' : (cs.drop 1).take (Yba.prog.cellsOf 31) = [.int .u32 b] := e1
  have e2' : (cs.drop 2).take (Yba.prog.cellsOf 31) = [.int .u32 c] := e2
  have e3' : (cs.drop 3).take (Yba.prog.cellsOf 31) = [.int .u32 d] := e3
  rw [cells21] at e0'
  rw [cells31] at e1' e2' e3'
  exact ⟨(a, b, c, d), at_of_take e0', at_of_take e1', at_of_take e2', at_of_take e3'⟩

theorem kv_of_trod {H : Type} {enc : TypeId × Value → H} {w : World} {base : Nat} {spare : Nat → Bool} {held : Bool} {fuel : Nat} {a : Option Addr} {len cap : Nat} {x : DataW H × List MemPlace}
    (h : DataW.trod enc Yba.prog w base spare held fuel 66 [.slice a len cap] = some x) : ∃ K E, KV w a len K E := by
  rcases Deep.open_slice Yba.underlying66 h with ⟨hcs, -⟩ | ⟨a', len', cap', m, n, D, Pl, hcs, -, hle, -, hm, -, hel⟩
  · simp at hcs
    obtain ⟨rfl, rfl, rfl⟩ := hcs
    exact ⟨fun _ => 0, fun _ => zeroE, fun i hi => absurd hi (Nat.not_lt_zero _)⟩
  · simp at hcs
    obtain ⟨rfl, rfl, rfl⟩ := hcs
    have hml : len ≤ m := by rw [hm]; split <;> omega
    rw [cells69] at hel
    obtain ⟨b, off, sp⟩ := a'
    have each : ∀ i, i < m → ∃ q : Int × Ent, sp = none ∧ w.cell? ⟨b, off + i * 4, none⟩ = some (.int .i32 q.1) ∧ w.cell? ⟨b, off + i * 4 + 1, none⟩ = some (.int .u32 q.2.1) ∧ w.cell? ⟨b, off + i * 4 + 2, none⟩ = some (.int .u32 q.2.2.1) ∧ w.cell? ⟨b, off + i * 4 + 3, none⟩ = some (.int .u32 q.2.2.2) := fun i hi => by
      obtain ⟨cs', hc, ht⟩ := hel i hi
      obtain ⟨q, q0, q1, q2, q3⟩ := four_of_trod ht
      have hsp' : sp = none := by
        obtain ⟨cs0, hc0, -⟩ := hel 0 (by omega)
        have := (range_of_cells hc0 (by omega)).1
        simpa [Addr.add] using this
      subst hsp'
      obtain ⟨-, hr⟩ := range_of_cells hc (by omega)
      rw [Addr.add_mid] at hr
      exact ⟨q, rfl, hr 0 _ q0, hr 1 _ q1, hr 2 _ q2, hr 3 _ q3⟩
    obtain ⟨q, hq⟩ := Deep.choose_lt each
    exact ⟨fun i => (q i).1, fun i => (q i).2, fun i hi => by
      obtain ⟨rfl, g⟩ := hq i (by omega)
      exact ⟨b, off, rfl, g⟩⟩

set_option maxRecDepth 100000 in
theorem lifted (os : Os) (started : os.Started) (H : Type) (enc : TypeId × Value → H) :
    ReturnsInHanded {} Yba.checked os 5 .any (Rows.lawS4567CModelSpec.pre6 enc Yba.prog Yba.f5 Rows.lawS4567CModelRow.domain false) (Rows.lawS4567CModelSpec.post enc Yba.prog Yba.f5 false true false false) := by
  refine returnsInHanded_of_change (C := Yba.checked) own started (by kernel_rfl) Yba.func5
    (ChangeSpec.witness6 (enc := enc) (C := Yba.checked) false ⟨#[], #[.slice none 0 0, .int .i32 0, .int .u32 0, .int .u32 0, .int .u32 0, .bool false], []⟩ 8 (by kernel_rfl) (by kernel_rfl) (by kernel_rfl) (by kernel_rfl)) ?_
  intro W base args ds gs before hval0 hW hcnd _
  have hval : ∀ (j : Nat) t v, Yba.f5.params[j]? = some t → args[j]? = some v → Value.okWide Yba.prog W .any base t v := hval0
  have hW' := hW
  obtain ⟨p, q, hA0, hV, rfl, hfz, hnd⟩ := hW
  have hA : DataW.TrodAll enc Yba.prog W 0 (fun _ => true) true Yba.f5.params.toList args.toList ds p := hA0
  rw [Yba.params5] at hA hval
  obtain ⟨v0, vs0, d0, ds0, p0, q0, hargs, rfl, rfl, h0, r0⟩ := trodAll_cons hA
  obtain ⟨v1, vs1, d1, ds1, p1, q1, rfl, rfl, rfl, h1, r1⟩ := trodAll_cons r0
  obtain ⟨v2, vs2, d2, ds2, p2, q2, rfl, rfl, rfl, h2, r2⟩ := trodAll_cons r1
  obtain ⟨v3, vs3, d3, ds3, p3, q3, rfl, rfl, rfl, h3, r3⟩ := trodAll_cons r2
  obtain ⟨v4, vs4, d4, ds4, p4, q4, rfl, rfl, rfl, h4, r4⟩ := trodAll_cons r3
  obtain ⟨v5, vs5, d5, ds5, p5, q5, rfl, rfl, rfl, h5, r5⟩ := trodAll_cons r4
  obtain ⟨rfl, rfl, rfl⟩ := trodAll_nil r5
  obtain rfl : args = #[v0, v1, v2, v3, v4, v5] := by cases args; simp_all
  obtain ⟨rfl, rfl⟩ := trodVars_none hV
  obtain ⟨a0, len0, cap0, rfl⟩ := okWide_slice Yba.underlying66 (hval 0 66 v0 rfl rfl)
  obtain ⟨a1, rfl, rfl, rfl, w1⟩ := open_int Yba.underlying21 (hval 1 21 v1 rfl rfl) h1
  obtain ⟨a2, rfl, rfl, rfl, w2⟩ := open_int Yba.underlying31 (hval 2 31 v2 rfl rfl) h2
  obtain ⟨a3, rfl, rfl, rfl, w3⟩ := open_int Yba.underlying31 (hval 3 31 v3 rfl rfl) h3
  obtain ⟨a4, rfl, rfl, rfl, w4⟩ := open_int Yba.underlying31 (hval 4 31 v4 rfl rfl) h4
  obtain ⟨a5, rfl, rfl, rfl⟩ := open_bool Yba.underlying4 (hval 5 4 v5 rfl rfl) h5
  have k0 := h0
  have lt0 : ∀ x ∈ p0, x.block < W.heap.size := by obtain ⟨m, hm⟩ := k0; exact DataW.trod_lt m _ _ _ hm
  have walk : Calls Yba.prog 5 #[.slice a0 len0 cap0, .int .i32 a1, .int .u32 a2, .int .u32 a3, .int .u32 a4, .bool a5] W fun e w' => e = .returned (.bool true) ∧ Below W.heap.size W w' := by
    by_cases hl : 1024 < len0
    · exact model_long a0 len0 cap0 a1 a2 a3 a4 a5 W hl
    · obtain ⟨fuel, hf⟩ := h0
      obtain ⟨K, E, hKV⟩ := kv_of_trod hf
      by_cases hn : a5 = true → 0 < len0
      · exact model_made a0 len0 cap0 K E a1 (a2, a3, a4) a5 W (by omega) hn hKV
      · have h5 : a5 = true := Classical.byContradiction fun h => hn fun h' => absurd h' h
        have hz : len0 = 0 := Classical.byContradiction fun h => hn fun _ => by omega
        subst h5 hz
        exact model_nil a0 cap0 a1 (a2, a3, a4) W
  clear hA0 hval0
  refine walk.mono fun e W' ⟨he, bel⟩ => ?_
  subst he
  exact ⟨_, rfl, _, _, _, [], _, [], hW', trodAll_mk1 (shut_bool Yba.underlying4 _), (trodAll_cons_mk (Below.trod laidOut (by kernel_rfl) (of_decide_eq_true (by kernel_rfl)) k0 bel lt0) (trodAll_cons_mk (shut_int Yba.underlying21 w1) (trodAll_cons_mk (shut_int Yba.underlying31 w2) (trodAll_cons_mk (shut_int Yba.underlying31 w3) (trodAll_cons_mk (shut_int Yba.underlying31 w4) (trodAll_cons_mk (shut_bool Yba.underlying4 _) trodAll_mk0)))))), rfl, bel.frame _, fun h => by cases h⟩

theorem over : Rows.lawS4567CModelRow.holds Yba.pinned (OpenSpec.ofChange Rows.lawS4567CModelSpec) :=
  OpenClaim.holds_of_wide 5 Yba.f5 rfl rfl rfl rfl rfl rfl rfl ⟨rfl, rfl, rfl, rfl, rfl⟩ rfl rfl rfl rfl rfl (by kernel_rfl) Yba.func5 (by kernel_rfl)
    (of_decide_eq_true (by kernel_rfl)) (by unfold Func.isWrapper; first | (rw [if_pos (by decide +kernel)]; kernel_rfl) | (rw [if_neg (by decide +kernel)]; exact ⟨rfl, rfl⟩))
    (fun os started H enc _ => lifted os started H enc)

/-- THE STATEMENT -/
theorem proved : Rows.LawS4567CModelSaid :=
  over
#print axioms proved
end Go.Proofs.Ybulkcpoe.lawS4567CModel
