/-
  THE PROOF OF 'Rows.LawS4564AWithdrawCardSaid': the walk (YbulkcpmoDoorLaw), lifted to the row (its one listed variable read as the row lays it), then the card by the given tie.
-/
import Derived.Test.YbulkcpmoDoorRows
import Derived.Test.YbulkcpmoDoorTie
import Derived.Test.YbulkcpmoDoorCards
import Derived.Test.YbulkcpmoDoorLaw
import Derived.WalkKit
import Derived.ProofKit
import Derived.Handy
import Derived.Lay
import Derived.ChangeVars
import Derived.OpenShut
import Derived.SevenTiedAt
namespace Go.Proofs.YbulkcpmoDoor.lawS4564AWithdraw
open Go.ChangeShapes Go.WideShapes Go.ChangeAt Go.RowKit
set_option linter.unusedVariables false

theorem own : ownKnob Ybad.prog.godebug = none := by kernel_rfl
/-- The listed variable's name. -/
def nm : String := Rows.lawS4564AWithdrawSpec.vars.headD ""
theorem ci : Ybad.prog.globalNamed nm = some 0 := by kernel_rfl
theorem ciType : (Ybad.prog.globals[0]?).map (·.type) = some 4 := by kernel_rfl

theorem wf_u8 {a : Int} (h : (Lit.int .u8 a).wf = true) : 0 ≤ a ∧ a ≤ 255 := by simp [Lit.wf, IntKind.min, IntKind.max, IntKind.bits, IntKind.signed] at h; omega
theorem wf_u64 {a : Int} (h : (Lit.int .u64 a).wf = true) : 0 ≤ a ∧ a < 18446744073709551616 := by simp [Lit.wf, IntKind.min, IntKind.max, IntKind.bits, IntKind.signed] at h; omega

theorem bool_of_trod {H : Type} {enc : TypeId × Value → H} {P : Program} {w : World} {base : Nat} {sp : Nat → Bool} {held : Bool} {fuel : Nat} {t : TypeId} {l : List Value} {b : Bool} {p : List MemPlace}
    (ht : P.underlying t = some .bool) (h : DataW.trod enc P w base sp held fuel t l = some (.lit (.bool b), p)) : l = [.bool b] := by
  cases fuel with
  | zero => simp [DataW.trod] at h
  | succ fuel =>
    cases l with
    | nil => simp [DataW.trod, ht] at h
    | cons c r =>
      cases r with
      | nil =>
        cases c <;> simp [DataW.trod, ht] at h
        simp [h]
      | cons c2 r => simp [DataW.trod, ht] at h

/-- What the row lays of the variable gives its one cell. -/
theorem cell_of_laid {W : World} (h : laidMetH Ybad.prog Rows.lawS4564AWithdrawRow.laid W) : W.var? Ybad.prog nm = some #[.bool false] := by
  rw [MakeChecks.laidMetH_plain _ _ _ (by kernel_rfl)] at h
  obtain ⟨ps, ⟨g, t, cs, fuel, p, q, hg, ht, hvar, hd, _, _⟩, _⟩ := h
  obtain rfl := Option.some.inj (ci.symm.trans hg)
  obtain rfl := Option.some.inj (ciType.symm.trans ht)
  refine Eq.trans hvar (congrArg some ?_)
  have := bool_of_trod Ybad.underlying4 hd
  exact Array.toList_inj.1 this

theorem reads {H : Type} (enc : TypeId × Value → H) (W : World) (sp : Nat → Bool) : DataW.trod enc Ybad.prog W 0 sp true 3 4 [.bool false] = some (.lit (.bool false), []) := by kernel_rfl

theorem var_below {w w' : World} {n : String} {g B : Nat} {cs : Array Value} (h : w.var? Ybad.prog n = some cs) (hg : Ybad.prog.globalNamed n = some g) (hb : Below B w w') (hlt : g < B) : w'.var? Ybad.prog n = some cs := by
  simp only [World.var?, hg, Option.bind_some] at h ⊢
  rw [hb.block g hlt]
  exact h

theorem walk (a0 a1 a2 a3 a4 a5 : Int) (a6 a7 a8 : Bool) (w0 : (Lit.int .u8 a0).wf = true) (w1 : (Lit.int .u8 a1).wf = true) (w2 : (Lit.int .u8 a2).wf = true) (w3 : (Lit.int .u8 a3).wf = true) (w4 : (Lit.int .u8 a4).wf = true) (w5 : (Lit.int .u64 a5).wf = true) (w : World) (hg : w.cell? ⟨0, 0, none⟩ = some (.bool false)) :
    Calls Ybad.prog 3 #[.int .u8 a0, .int .u8 a1, .int .u8 a2, .int .u8 a3, .int .u8 a4, .int .u64 a5, .bool a6, .bool a7, .bool a8] w fun e w' => e = .returned (.bool true) ∧ Below w.heap.size w w' := by
  obtain ⟨p0, q0⟩ := wf_u8 w0
  obtain ⟨p1, q1⟩ := wf_u8 w1
  obtain ⟨p2, q2⟩ := wf_u8 w2
  obtain ⟨p3, q3⟩ := wf_u8 w3
  obtain ⟨p4, q4⟩ := wf_u8 w4
  obtain ⟨n0, rfl⟩ := Int.eq_ofNat_of_zero_le p0
  obtain ⟨n1, rfl⟩ := Int.eq_ofNat_of_zero_le p1
  obtain ⟨n2, rfl⟩ := Int.eq_ofNat_of_zero_le p2
  obtain ⟨n3, rfl⟩ := Int.eq_ofNat_of_zero_le p3
  obtain ⟨n4, rfl⟩ := Int.eq_ofNat_of_zero_le p4
  exact withdraw_true n0 n1 n2 n3 n4 a5 a6 a7 a8 w (by omega) (by omega) (by omega) (by omega) (by omega) (wf_u64 w5) hg

set_option maxRecDepth 100000 in
theorem lifted (os : Os) (started : os.Started) (H : Type) (enc : TypeId × Value → H) :
    ReturnsInHanded {} Ybad.checked os 3 .any (fun w args => (Rows.lawS4564AWithdrawSpec.pre enc Ybad.prog Ybad.f3 [] false w args ∧ laidMetH Ybad.prog Rows.lawS4564AWithdrawRow.laid w) ∧ sizedMet enc Ybad.prog Ybad.f3 (OpenSpec.ofChange Rows.lawS4564AWithdrawSpec) false w args)
      (Rows.lawS4564AWithdrawSpec.post enc Ybad.prog Ybad.f3 false true false false) := by
  refine returnsInHanded_of_change_and (C := Ybad.checked) (X := fun w _ => laidMetH Ybad.prog Rows.lawS4564AWithdrawRow.laid w) (fun _ _ _ hh h => h.of_heap hh) own started (by kernel_rfl) Ybad.func3
    (ChangeSpec.witness_shaped (enc := enc) (C := Ybad.checked) (os := os) (X := fun w _ => laidMetH Ybad.prog Rows.lawS4564AWithdrawRow.laid w) false (World.laidAll Ybad.prog os Rows.lawS4564AWithdrawRow.laid) #[.int .u8 0, .int .u8 0, .int .u8 0, .int .u8 0, .int .u8 0, .int .u64 0, .bool false, .bool false, .bool false] 8 (World.laidAll_os _ _ _)
      (World.shaped_of_ZipB (by kernel_rfl) (by kernel_rfl)) (by kernel_rfl) (by kernel_rfl) (by kernel_rfl)
      (by rw [MakeChecks.laidMetH_plain _ _ _ (by kernel_rfl)]; exact laidMet_laidAll _ (by kernel_rfl) (by kernel_rfl))) ?_
  intro W base args ds gs before hval0 hW _ _ hL _
  have hval : ∀ (j : Nat) t v, Ybad.f3.params[j]? = some t → args[j]? = some v → Value.okWide Ybad.prog W .any base t v := hval0
  have hW' := hW
  obtain ⟨p, q, hA0, hV0, rfl, hfz, hnd⟩ := hW
  have hA : DataW.TrodAll enc Ybad.prog W 0 (fun _ => true) true Ybad.f3.params.toList args.toList ds p := hA0
  have hV : DataW.TrodVars enc Ybad.prog W (fun _ => true) [nm] gs q := hV0
  rw [Ybad.params3] at hA hval
  obtain ⟨v0, vs0, d0, ds0, p0, q0, hargs, rfl, rfl, h0, r0⟩ := trodAll_cons hA
  obtain ⟨v1, vs1, d1, ds1, p1, q1, rfl, rfl, rfl, h1, r1⟩ := trodAll_cons r0
  obtain ⟨v2, vs2, d2, ds2, p2, q2, rfl, rfl, rfl, h2, r2⟩ := trodAll_cons r1
  obtain ⟨v3, vs3, d3, ds3, p3, q3, rfl, rfl, rfl, h3, r3⟩ := trodAll_cons r2
  obtain ⟨v4, vs4, d4, ds4, p4, q4, rfl, rfl, rfl, h4, r4⟩ := trodAll_cons r3
  obtain ⟨v5, vs5, d5, ds5, p5, q5, rfl, rfl, rfl, h5, r5⟩ := trodAll_cons r4
  obtain ⟨v6, vs6, d6, ds6, p6, q6, rfl, rfl, rfl, h6, r6⟩ := trodAll_cons r5
  obtain ⟨v7, vs7, d7, ds7, p7, q7, rfl, rfl, rfl, h7, r7⟩ := trodAll_cons r6
  obtain ⟨v8, vs8, d8, ds8, p8, q8, rfl, rfl, rfl, h8, r8⟩ := trodAll_cons r7
  obtain ⟨rfl, rfl, rfl⟩ := trodAll_nil r8
  obtain rfl : args = #[v0, v1, v2, v3, v4, v5, v6, v7, v8] := by cases args; simp_all
  obtain ⟨a0, rfl, rfl, rfl, w0⟩ := open_int Ybad.underlying5 (hval 0 5 v0 rfl rfl) h0
  obtain ⟨a1, rfl, rfl, rfl, w1⟩ := open_int Ybad.underlying5 (hval 1 5 v1 rfl rfl) h1
  obtain ⟨a2, rfl, rfl, rfl, w2⟩ := open_int Ybad.underlying5 (hval 2 5 v2 rfl rfl) h2
  obtain ⟨a3, rfl, rfl, rfl, w3⟩ := open_int Ybad.underlying5 (hval 3 5 v3 rfl rfl) h3
  obtain ⟨a4, rfl, rfl, rfl, w4⟩ := open_int Ybad.underlying5 (hval 4 5 v4 rfl rfl) h4
  obtain ⟨a5, rfl, rfl, rfl, w5⟩ := open_int Ybad.underlying22 (hval 5 22 v5 rfl rfl) h5
  obtain ⟨a6, rfl, rfl, rfl⟩ := open_bool Ybad.underlying4 (hval 6 4 v6 rfl rfl) h6
  obtain ⟨a7, rfl, rfl, rfl⟩ := open_bool Ybad.underlying4 (hval 7 4 v7 rfl rfl) h7
  obtain ⟨a8, rfl, rfl, rfl⟩ := open_bool Ybad.underlying4 (hval 8 4 v8 rfl rfl) h8
  obtain ⟨g, t, cs, fuel, d, p', rfl, hg, ht, hvar, hd, rfl⟩ := trodVars_one hV
  obtain rfl := Option.some.inj (ci.symm.trans hg)
  obtain rfl := Option.some.inj (ciType.symm.trans ht)
  obtain rfl : cs = #[.bool false] := Option.some.inj (hvar.symm.trans (cell_of_laid hL))
  obtain ⟨rfl, rfl⟩ : d = .lit (.bool false) ∧ p' = [] := by
    cases fuel with
    | zero => simp [DataW.trod] at hd
    | succ fuel => simp [DataW.trod, Ybad.underlying4] at hd; exact ⟨hd.1.symm, hd.2⟩
  have hc : W.cell? ⟨0, 0, none⟩ = some (.bool false) := World.var?_cell hg hvar 0
  have hlt : 0 < W.heap.size := World.block_lt_of_cell? _ _ hc
  clear hA0 hV0 hval0
  refine (walk a0 a1 a2 a3 a4 a5 a6 a7 a8 w0 w1 w2 w3 w4 w5 W hc).mono fun e W' ⟨he, bel⟩ => ?_
  subst he
  exact ⟨_, rfl, _, _, _, [], _, _, hW', trodAll_mk1 (shut_bool Ybad.underlying4 _), (trodAll_cons_mk (shut_int Ybad.underlying5 w0) (trodAll_cons_mk (shut_int Ybad.underlying5 w1) (trodAll_cons_mk (shut_int Ybad.underlying5 w2) (trodAll_cons_mk (shut_int Ybad.underlying5 w3) (trodAll_cons_mk (shut_int Ybad.underlying5 w4) (trodAll_cons_mk (shut_int Ybad.underlying22 w5) (trodAll_cons_mk (shut_bool Ybad.underlying4 _) (trodAll_cons_mk (shut_bool Ybad.underlying4 _) (trodAll_cons_mk (shut_bool Ybad.underlying4 _) trodAll_mk0))))))))),
    trodVars_mk1 hg ht (var_below hvar hg bel hlt) (reads enc W' _), bel.frame _, fun h => by cases h⟩

theorem row_holds : Rows.LawS4564AWithdrawSaid :=
  OpenClaim.holds_of_wide 3 Ybad.f3 rfl rfl rfl rfl rfl rfl rfl ⟨rfl, rfl, rfl, rfl, rfl⟩ rfl rfl rfl rfl rfl (by kernel_rfl) Ybad.func3 (by kernel_rfl)
    (of_decide_eq_true (by kernel_rfl)) (by unfold Func.isWrapper; first | (rw [if_pos (by decide +kernel)]; kernel_rfl) | (rw [if_neg (by decide +kernel)]; exact ⟨rfl, rfl⟩))
    (fun os started H enc _ => lifted os started H enc)

/-- THE STATEMENT: the tied card. -/
theorem proved : Rows.LawS4564AWithdrawCardSaid :=
  Claim7.holds_tied_plain_at .later [] [.data] true (true, "95223a5fbb6a0579b03b81c6d3da615f57e0f9c38f9be8e26744bdd4417319d8") false row_holds (fun _ h => by cases h) (by kernel_rfl) (fun _ h => by cases h) lawS4564AWithdraw_row_tie rfl ⟨rfl, rfl⟩ (by kernel_rfl) rfl
    (fun f fn hf hfn => by
      obtain rfl : f = 3 := Option.some.inj ((show Ybad.prog.funcNamed Rows.lawS4564AWithdrawRow.func = some 3 by kernel_rfl).symm.trans hf) |>.symm
      obtain rfl : fn = Ybad.f3 := (Option.some.inj (Ybad.func3.symm.trans hfn)).symm
      exact ⟨by kernel_rfl, fun j t ht => by
        rw [Ybad.params3] at ht
        have hm : t ∈ [5, 5, 5, 5, 5, 22, 4, 4, 4] := by simpa using Array.mem_of_getElem? ht
        have hall : ([5, 5, 5, 5, 5, 22, 4, 4, 4].all fun u => !Ybad.prog.wantsStandIn u) = true := by kernel_rfl
        exact (show Ybad.prog.wantsStandIn t = false by simpa using List.all_eq_true.1 hall t hm)⟩)
    (by kernel_rfl)
#print axioms proved
end Go.Proofs.YbulkcpmoDoor.lawS4564AWithdraw
