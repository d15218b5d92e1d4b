import Derived.Test.YbulkcpmoDoorWith
namespace Go.Proofs.YbulkcpmoDoor
open Go.RowKit Go.MuLone
set_option linter.unusedVariables false
set_option linter.unusedSimpArgs false

/-- The code behind the first statements of a sequence. -/
def dropSeq : Nat → Code → Code
  | 0, c => c
  | k + 1, .seq _ b => dropSeq k b
  | _ + 1, c => c

/-- No cell of the block is shared with a string. -/
def Fz (w : World) (b : Nat) : Prop := ∀ o, w.frozen? ⟨b, o, none⟩ = false
theorem Fz.wr {w w' : World} {L : List (Addr × Value)} {b : Nat} (h : Fz w b) (hW : Wr L w w') (hb : b < w.heap.size) : Fz w' b := fun o => (hW.froz ⟨b, o, none⟩ hb).trans (h o)

/-- The blocks on the road are six different ones (the worker may be the last one itself). -/
structure Six (bl ia pa pl wk lw : Nat) : Prop where
  blia : bl ≠ ia
  blpa : bl ≠ pa
  blpl : bl ≠ pl
  blwk : bl ≠ wk
  bllw : bl ≠ lw
  iapa : ia ≠ pa
  iapl : ia ≠ pl
  iawk : ia ≠ wk
  ialw : ia ≠ lw
  papl : pa ≠ pl
  pawk : pa ≠ wk
  palw : pa ≠ lw
  plwk : pl ≠ wk
  pllw : pl ≠ lw

/-- What withdraw finds once the worker may take a processor. -/
structure Found (w : World) (bl ia pa pl wk lw k m s : Nat) (x : Int) (v0 v1 v2 v4 v5 u v : Value) : Prop where
  six : Six bl ia pa pl wk lw
  pos : 0 < bl ∧ 0 < ia ∧ 0 < pl
  last : (wk ≠ lw ∧ s < m) ∨ (wk = lw ∧ s = m)
  km : k < 8 ∧ m < 8
  g : w.cell? ⟨0, 0, none⟩ = some (.bool false)
  l6 : w.cell? ⟨bl, 6, none⟩ = some (.int .i32 1)
  l8 : w.cell? ⟨bl, 8, none⟩ = some (.slice (some ⟨ia, 0, none⟩) (k + 1) (k + 1))
  l9 : w.cell? ⟨bl, 9, none⟩ = some (.slice (some ⟨pa, 0, none⟩) (m + 1) (m + 1))
  l11 : w.cell? ⟨bl, 11, none⟩ = some (.int .i32 ((k : Int) + 1))
  ik : w.cell? ⟨ia, k, none⟩ = some (.pointer (some ⟨pl, 0, none⟩))
  st : w.cell? ⟨pl, 260, none⟩ = some (.int .u64 x)
  c0 : w.cell? ⟨wk, 0, none⟩ = some v0
  c1 : w.cell? ⟨wk, 1, none⟩ = some v1
  c2 : w.cell? ⟨wk, 2, none⟩ = some v2
  c4 : w.cell? ⟨wk, 4, none⟩ = some v4
  c5 : w.cell? ⟨wk, 5, none⟩ = some v5
  c8 : w.cell? ⟨wk, 8, none⟩ = some (.int .i64 (s : Int))
  pm : w.cell? ⟨pa, m, none⟩ = some (.pointer (some ⟨lw, 0, none⟩))
  ps : w.cell? ⟨pa, s, none⟩ = some u
  lv : w.cell? ⟨lw, 8, none⟩ = some v
  fz : Fz w bl ∧ Fz w ia ∧ Fz w pa ∧ Fz w pl ∧ Fz w wk ∧ Fz w lw

/-- All that withdraw writes from there on. -/
def writes (bl ia pa pl wk lw k m s : Nat) (x : Int) : List (Addr × Value) :=
  [(⟨bl, 6, none⟩, .int .i32 0)] ++ ([(⟨wk, 8, none⟩, .int .i64 (-1)), (⟨bl, 9, none⟩, .slice (some ⟨pa, 0, none⟩) m (m + 1)), (⟨pa, m, none⟩, .pointer none), (⟨lw, 8, none⟩, .int .i64 (s : Int)), (⟨pa, s, none⟩, .pointer (some ⟨lw, 0, none⟩))] ++
    ([(⟨wk, 4, none⟩, .nilFunc), (⟨wk, 5, none⟩, .bool false), (⟨wk, 2, none⟩, .bool true), (⟨wk, 1, none⟩, .int .u64 (renew x)), (⟨wk, 0, none⟩, .pointer (some ⟨pl, 0, none⟩))] ++
      [(⟨pl, 260, none⟩, .int .u64 (renew x)), (⟨bl, 11, none⟩, .int .i32 (k : Int)), (⟨bl, 8, none⟩, .slice (some ⟨ia, 0, none⟩) k (k + 1)), (⟨ia, k, none⟩, .pointer none), (⟨ia, k, none⟩, .pointer (some ⟨pl, 0, none⟩))]))

set_option maxRecDepth 100000 in
set_option maxHeartbeats 4000000 in
theorem with_rest {bl ia pa pl wk lw k m s : Nat} {x : Int} {v0 v1 v2 v4 v5 u v : Value} {w0 w : World} {L : List (Addr × Value)} {x2 x3 x4 x5 x6 x7 x8 x9 x10 x11 x12 x13 x14 x15 x16 x17 x18 x19 x20 x21 x22 x23 x24 x25 x26 x27 x28 x29 x30 x31 x32 x33 x34 x35 x36 x37 x38 x39 x40 x41 x42 x43 x44 x45 x46 x47 x48 x49 x50 x51 x52 x53 x54 x55 x56 x57 x58 : Value} (HF : Hid (Found w bl ia pa pl wk lw k m s x v0 v1 v2 v4 v5 u v)) (HW : Hid (Wr L w0 w)) :
    Code.wp Ybad.prog (dropSeq 4 (Ybad.f8.body.getD .skip)) (bodyPost Ybad.prog Ybad.f8 fun e w' => e = .returned (.bool true) ∧ Wr (writes bl ia pa pl wk lw k m s x ++ L) w0 w') ⟨#[.pointer (some ⟨bl, 0, none⟩), .pointer (some ⟨wk, 0, none⟩), x2, x3, x4, x5, x6, x7, x8, x9, x10, x11, x12, x13, x14, x15, x16, x17, x18, x19, x20, x21, x22, x23, x24, x25, x26, x27, x28, x29, x30, x31, x32, x33, x34, x35, x36, x37, x38, x39, x40, x41, x42, x43, x44, x45, x46, x47, x48, x49, x50, x51, x52, x53, x54, x55, x56, x57, x58], []⟩ w := by
  conv => arg 2; whnf
  have hl8 := HF.out.l8
  obtain ⟨hk, hm⟩ := HF.out.km
  have F := HF.out
  have HB : Hid (bl < w.heap.size ∧ ia < w.heap.size ∧ pa < w.heap.size ∧ pl < w.heap.size ∧ wk < w.heap.size ∧ lw < w.heap.size) := ⟨World.block_lt_of_cell? _ _ F.l8, World.block_lt_of_cell? _ _ F.ik, World.block_lt_of_cell? _ _ F.pm, World.block_lt_of_cell? _ _ F.st, World.block_lt_of_cell? _ _ F.c0, World.block_lt_of_cell? _ _ F.lv⟩
  clear F
  go_wp2_with fail
  refine (takeIdle bl ia pl k x w HF.out.g HF.out.pos.1 HF.out.pos.2.1 HF.out.pos.2.2 HF.out.six.blia HF.out.six.blpl HF.out.six.iapl HF.out.l8 HF.out.ik HF.out.l11 HF.out.st (HF.out.fz.1 8) (HF.out.fz.2.1 k) (HF.out.fz.1 11) (HF.out.fz.2.2.2.1 260) hk).mono ?_
  rintro e w1 ⟨rfl, W1⟩
  have HW1 : Hid (Wr _ w w1) := W1
  clear W1
  go_wp2_with fail
  obtain ⟨qbl, qia, qpa, qpl, qwk, qlw⟩ := HB.out
  refine (wtake wk pl (renew x) v0 v1 v2 v4 v5 w1 HF.out.six.plwk.symm (HW1.out.miss HF.out.c0 (by simp [look, HF.out.six.blia, HF.out.six.blia.symm, HF.out.six.blpa, HF.out.six.blpa.symm, HF.out.six.blpl, HF.out.six.blpl.symm, HF.out.six.blwk, HF.out.six.blwk.symm, HF.out.six.bllw, HF.out.six.bllw.symm, HF.out.six.iapa, HF.out.six.iapa.symm, HF.out.six.iapl, HF.out.six.iapl.symm, HF.out.six.iawk, HF.out.six.iawk.symm, HF.out.six.ialw, HF.out.six.ialw.symm, HF.out.six.papl, HF.out.six.papl.symm, HF.out.six.pawk, HF.out.six.pawk.symm, HF.out.six.palw, HF.out.six.palw.symm, HF.out.six.plwk, HF.out.six.plwk.symm, HF.out.six.pllw, HF.out.six.pllw.symm])) (HW1.out.miss HF.out.c1 (by simp [look, HF.out.six.blia, HF.out.six.blia.symm, HF.out.six.blpa, HF.out.six.blpa.symm, HF.out.six.blpl, HF.out.six.blpl.symm, HF.out.six.blwk, HF.out.six.blwk.symm, HF.out.six.bllw, HF.out.six.bllw.symm, HF.out.six.iapa, HF.out.six.iapa.symm, HF.out.six.iapl, HF.out.six.iapl.symm, HF.out.six.iawk, HF.out.six.iawk.symm, HF.out.six.ialw, HF.out.six.ialw.symm, HF.out.six.papl, HF.out.six.papl.symm, HF.out.six.pawk, HF.out.six.pawk.symm, HF.out.six.palw, HF.out.six.palw.symm, HF.out.six.plwk, HF.out.six.plwk.symm, HF.out.six.pllw, HF.out.six.pllw.symm])) (HW1.out.miss HF.out.c2 (by simp [look, HF.out.six.blia, HF.out.six.blia.symm, HF.out.six.blpa, HF.out.six.blpa.symm, HF.out.six.blpl, HF.out.six.blpl.symm, HF.out.six.blwk, HF.out.six.blwk.symm, HF.out.six.bllw, HF.out.six.bllw.symm, HF.out.six.iapa, HF.out.six.iapa.symm, HF.out.six.iapl, HF.out.six.iapl.symm, HF.out.six.iawk, HF.out.six.iawk.symm, HF.out.six.ialw, HF.out.six.ialw.symm, HF.out.six.papl, HF.out.six.papl.symm, HF.out.six.pawk, HF.out.six.pawk.symm, HF.out.six.palw, HF.out.six.palw.symm, HF.out.six.plwk, HF.out.six.plwk.symm, HF.out.six.pllw, HF.out.six.pllw.symm])) (HW1.out.miss HF.out.c4 (by simp [look, HF.out.six.blia, HF.out.six.blia.symm, HF.out.six.blpa, HF.out.six.blpa.symm, HF.out.six.blpl, HF.out.six.blpl.symm, HF.out.six.blwk, HF.out.six.blwk.symm, HF.out.six.bllw, HF.out.six.bllw.symm, HF.out.six.iapa, HF.out.six.iapa.symm, HF.out.six.iapl, HF.out.six.iapl.symm, HF.out.six.iawk, HF.out.six.iawk.symm, HF.out.six.ialw, HF.out.six.ialw.symm, HF.out.six.papl, HF.out.six.papl.symm, HF.out.six.pawk, HF.out.six.pawk.symm, HF.out.six.palw, HF.out.six.palw.symm, HF.out.six.plwk, HF.out.six.plwk.symm, HF.out.six.pllw, HF.out.six.pllw.symm])) (HW1.out.miss HF.out.c5 (by simp [look, HF.out.six.blia, HF.out.six.blia.symm, HF.out.six.blpa, HF.out.six.blpa.symm, HF.out.six.blpl, HF.out.six.blpl.symm, HF.out.six.blwk, HF.out.six.blwk.symm, HF.out.six.bllw, HF.out.six.bllw.symm, HF.out.six.iapa, HF.out.six.iapa.symm, HF.out.six.iapl, HF.out.six.iapl.symm, HF.out.six.iawk, HF.out.six.iawk.symm, HF.out.six.ialw, HF.out.six.ialw.symm, HF.out.six.papl, HF.out.six.papl.symm, HF.out.six.pawk, HF.out.six.pawk.symm, HF.out.six.palw, HF.out.six.palw.symm, HF.out.six.plwk, HF.out.six.plwk.symm, HF.out.six.pllw, HF.out.six.pllw.symm])) (HW1.out.hit HF.out.st (look_hit _ _ _))
    (HF.out.fz.2.2.2.2.1.wr HW1.out qwk 0) (HF.out.fz.2.2.2.2.1.wr HW1.out qwk 1) (HF.out.fz.2.2.2.2.1.wr HW1.out qwk 2) (HF.out.fz.2.2.2.2.1.wr HW1.out qwk 4) (HF.out.fz.2.2.2.2.1.wr HW1.out qwk 5)).mono ?_
  rintro e w2 ⟨rfl, W2⟩
  have HW2 : Hid (Wr _ w w2) := HW1.out.trans W2
  clear W2 qbl qia qpa qpl qwk qlw HW1
  go_wp2_with fail
  obtain ⟨qbl, qia, qpa, qpl, qwk, qlw⟩ := HB.out
  refine (unpark_any bl pa wk lw m s u v w2 HF.out.six.blpa HF.out.six.blwk HF.out.six.bllw HF.out.six.pawk HF.out.six.palw HF.out.last hm (HW2.out.miss HF.out.l9 (by simp [look, HF.out.six.blia, HF.out.six.blia.symm, HF.out.six.blpa, HF.out.six.blpa.symm, HF.out.six.blpl, HF.out.six.blpl.symm, HF.out.six.blwk, HF.out.six.blwk.symm, HF.out.six.bllw, HF.out.six.bllw.symm, HF.out.six.iapa, HF.out.six.iapa.symm, HF.out.six.iapl, HF.out.six.iapl.symm, HF.out.six.iawk, HF.out.six.iawk.symm, HF.out.six.ialw, HF.out.six.ialw.symm, HF.out.six.papl, HF.out.six.papl.symm, HF.out.six.pawk, HF.out.six.pawk.symm, HF.out.six.palw, HF.out.six.palw.symm, HF.out.six.plwk, HF.out.six.plwk.symm, HF.out.six.pllw, HF.out.six.pllw.symm])) (HW2.out.miss HF.out.pm (by simp [look, HF.out.six.blia, HF.out.six.blia.symm, HF.out.six.blpa, HF.out.six.blpa.symm, HF.out.six.blpl, HF.out.six.blpl.symm, HF.out.six.blwk, HF.out.six.blwk.symm, HF.out.six.bllw, HF.out.six.bllw.symm, HF.out.six.iapa, HF.out.six.iapa.symm, HF.out.six.iapl, HF.out.six.iapl.symm, HF.out.six.iawk, HF.out.six.iawk.symm, HF.out.six.ialw, HF.out.six.ialw.symm, HF.out.six.papl, HF.out.six.papl.symm, HF.out.six.pawk, HF.out.six.pawk.symm, HF.out.six.palw, HF.out.six.palw.symm, HF.out.six.plwk, HF.out.six.plwk.symm, HF.out.six.pllw, HF.out.six.pllw.symm])) (HW2.out.miss HF.out.ps (by simp [look, HF.out.six.blia, HF.out.six.blia.symm, HF.out.six.blpa, HF.out.six.blpa.symm, HF.out.six.blpl, HF.out.six.blpl.symm, HF.out.six.blwk, HF.out.six.blwk.symm, HF.out.six.bllw, HF.out.six.bllw.symm, HF.out.six.iapa, HF.out.six.iapa.symm, HF.out.six.iapl, HF.out.six.iapl.symm, HF.out.six.iawk, HF.out.six.iawk.symm, HF.out.six.ialw, HF.out.six.ialw.symm, HF.out.six.papl, HF.out.six.papl.symm, HF.out.six.pawk, HF.out.six.pawk.symm, HF.out.six.palw, HF.out.six.palw.symm, HF.out.six.plwk, HF.out.six.plwk.symm, HF.out.six.pllw, HF.out.six.pllw.symm])) (HW2.out.miss HF.out.c8 (by simp [look, HF.out.six.blia, HF.out.six.blia.symm, HF.out.six.blpa, HF.out.six.blpa.symm, HF.out.six.blpl, HF.out.six.blpl.symm, HF.out.six.blwk, HF.out.six.blwk.symm, HF.out.six.bllw, HF.out.six.bllw.symm, HF.out.six.iapa, HF.out.six.iapa.symm, HF.out.six.iapl, HF.out.six.iapl.symm, HF.out.six.iawk, HF.out.six.iawk.symm, HF.out.six.ialw, HF.out.six.ialw.symm, HF.out.six.papl, HF.out.six.papl.symm, HF.out.six.pawk, HF.out.six.pawk.symm, HF.out.six.palw, HF.out.six.palw.symm, HF.out.six.plwk, HF.out.six.plwk.symm, HF.out.six.pllw, HF.out.six.pllw.symm])) (HW2.out.miss HF.out.lv (by simp [look, HF.out.six.blia, HF.out.six.blia.symm, HF.out.six.blpa, HF.out.six.blpa.symm, HF.out.six.blpl, HF.out.six.blpl.symm, HF.out.six.blwk, HF.out.six.blwk.symm, HF.out.six.bllw, HF.out.six.bllw.symm, HF.out.six.iapa, HF.out.six.iapa.symm, HF.out.six.iapl, HF.out.six.iapl.symm, HF.out.six.iawk, HF.out.six.iawk.symm, HF.out.six.ialw, HF.out.six.ialw.symm, HF.out.six.papl, HF.out.six.papl.symm, HF.out.six.pawk, HF.out.six.pawk.symm, HF.out.six.palw, HF.out.six.palw.symm, HF.out.six.plwk, HF.out.six.plwk.symm, HF.out.six.pllw, HF.out.six.pllw.symm]))
    (HF.out.fz.1.wr HW2.out qbl 9) (HF.out.fz.2.2.1.wr HW2.out qpa m) (HF.out.fz.2.2.1.wr HW2.out qpa s) (HF.out.fz.2.2.2.2.1.wr HW2.out qwk 8) (HF.out.fz.2.2.2.2.2.wr HW2.out qlw 8)).mono ?_
  rintro e w3 ⟨rfl, W3⟩
  have HW3 : Hid (Wr _ w w3) := HW2.out.trans W3
  clear W3 qbl qia qpa qpl qwk qlw HW2
  go_wp2_with fail
  obtain ⟨qbl, qia, qpa, qpl, qwk, qlw⟩ := HB.out
  have h6 : w3.cell? ⟨bl, 6, none⟩ = some (.int .i32 1) := HW3.out.miss HF.out.l6 (by simp [look, HF.out.six.blia, HF.out.six.blia.symm, HF.out.six.blpa, HF.out.six.blpa.symm, HF.out.six.blpl, HF.out.six.blpl.symm, HF.out.six.blwk, HF.out.six.blwk.symm, HF.out.six.bllw, HF.out.six.bllw.symm, HF.out.six.iapa, HF.out.six.iapa.symm, HF.out.six.iapl, HF.out.six.iapl.symm, HF.out.six.iawk, HF.out.six.iawk.symm, HF.out.six.ialw, HF.out.six.ialw.symm, HF.out.six.papl, HF.out.six.papl.symm, HF.out.six.pawk, HF.out.six.pawk.symm, HF.out.six.palw, HF.out.six.palw.symm, HF.out.six.plwk, HF.out.six.plwk.symm, HF.out.six.pllw, HF.out.six.pllw.symm])
  have HW4 := HW3.out.set h6 (.int .i32 0)
  refine (unlock_held Ybad.muLib ⟨bl, 6, none⟩ _ h6 (HF.out.fz.1.wr HW3.out qbl 6)).mono ?_
  rintro e w4 ⟨rfl, rfl⟩
  have HW5 : Hid (Wr _ w0 _) := HW.out.trans HW4
  clear HW4 h6 qbl qia qpa qpl qwk qlw HW3
  go_wp2_with fail
  go_ret
  exact ⟨rfl, HW5.out⟩
end Go.Proofs.YbulkcpmoDoor
