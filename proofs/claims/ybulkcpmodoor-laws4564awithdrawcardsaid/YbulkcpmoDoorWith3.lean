import Derived.Test.YbulkcpmoDoorWith2
namespace Go.Proofs.YbulkcpmoDoor
open Go.RowKit Go.MuLone
set_option linter.unusedVariables false
set_option linter.unusedSimpArgs false

/-- What withdraw finds at its beginning, a processor idle and the worker parked. -/
structure Ready (w : World) (bl ia pa pl wk lw k m s : Nat) (x P n : Int) (po : Option Addr) (v1 v4 v5 u v : Value) (sr : Bool) : Prop where
  six : Six bl ia pa pl wk lw
  pos : 0 < bl ∧ 0 < ia ∧ 0 < pl ∧ 0 < wk
  last : (wk ≠ lw ∧ s < m) ∨ (wk = lw ∧ s = m)
  km : k < 7 ∧ m < 8
  nums : (0 ≤ P ∧ P < 16) ∧ (0 ≤ n ∧ n < 12)
  g : w.cell? ⟨0, 0, none⟩ = some (.bool false)
  l0 : w.cell? ⟨bl, 0, none⟩ = some (.int .i64 P)
  l6 : w.cell? ⟨bl, 6, none⟩ = some (.int .i32 0)
  l8 : w.cell? ⟨bl, 8, none⟩ = some (.slice (some ⟨ia, 0, none⟩) (k + 1) (k + 1))
  l9 : w.cell? ⟨bl, 9, none⟩ = some (.slice (some ⟨pa, 0, none⟩) (m + 1) (m + 1))
  l11 : w.cell? ⟨bl, 11, none⟩ = some (.int .i32 ((k : Int) + 1))
  l13 : w.cell? ⟨bl, 13, none⟩ = some (.int .i32 n)
  ik : w.cell? ⟨ia, k, none⟩ = some (.pointer (some ⟨pl, 0, none⟩))
  st : w.cell? ⟨pl, 260, none⟩ = some (.int .u64 x)
  c0 : w.cell? ⟨wk, 0, none⟩ = some (.pointer po)
  c1 : w.cell? ⟨wk, 1, none⟩ = some v1
  c2 : w.cell? ⟨wk, 2, none⟩ = some (.bool sr)
  c4 : w.cell? ⟨wk, 4, none⟩ = some v4
  c5 : w.cell? ⟨wk, 5, none⟩ = some v5
  c8 : w.cell? ⟨wk, 8, none⟩ = some (.int .i64 (s : Int))
  pm : w.cell? ⟨pa, m, none⟩ = some (.pointer (some ⟨lw, 0, none⟩))
  ps : w.cell? ⟨pa, s, none⟩ = some u
  lv : w.cell? ⟨lw, 8, none⟩ = some v
  fz : Fz w bl ∧ Fz w ia ∧ Fz w pa ∧ Fz w pl ∧ Fz w wk ∧ Fz w lw

/-- Behind the head of withdraw: the lock taken; the count and the worker's mark perhaps written. -/
theorem Ready.found {w w' : World} {bl ia pa pl wk lw k m s : Nat} {x P n : Int} {po : Option Addr} {v1 v4 v5 u v v2 : Value} {sr : Bool} {L : List (Addr × Value)} (R : Ready w bl ia pa pl wk lw k m s x P n po v1 v4 v5 u v sr)
    (W : Wr L w w') (hL : ∀ a : Addr, a ≠ ⟨bl, 6, none⟩ → a ≠ ⟨bl, 13, none⟩ → a ≠ ⟨wk, 2, none⟩ → look L a = none) (h6 : w'.cell? ⟨bl, 6, none⟩ = some (.int .i32 1)) (h2 : w'.cell? ⟨wk, 2, none⟩ = some v2) :
    Found w' bl ia pa pl wk lw k m s x (.pointer po) v1 v2 v4 v5 u v := by
  obtain ⟨p1, p2, p3, p4⟩ := R.pos
  have q1 := World.block_lt_of_cell? _ _ R.l8
  have q2 := World.block_lt_of_cell? _ _ R.ik
  have q3 := World.block_lt_of_cell? _ _ R.pm
  have q4 := World.block_lt_of_cell? _ _ R.st
  have q5 := World.block_lt_of_cell? _ _ R.c0
  have q6 := World.block_lt_of_cell? _ _ R.lv
  have hpl : pl ≠ wk := R.six.plwk
  have far : ∀ b o, b ≠ bl → b ≠ wk → look L ⟨b, o, none⟩ = none := fun b o h1 h2 => hL _ (by simp [h1]) (by simp [h1]) (by simp [h2])
  have ofl : ∀ o, o ≠ 6 → o ≠ 13 → look L ⟨bl, o, none⟩ = none := fun o h1 h2 => hL _ (by simp [h1]) (by simp [h2]) (by simp [R.six.blwk])
  have ofw : ∀ o, o ≠ 2 → look L ⟨wk, o, none⟩ = none := fun o h1 => hL _ (by simp [R.six.blwk.symm]) (by simp [R.six.blwk.symm]) (by simp [h1])
  have hlv : look L ⟨lw, 8, none⟩ = none := by
    rcases R.last with ⟨h, -⟩ | ⟨h, -⟩
    · exact far lw 8 R.six.bllw.symm (Ne.symm h)
    · rw [← h]; exact ofw 8 (by omega)
  exact ⟨R.six, ⟨p1, p2, p3⟩, R.last, ⟨by have := R.km.1; omega, R.km.2⟩, W.miss R.g (far 0 0 (by omega) (by omega)), h6, W.miss R.l8 (ofl 8 (by omega) (by omega)), W.miss R.l9 (ofl 9 (by omega) (by omega)), W.miss R.l11 (ofl 11 (by omega) (by omega)),
    W.miss R.ik (far ia k R.six.blia.symm R.six.iawk), W.miss R.st (far pl 260 R.six.blpl.symm R.six.plwk), W.miss R.c0 (ofw 0 (by omega)), W.miss R.c1 (ofw 1 (by omega)), h2, W.miss R.c4 (ofw 4 (by omega)), W.miss R.c5 (ofw 5 (by omega)), W.miss R.c8 (ofw 8 (by omega)),
    W.miss R.pm (far pa m R.six.blpa.symm R.six.pawk), W.miss R.ps (far pa s R.six.blpa.symm R.six.pawk), W.miss R.lv hlv,
    ⟨R.fz.1.wr W q1, R.fz.2.1.wr W q2, R.fz.2.2.1.wr W q3, R.fz.2.2.2.1.wr W q4, R.fz.2.2.2.2.1.wr W q5, R.fz.2.2.2.2.2.wr W q6⟩⟩
end Go.Proofs.YbulkcpmoDoor
