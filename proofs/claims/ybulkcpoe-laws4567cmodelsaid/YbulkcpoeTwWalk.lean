import Derived.Test.YbulkcpoePut
import Derived.ChangeKeysEq
namespace Go.Proofs.Ybulkcpoe
open Go.RowKit Go.MapKept

theorem Kept.cell {X : Nat → Prop} {w w' : World} (h : Kept X w w') {p : Addr} (hp : p.block < w.heap.size) (hx : ¬ X p.block) {v : Value} (hv : w.cell? p = some v) : w'.cell? p = some v :=
  (World.cell?_of_block (w := w) (h.block p.block hp hx)).trans hv

theorem MapL.alloc {κ : Type} {enc : κ → Value} {W : World} {b : Nat} {l : List (κ × Ent)} (h : MapL enc W b l) (o : Obj) : MapL enc (W.alloc o) b l :=
  h.of_block (Below.heap_alloc W o b h.lt)

theorem eq72 (w : World) (a b a' b' : Int) : (Op.equalIn 9999 72 (.agg #[.int .u32 a, .int .u32 b]) (.agg #[.int .u32 a', .int .u32 b'])).run Yba.prog w = .ok (a == a' && b == b') w := by
  obtain ⟨i, hi⟩ := Option.isSome_iff_exists.1 (show (Yba.prog.info? 31).isSome = true by kernel_rfl)
  rw [run_equalIn_array w 9998 _ _ Yba.underlying72 hi, show Yba.prog.cellsOf 31 = 1 by kernel_rfl]
  by_cases h1 : a = a'
  · by_cases h2 : b = b' <;> simp [List.range_succ, Op.eqItems, go_sem, h1, h2]
  · simp [List.range_succ, Op.eqItems, go_sem, h1]

set_option maxRecDepth 100000 in
set_option maxHeartbeats 2000000 in
theorem twice (k : ByteArray) (p1 a1 b1 p2 a2 b2 : Int) (w : World) :
    Calls Yba.prog 6 #[.string k, .int .u32 p1, .int .u32 a1, .int .u32 b1, .int .u32 p2, .int .u32 a2, .int .u32 b2] w fun e w' => e = .returned (.bool true) ∧ Below w.heap.size w w' := by
  have hn := isnil80
  have h72 := eq72
  go_enter Yba.func6, Yba.ntmps6
  go_wp2_with fail
  refine (ent_makes p1 a1 b1 _).mono ?_
  rintro e w1 ⟨rfl, rfl⟩
  go_wp2_with fail
  refine (ent_makes p2 a2 b2 _).mono ?_
  rintro e w1 ⟨rfl, rfl⟩
  go_wp2_with fail
  refine (putS_nil w.heap.size k (p1, a1, b1) _ (by go_simp) (by go_simp)).mono ?_
  rintro e w1 ⟨rfl, mb, hmb, hcb, hM, hK⟩
  unfold entC zeroE
  have q0 : w1.cell? ⟨w.heap.size + 1 + 1, 0, none⟩ = some (.int .u32 p1) := hK.cell (by simp) (by simp; omega) (by go_simp)
  have q1 : w1.cell? ⟨w.heap.size + 1 + 1, 1, none⟩ = some (.int .u32 a1) := hK.cell (by simp) (by simp; omega) (by go_simp)
  have q2 : w1.cell? ⟨w.heap.size + 1 + 1, 2, none⟩ = some (.int .u32 b1) := hK.cell (by simp) (by simp; omega) (by go_simp)
  have s0 : w1.cell? ⟨w.heap.size + 1 + 1 + 1 + 1, 0, none⟩ = some (.int .u32 p2) := hK.cell (by simp) (by simp; omega) (by go_simp)
  have s1 : w1.cell? ⟨w.heap.size + 1 + 1 + 1 + 1, 1, none⟩ = some (.int .u32 a2) := hK.cell (by simp) (by simp; omega) (by go_simp)
  have s2 : w1.cell? ⟨w.heap.size + 1 + 1 + 1 + 1, 2, none⟩ = some (.int .u32 b2) := hK.cell (by simp) (by simp; omega) (by go_simp)
  have hz : w.heap.size + 1 + 1 + 1 + 1 + 1 ≤ w1.heap.size := by simpa using hK.size
  have z0 : w.heap.size < w1.heap.size := by omega
  have z2 : w.heap.size + 1 + 1 < w1.heap.size := by omega
  have z4 : w.heap.size + 1 + 1 + 1 + 1 < w1.heap.size := by omega
  have hB : Below w.heap.size w w1 := (((((((Below.refl _ _).alloc (Nat.le_refl _) _).alloc (by simp) _).alloc (by simp; omega) _).alloc (by simp; omega) _).alloc (by simp; omega) _)).trans (hK.below (by simp; omega) (fun k hk => by omega))
  have HZ : Hid (w.heap.size + 1 + 1 + 1 + 1 < mb ∧ w.heap.size + 1 + 1 + 1 + 1 < w1.heap.size) := by simp at hmb; exact ⟨by omega, z4⟩
  have hlen : ∀ ty o, (Builtin.len_ #[80] ty #[.map (some mb)]).run Yba.prog (w1.alloc o) = .ok (.int .i64 1) (w1.alloc o) := fun ty o => (hM.alloc o).len Yba.underlying80
  have HB : Hid (Below w.heap.size w w1) := hB
  have HM : Hid (MapL (fun s : ByteArray => Value.string s) w1 mb [(k, p1, a1, b1)]) := hM
  clear hB hM hK hmb hz
  dsimp only
  go_wp2_with fail
  refine (putS_some w.heap.size mb [(k, p1, a1, b1)] k (p2, a2, b2) _ (HM.out.alloc _) (by go_simp)).mono ?_
  rintro e w2 ⟨rfl, hM, hK⟩
  simp only [assoc, put, if_true, Option.getD_some, Option.isSome_some] at hM ⊢
  unfold entC
  obtain ⟨y1, y2⟩ := HZ.out
  have hz2 : w1.heap.size + 1 ≤ w2.heap.size := by simpa using hK.size
  have g0 : w2.cell? ⟨w.heap.size + 1 + 1, 0, none⟩ = some (.int .u32 p1) := hK.cell (by simp; omega) (by simp; omega) (by go_simp)
  have g1 : w2.cell? ⟨w.heap.size + 1 + 1, 1, none⟩ = some (.int .u32 a1) := hK.cell (by simp; omega) (by simp; omega) (by go_simp)
  have g2 : w2.cell? ⟨w.heap.size + 1 + 1, 2, none⟩ = some (.int .u32 b1) := hK.cell (by simp; omega) (by simp; omega) (by go_simp)
  have k0 : w2.cell? ⟨w.heap.size + 1 + 1 + 1 + 1, 0, none⟩ = some (.int .u32 p2) := hK.cell (by simp; omega) (by simp; omega) (by go_simp)
  have k1 : w2.cell? ⟨w.heap.size + 1 + 1 + 1 + 1, 1, none⟩ = some (.int .u32 a2) := hK.cell (by simp; omega) (by simp; omega) (by go_simp)
  have k2 : w2.cell? ⟨w.heap.size + 1 + 1 + 1 + 1, 2, none⟩ = some (.int .u32 b2) := hK.cell (by simp; omega) (by simp; omega) (by go_simp)
  have kb : w2.cell? ⟨w.heap.size, 0, none⟩ = some (.map (some mb)) := hK.cell (by simp; omega) (by simp; omega) (by go_simp)
  have x0 : w.heap.size < w2.heap.size := by omega
  have x2 : w.heap.size + 1 + 1 < w2.heap.size := by omega
  have x4 : w.heap.size + 1 + 1 + 1 + 1 < w2.heap.size := by omega
  have x3 : w.heap.size + 1 + 1 + 1 < w2.heap.size := by omega
  have hlen2 : ∀ ty o, (Builtin.len_ #[80] ty #[.map (some mb)]).run Yba.prog (w2.alloc o) = .ok (.int .i64 1) (w2.alloc o) := fun ty o => (hM.alloc o).len Yba.underlying80
  have hlk : ∀ o, (Instr.lookup 80 (.map (some mb)) (Value.string k) true).run Yba.prog (w2.alloc o) = .ok (.tuple #[.agg #[.int .u32 p2, .int .u32 a2, .int .u32 b2], .bool true]) (w2.alloc o) := fun o => by
    have := MapL.look keysS (hM.alloc o) Yba.underlying80 Yba.underlying9 zero74 k
    simpa [assoc, entC] using this
  have HB2 : Hid (Below w.heap.size w w2) := (HB.out.alloc (by omega) _).trans (hK.below (by simp; omega) (fun k hk => by omega))
  clear HB HM hM hK hz2 hlen z0 z2 z4 q0 q1 q2 s0 s1 s2 hcb y1 y2 HZ
  dsimp only
  go_wp2_with fail
  go_ret
  exact ⟨by simp, (HB2.out.alloc (by omega) _).alloc (by simp; omega) _⟩
end Go.Proofs.Ybulkcpoe
