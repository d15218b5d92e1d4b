import Derived.Test.YbulkcpoeTwWalk
namespace Go.Proofs.Ybulkcpoe
open Go.RowKit Go.MapKept

set_option maxRecDepth 100000 in
theorem model_long (sa : Option Addr) (n cap : Nat) (key p t0 t1 : Int) (nm : Bool) (w : World) (hn : 1024 < n) :
    Calls Yba.prog 5 #[.slice sa n cap, .int .i32 key, .int .u32 p, .int .u32 t0, .int .u32 t1, .bool nm] w fun x w' => x = .returned (.bool true) ∧ Below w.heap.size w w' := by
  have hn3 : (1024 : Int) < (n : Int) := by omega
  go_enter Yba.func5, Yba.ntmps5
  go_wp2
  go_ret
  exact ⟨rfl, Below.refl _ _⟩

set_option maxRecDepth 100000 in
set_option maxHeartbeats 4000000 in
theorem model_nil (sa : Option Addr) (cap : Nat) (key : Int) (e : Ent) (w : World) :
    Calls Yba.prog 5 #[.slice sa 0 cap, .int .i32 key, .int .u32 e.1, .int .u32 e.2.1, .int .u32 e.2.2, .bool true] w fun x w' => x = .returned (.bool true) ∧ Below w.heap.size w w' := by
  have h67 := isnil67
  have h72 := eq72
  go_enter Yba.func5, Yba.ntmps5
  go_wp2_with fail
  refine wp_loop_rounds 1 ?_
  rw [rounds_succ]
  go_wp2_with fail
  refine wp_loop_rounds 1 ?_
  rw [rounds_succ]
  go_wp2_with fail
  refine wp_loop_rounds 1 ?_
  rw [rounds_succ]
  go_wp2_with fail
  refine (ent_makes e.1 e.2.1 e.2.2 _).mono ?_
  rintro x w1 ⟨rfl, rfl⟩
  go_wp2_with fail
  refine (putI_nil w.heap.size key e _ (by go_simp) (by go_simp)).mono ?_
  rintro x w2 ⟨rfl, mb, hmb, hcb, hM, hK⟩
  unfold entC zeroE
  have e0 : w2.cell? ⟨w.heap.size + 1 + 1, 0, none⟩ = some (.int .u32 e.1) := hK.cell (by simp) (by simp; omega) (by go_simp)
  have e1 : w2.cell? ⟨w.heap.size + 1 + 1, 1, none⟩ = some (.int .u32 e.2.1) := hK.cell (by simp) (by simp; omega) (by go_simp)
  have e2 : w2.cell? ⟨w.heap.size + 1 + 1, 2, none⟩ = some (.int .u32 e.2.2) := hK.cell (by simp) (by simp; omega) (by go_simp)
  have hz : w.heap.size + 1 + 1 + 1 ≤ w2.heap.size := by simpa using hK.size
  have z0 : w.heap.size < w2.heap.size := by omega
  have z2 : w.heap.size + 1 + 1 < w2.heap.size := by omega
  have z1 : w.heap.size + 1 < w2.heap.size := by omega
  have hB : Below w.heap.size w w2 := ((((Below.refl _ _).alloc (Nat.le_refl _) _).alloc (by simp) _).alloc (by simp; omega) _).trans (hK.below (by simp; omega) (fun k hk => by omega))
  have hlen : ∀ ty o, (Builtin.len_ #[67] ty #[.map (some mb)]).run Yba.prog (w2.alloc o) = .ok (.int .i64 1) (w2.alloc o) := fun ty o => (hM.alloc o).len Yba.underlying67
  have hlk : ∀ o, (Instr.lookup 67 (.map (some mb)) (Value.int .i32 key) true).run Yba.prog (w2.alloc o) = .ok (.tuple #[.agg #[.int .u32 e.1, .int .u32 e.2.1, .int .u32 e.2.2], .bool true]) (w2.alloc o) := fun o => by
    have := MapL.look keysI (hM.alloc o) Yba.underlying67 Yba.underlying21 zero74 key
    simpa [assoc, entC] using this
  have HB : Hid (Below w.heap.size w w2) := hB
  clear hB hM hK hmb hz
  dsimp only
  go_wp2_with fail
  refine wp_loop_rounds 1 ?_
  rw [rounds_succ]
  go_wp2_with fail
  go_ret
  exact ⟨rfl, (HB.out.alloc (by omega) _).alloc (by simp; omega) _⟩
end Go.Proofs.Ybulkcpoe
