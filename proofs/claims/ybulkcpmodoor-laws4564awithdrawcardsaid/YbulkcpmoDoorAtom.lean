import Derived.Test.YbulkcpmoDoorRows
import Derived.Test.YbulkcpmoDoorLocks
import Derived.WalkKit
import Derived.WalkLawsBesides
import Derived.WalkSpells
import Derived.Laws.LoneSync
import Derived.Laws.Bits64
import Derived.Conc.MuLone
namespace Go.Proofs.YbulkcpmoDoor
open Go.RowKit

theorem loadI32 (b off : Nat) (x : Int) (w : World) (hc : w.cell? ⟨b, off, none⟩ = some (.int .i32 x)) :
    Calls Ybad.prog 9 #[.pointer (some ⟨b, off, none⟩)] w fun e w' => e = .returned (.int .i32 x) ∧ w' = w := by
  have hl := run_call_load (P := Ybad.prog) Ybad.func21 (by kernel_rfl) (by kernel_rfl) (by kernel_rfl) .i32 (by kernel_rfl) hc
  go_enter Ybad.func9, Ybad.ntmps9
  go_wp2
  go_ret
  exact ⟨rfl, rfl⟩
theorem loadU64 (b off : Nat) (x : Int) (w : World) (hc : w.cell? ⟨b, off, none⟩ = some (.int .u64 x)) :
    Calls Ybad.prog 10 #[.pointer (some ⟨b, off, none⟩)] w fun e w' => e = .returned (.int .u64 x) ∧ w' = w := by
  have hl := run_call_load (P := Ybad.prog) Ybad.func22 (by kernel_rfl) (by kernel_rfl) (by kernel_rfl) .u64 (by kernel_rfl) hc
  go_enter Ybad.func10, Ybad.ntmps10
  go_wp2
  go_ret
  exact ⟨rfl, rfl⟩
theorem storeI32 (b off : Nat) (y : Int) (u : Value) (w : World) (hc : w.cell? ⟨b, off, none⟩ = some u) (hz : w.frozen? ⟨b, off, none⟩ = false) :
    Calls Ybad.prog 6 #[.pointer (some ⟨b, off, none⟩), .int .i32 y] w fun e w' => e = .returned (.tuple #[]) ∧ w' = w.setCell ⟨b, off, none⟩ (.int .i32 y) := by
  have hl := run_call_store (P := Ybad.prog) Ybad.func13 (by kernel_rfl) (by kernel_rfl) (by kernel_rfl) (by kernel_rfl) (k := .i32) (y := y) hc hz
  go_enter Ybad.func6, Ybad.ntmps6
  go_wp2
  go_end0
  exact ⟨rfl, rfl⟩
theorem storeU64 (b off : Nat) (y : Int) (u : Value) (w : World) (hc : w.cell? ⟨b, off, none⟩ = some u) (hz : w.frozen? ⟨b, off, none⟩ = false) :
    Calls Ybad.prog 5 #[.pointer (some ⟨b, off, none⟩), .int .u64 y] w fun e w' => e = .returned (.tuple #[]) ∧ w' = w.setCell ⟨b, off, none⟩ (.int .u64 y) := by
  have hl := run_call_store (P := Ybad.prog) Ybad.func12 (by kernel_rfl) (by kernel_rfl) (by kernel_rfl) (by kernel_rfl) (k := .u64) (y := y) hc hz
  go_enter Ybad.func5, Ybad.ntmps5
  go_wp2
  go_end0
  exact ⟨rfl, rfl⟩
theorem addI32 (b off : Nat) (x y : Int) (w : World) (hc : w.cell? ⟨b, off, none⟩ = some (.int .i32 x)) (hz : w.frozen? ⟨b, off, none⟩ = false) :
    Calls Ybad.prog 16 #[.pointer (some ⟨b, off, none⟩), .int .i32 y] w fun e w' => e = .returned (.int .i32 (wrap32 (x + y))) ∧ w' = w.setCell ⟨b, off, none⟩ (.int .i32 (wrap32 (x + y))) := by
  have hl := run_call_add (P := Ybad.prog) Ybad.func25 (by kernel_rfl) (by kernel_rfl) (by kernel_rfl) .i32 (by kernel_rfl) (y := y) (s := IntKind.i32.wrap (x + y)) hc hz rfl
  go_enter Ybad.func16, Ybad.ntmps16
  go_wp2
  go_ret
  exact ⟨rfl, rfl⟩
theorem casI32 (b off : Nat) (x y : Int) (w : World) (hc : w.cell? ⟨b, off, none⟩ = some (.int .i32 x)) (hz : w.frozen? ⟨b, off, none⟩ = false) :
    Calls Ybad.prog 27 #[.pointer (some ⟨b, off, none⟩), .int .i32 x, .int .i32 y] w fun e w' => e = .returned (.bool true) ∧ w' = w.setCell ⟨b, off, none⟩ (.int .i32 y) := by
  have hl := run_call_cas_hit (P := Ybad.prog) Ybad.func32 (by kernel_rfl) (by kernel_rfl) (by kernel_rfl) .i32 (by kernel_rfl) (y := y) hc hz
  go_enter Ybad.func27, Ybad.ntmps27
  go_wp2
  go_ret
  exact ⟨rfl, rfl⟩
theorem loadStatus (b : Nat) (x : Int) (w : World) (hc : w.cell? ⟨b, 260, none⟩ = some (.int .u64 x)) :
    Calls Ybad.prog 28 #[.pointer (some ⟨b, 0, none⟩)] w fun e w' => e = .returned (.int .u64 x) ∧ w' = w := by
  go_enter Ybad.func28, Ybad.ntmps28
  go_wp2_with (go_at_call 10; refine (loadU64 b 260 x _ hc).mono ?_; rintro e w' ⟨rfl, rfl⟩)
  go_ret
  exact ⟨rfl, rfl⟩
theorem storeStatus (b : Nat) (y : Int) (u : Value) (w : World) (hc : w.cell? ⟨b, 260, none⟩ = some u) (hz : w.frozen? ⟨b, 260, none⟩ = false) :
    Calls Ybad.prog 29 #[.pointer (some ⟨b, 0, none⟩), .int .u64 y] w fun e w' => e = .returned (.tuple #[]) ∧ w' = w.setCell ⟨b, 260, none⟩ (.int .u64 y) := by
  go_enter Ybad.func29, Ybad.ntmps29
  go_wp2_with (go_at_call 5; refine (storeU64 b 260 y u _ hc hz).mono ?_; rintro e w' ⟨rfl, rfl⟩)
  go_end0
  exact ⟨rfl, rfl⟩
theorem renewed (x : Int) (w : World) :
    Calls Ybad.prog 30 #[.int .u64 x, .int .u64 0] w fun e w' => e = .returned (.int .u64 (bits .or .u64 (bits .or .u64 (bits .andNot .u64 x 4294967295) (bits .and .u64 (IntKind.u64.wrap (x + 4)) 4294967292)) 0)) ∧ w' = w := by
  go_enter Ybad.func30, Ybad.ntmps30
  go_wp2
  go_ret
  exact ⟨rfl, rfl⟩
theorem arenew (x : Int) (w : World) :
    Calls Ybad.prog 11 #[.int .u64 x] w fun e w' => e = .returned (.int .u64 (bits .or .u64 (bits .andNot .u64 x 4294967295) (IntKind.u64.wrap (bits .and .u64 (IntKind.u64.wrap (x / 4 + 1)) 1073741823 * 4)))) ∧ w' = w := by
  go_enter Ybad.func11, Ybad.ntmps11
  go_wp2
  go_ret
  exact ⟨rfl, rfl⟩
end Go.Proofs.YbulkcpmoDoor
