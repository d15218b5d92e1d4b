import Derived.Test.YbulkcpmoTime1
namespace Go.Proofs.Ybulkcpmo
open Go.RowKit

theorem nsec_any (b off : Nat) (n : Int) (h0 : 0 ≤ n) (h1 : n < 1000000000) (w : World) (hc : w.cell? ⟨b, off, none⟩ = some (.int .u64 n)) :
    Calls Yba.prog 18 #[.pointer (some ⟨b, off, none⟩)] w fun e w' => e = .returned (.int .i32 n) ∧ w' = w := by
  have e1 := and_mask30 n h0 (by omega)
  go_enter Yba.func18, Yba.ntmps18
  go_wp2
  go_ret
  exact ⟨rfl, rfl⟩

theorem sec_any (b off : Nat) (n s : Int) (h0 : 0 ≤ n) (h1 : n < 1000000000) (w : World) (hc : w.cell? ⟨b, off, none⟩ = some (.int .u64 n)) (hs : w.cell? ⟨b, off + 1, none⟩ = some (.int .i64 s)) :
    Calls Yba.prog 31 #[.pointer (some ⟨b, off, none⟩)] w fun e w' => e = .returned (.int .i64 s) ∧ w' = w := by
  have e1 := and_high n h0 (by omega)
  go_enter Yba.func31, Yba.ntmps31
  go_wp2
  go_ret
  exact ⟨rfl, rfl⟩

theorem addSec_any (b off : Nat) (n s d : Int) (h0 : 0 ≤ n) (h1 : n < 1000000000) (s0 : -1000000000000 ≤ s) (s1 : s ≤ 1000000000000) (d0 : -1000000000000 ≤ d) (d1 : d ≤ 1000000000000) (w : World)
    (hc : w.cell? ⟨b, off, none⟩ = some (.int .u64 n)) (hs : w.cell? ⟨b, off + 1, none⟩ = some (.int .i64 s)) (hf : w.frozen? ⟨b, off + 1, none⟩ = false) :
    Calls Yba.prog 19 #[.pointer (some ⟨b, off, none⟩), .int .i64 d] w fun e w' => e = .returned (.tuple #[]) ∧ w' = w.setCell ⟨b, off + 1, none⟩ (.int .i64 (s + d)) := by
  have e1 := and_high n h0 (by omega)
  by_cases hd : 0 < d
  · have hd' : s < s + d := by omega
    go_enter Yba.func19, Yba.ntmps19
    go_wp2
    go_end0
    exact ⟨rfl, rfl⟩
  · have hd' : ¬ s < s + d := by omega
    go_enter Yba.func19, Yba.ntmps19
    go_wp2
    go_end0
    exact ⟨rfl, rfl⟩
end Go.Proofs.Ybulkcpmo
