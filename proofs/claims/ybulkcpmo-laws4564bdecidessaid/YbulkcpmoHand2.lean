import Derived.Test.YbulkcpmoHand1
namespace Go.Proofs.Ybulkcpmo
open Go.RowKit

/-- The case table: 'r': the round has lasted less than its slice; 's': the status less than the patience. -/
def decides (st : Int) (again nx : Bool) (g idle srch : Int) (r s : Bool) : Bool × Bool :=
  if st = 2 then (if again then (if !nx && s && (srch != 0 || idle != 0) then (false, false) else (true, nx || g != 0)) else (false, false))
  else if st = 1 then (if r then (false, false) else (nx || (idle == 0 && g != 0), nx || (idle == 0 && g != 0)))
  else (false, false)

set_option maxHeartbeats 4000000 in
theorem model_any (st : Int) (again nx : Bool) (g idle srch rms sms : Int) (w : World) :
    Calls Yba.prog 10 #[.int .u64 st, .bool again, .bool nx, .int .i64 g, .int .i32 idle, .int .i32 srch, .int .i32 rms, .int .i32 sms] w fun e w' =>
      e = .returned (.tuple #[.bool (decides st again nx g idle srch (decide (rms < 10)) (decide (sms < 10))).1, .bool (decides st again nx g idle srch (decide (rms < 10)) (decide (sms < 10))).2]) ∧ w' = w := by
  by_cases h2 : st = 2
  · subst h2
    cases again
    · go_enter Yba.func10, Yba.ntmps10
      go_wp2
      go_ret2
      exact ⟨rfl, rfl⟩
    · cases nx
      · by_cases hs : sms < 10
        · cases hq : (srch != 0)
          · cases hi : (idle != 0)
            · go_enter Yba.func10, Yba.ntmps10
              go_wp2
              go_ret2
              exact ⟨by simp [decides, hs, hq, hi], rfl⟩
            · go_enter Yba.func10, Yba.ntmps10
              go_wp2
              go_ret2
              exact ⟨by simp [decides, hs, hq, hi], rfl⟩
          · go_enter Yba.func10, Yba.ntmps10
            go_wp2
            go_ret2
            exact ⟨by simp [decides, hs, hq], rfl⟩
        · go_enter Yba.func10, Yba.ntmps10
          go_wp2
          go_ret2
          exact ⟨by simp [decides, show ¬ sms < 10 by omega], rfl⟩
      · go_enter Yba.func10, Yba.ntmps10
        go_wp2
        go_ret2
        exact ⟨by simp [decides], rfl⟩
  · have h2' : (st == 2) = false := by simpa using h2
    by_cases h1 : st = 1
    · subst h1
      by_cases hr : rms < 10
      · go_enter Yba.func10, Yba.ntmps10
        go_wp2
        go_ret2
        exact ⟨by simp [decides, hr], rfl⟩
      · cases nx
        · cases hi : (idle == 0)
          · go_enter Yba.func10, Yba.ntmps10
            go_wp2
            go_ret2
            exact ⟨by simp [decides, show ¬ rms < 10 by omega, hi], rfl⟩
          · go_enter Yba.func10, Yba.ntmps10
            go_wp2
            go_ret2
            exact ⟨by simp [decides, show ¬ rms < 10 by omega, hi], rfl⟩
        · go_enter Yba.func10, Yba.ntmps10
          go_wp2
          go_ret2
          exact ⟨by simp [decides, show ¬ rms < 10 by omega], rfl⟩
    · have h1' : (st == 1) = false := by simpa using h1
      go_enter Yba.func10, Yba.ntmps10
      go_wp2
      go_ret2
      exact ⟨by simp [decides, h1, h2], rfl⟩
end Go.Proofs.Ybulkcpmo
