/-
  'job.Seconds' as ONE plain function 'sat'; 'zzWholeSecondsBack' at it; the order of 'sat'.
-/
import Derived.Test.Qxb6612386aSec
namespace Go.Proofs.Qxb6612386a.sec
open Go.ChangeShapes Go.WideShapes Go.ChangeAt Go.RowKit

/-- Seconds, as a plain function. -/
def sat (a : Int) : Int := if 9223372036 < a then 9223372036854775807 else if a < -9223372036 then -9223372036854775808 else a * 1000000000

theorem sat_mono (a b : Int) (h : a < b) : sat a ≤ sat b := by
  unfold sat
  split <;> split <;> (try split) <;> (try split) <;> omega
theorem sat_mid (a : Int) (h1 : -9223372036 ≤ a) (h2 : a ≤ 9223372036) : sat a = a * 1000000000 := by
  unfold sat
  rw [if_neg (by omega), if_neg (by omega)]

theorem sec_any (a : Int) (w : World) : Calls Try.prog 5 #[.int .i64 a] w fun e w' => e = .returned (.int .i64 (sat a)) ∧ w' = w := by
  by_cases h1 : 9223372036 < a
  · have e : sat a = 9223372036854775807 := by unfold sat; rw [if_pos h1]
    rw [e]; exact sec_hi a h1 w
  by_cases h2 : a < -9223372036
  · have e : sat a = -9223372036854775808 := by unfold sat; rw [if_neg h1, if_pos h2]
    rw [e]; exact sec_lo a h2 w
  · rw [sat_mid a (by omega) (by omega)]; exact sec_mid a (by omega) (by omega) w

theorem back_mid (a : Int) (h1 : -9223372036 ≤ a) (h2 : a ≤ 9223372036) (w : World) :
    Calls Try.prog 6 #[.int .i64 a, .int .i64 (a * 1000000000)] w fun e w' => e = .returned (.bool true) ∧ w' = w := by
  go_enter Try.func6, Try.ntmps6
  go_wp2
  go_ret
  exact ⟨rfl, rfl⟩
theorem back_hi (a d : Int) (h1 : 9223372036 < a) (w : World) :
    Calls Try.prog 6 #[.int .i64 a, .int .i64 d] w fun e w' => e = .returned (.bool true) ∧ w' = w := by
  have h2 : ¬ a < -9223372036 := by omega
  go_enter Try.func6, Try.ntmps6
  go_wp2
  go_ret
  exact ⟨rfl, rfl⟩
theorem back_lo (a d : Int) (h1 : a < -9223372036) (w : World) :
    Calls Try.prog 6 #[.int .i64 a, .int .i64 d] w fun e w' => e = .returned (.bool true) ∧ w' = w := by
  go_enter Try.func6, Try.ntmps6
  go_wp2
  go_ret
  exact ⟨rfl, rfl⟩
theorem back_any (a : Int) (w : World) :
    Calls Try.prog 6 #[.int .i64 a, .int .i64 (sat a)] w fun e w' => e = .returned (.bool true) ∧ w' = w := by
  by_cases h1 : 9223372036 < a
  · exact back_hi a _ h1 w
  by_cases h2 : a < -9223372036
  · exact back_lo a _ h2 w
  · rw [sat_mid a (by omega) (by omega)]; exact back_mid a (by omega) (by omega) w
end Go.Proofs.Qxb6612386a.sec
