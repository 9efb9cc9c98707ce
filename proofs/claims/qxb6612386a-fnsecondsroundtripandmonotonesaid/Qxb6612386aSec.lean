/-
  THE SHARED PART: 'job.Seconds' (function 5, through 'job.duration', function 7): its three ways, and the plain arithmetic of the wrapped product.
-/
import Derived.Test.Qxb6612386aRows
import Derived.WalkKit
import Derived.ProofKit
import Derived.OpenShut
import Derived.ShutString
namespace Go.Proofs.Qxb6612386a.sec
open Go.ChangeShapes Go.WideShapes Go.ChangeAt Go.RowKit

/-! ### THE PLAIN LAW: no Go in sight -/
theorem tdiv_bd (x : Int) (h1 : -9223372036854775808 ≤ x) (h2 : x ≤ 9223372036854775807) :
    -9223372036 ≤ x.tdiv 1000000000 ∧ x.tdiv 1000000000 ≤ 9223372036 := by
  by_cases h : 0 ≤ x
  · rw [Int.tdiv_eq_ediv_of_nonneg h]
    omega
  · have e : x.tdiv 1000000000 = -((-x) / 1000000000) := by
      rw [← Int.tdiv_eq_ediv_of_nonneg (by omega), Int.neg_tdiv, Int.neg_neg]
    rw [e]
    omega
theorem wrap_bd (x : Int) : -9223372036854775808 ≤ wrap64 x ∧ wrap64 x ≤ 9223372036854775807 := by
  unfold wrap64
  omega
/-- Where the product does not fit, dividing the wrapped product back does not give the count. -/
theorem back_ne (a : Int) (h : 9223372036 < a ∨ a < -9223372036) : (wrap64 ((wrap64 (a * 1000000000)).tdiv 1000000000) != a) = true := by
  have b := wrap_bd (a * 1000000000)
  have c := tdiv_bd _ b.1 b.2
  generalize (wrap64 (a * 1000000000)).tdiv 1000000000 = y at c
  have e : wrap64 y = y := by unfold wrap64; omega
  rw [e]
  simp only [bne_iff_ne, ne_eq]
  omega

/-! ### 'job.Seconds' -/
theorem sec_mid (a : Int) (h1 : -9223372036 ≤ a) (h2 : a ≤ 9223372036) (w : World) :
    Calls Try.prog 5 #[.int .i64 a] w fun e w' => e = .returned (.int .i64 (a * 1000000000)) ∧ w' = w := by
  go_enter Try.func5, Try.ntmps5
  go_wp2
  go_ret
  exact ⟨rfl, rfl⟩
theorem sec_hi (a : Int) (h1 : 9223372036 < a) (w : World) :
    Calls Try.prog 5 #[.int .i64 a] w fun e w' => e = .returned (.int .i64 9223372036854775807) ∧ w' = w := by
  go_enter Try.func5, Try.ntmps5
  go_wp2
  go_ret
  exact ⟨rfl, rfl⟩
theorem sec_lo (a : Int) (h1 : a < -9223372036) (w : World) :
    Calls Try.prog 5 #[.int .i64 a] w fun e w' => e = .returned (.int .i64 (-9223372036854775808)) ∧ w' = w := by
  go_enter Try.func5, Try.ntmps5
  go_wp2
  go_ret
  exact ⟨rfl, rfl⟩
end Go.Proofs.Qxb6612386a.sec
