/-
  'plan.TrimByteOrderMark' at a text that begins with the mark: strings.TrimPrefix, walked in place.
-/
import Derived.Test.Qxb6612465aRows
import Derived.WalkKit
import Derived.ProofKit
import Derived.OpenShut
import Derived.ShutString
namespace Go.Proofs.Qxb6612465a.trim
open Go.ChangeShapes Go.WideShapes Go.ChangeAt Go.RowKit

/-! ### THE PLAIN LAW: no Go in sight -/
theorem bom_head (s : ByteArray) : ((({ data := #[239, 187, 191] } : ByteArray) ++ s).extract 0 3).toList = [239, 187, 191] := by
  have e : (({ data := #[239, 187, 191] } : ByteArray) ++ s).extract 0 3 = { data := #[239, 187, 191] } :=
    ByteArray.extract_append_eq_left rfl
  rw [e]
  exact ByteArray.toList_mk [239, 187, 191]
theorem bom_tail (s : ByteArray) : (({ data := #[239, 187, 191] } : ByteArray) ++ s).extract 3 ((({ data := #[239, 187, 191] } : ByteArray) ++ s).size) = s :=
  ByteArray.extract_append_eq_right rfl (by rw [ByteArray.size_append])

/-! ### 'plan.TrimByteOrderMark' -/
theorem trim_core (t : ByteArray) (h0 : t.size ≤ 1048582) (h3 : 3 ≤ t.size) (hp : ((t.extract 0 3).toList == [239, 187, 191]) = true) (w : World) :
    Calls Try.prog 5 #[.string t] w fun e w' => e = .returned (.string (t.extract 3 t.size)) ∧ w' = w := by
  go_enter Try.func5, Try.ntmps5
  go_wp2
  go_ret
  exact ⟨rfl, rfl⟩
theorem trim_bom (s : ByteArray) (hs : s.size ≤ 1048579) (w : World) :
    Calls Try.prog 5 #[.string (({ data := #[239, 187, 191] } : ByteArray) ++ s)] w fun e w' => e = .returned (.string s) ∧ w' = w := by
  have hsz : (({ data := #[239, 187, 191] } : ByteArray) ++ s).size = 3 + s.size := by rw [ByteArray.size_append]; rfl
  have h := trim_core (({ data := #[239, 187, 191] } : ByteArray) ++ s) (by omega) (by omega) (by rw [bom_head]; rfl) w
  rw [bom_tail] at h
  exact h
end Go.Proofs.Qxb6612465a.trim
