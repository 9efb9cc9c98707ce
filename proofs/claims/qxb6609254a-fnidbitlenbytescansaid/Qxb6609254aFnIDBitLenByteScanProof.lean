/-
  PROOF OF 'Rows.FnIDBitLenByteScanSaid': the row's step over the law's walk ('idn.scan_walk').
-/
import Derived.Test.Qxb6609254aScan
import Derived.Test.Qxb6609254aOpen
namespace Go.Proofs.Qxb6609254a.fnIDBitLenByteScan
open Go.ChangeShapes Go.WideShapes Go.ChangeAt Go.RowKit

set_option maxRecDepth 100000 in
theorem lifted (os : Os) (started : os.Started) (H : Type) (enc : TypeId × Value → H) :
    ReturnsInHanded {} Try.checked os 3 .any (Rows.fnIDBitLenByteScanSpec.pre6 enc Try.prog Try.f3 Rows.fnIDBitLenByteScanRow.domain false) (Rows.fnIDBitLenByteScanSpec.post enc Try.prog Try.f3 false true false false) := by
  refine returnsInHanded_of_change (C := Try.checked) idn.own started (by kernel_rfl) Try.func3
    (ChangeSpec.witness6 (enc := enc) (C := Try.checked) false ⟨#[], #[.agg #[.int .u8 0, .int .u8 0, .int .u8 0, .int .u8 0, .int .u8 0, .int .u8 0, .int .u8 0, .int .u8 0, .int .u8 0, .int .u8 0, .int .u8 0, .int .u8 0, .int .u8 0, .int .u8 0, .int .u8 0, .int .u8 0, .int .u8 0, .int .u8 0, .int .u8 0, .int .u8 0]], []⟩ 8 (by kernel_rfl) (by kernel_rfl) (by kernel_rfl) (by kernel_rfl)) ?_
  intro W base args ds gs before hval0 hW hcnd _
  have hval : ∀ (j : Nat) t v, Try.f3.params[j]? = some t → args[j]? = some v → Value.okWide Try.prog W .any base t v := hval0
  have hW' := hW
  obtain ⟨p, q, hA0, hV, rfl, _, _⟩ := hW
  have hA : DataW.TrodAll enc Try.prog W 0 (fun _ => true) true Try.f3.params.toList args.toList ds p := hA0
  rw [Try.params3] at hA hval
  obtain ⟨v0, d0, rfl, rfl, h0⟩ := trodAll_one hA
  obtain ⟨rfl, rfl⟩ := trodVars_none hV
  obtain ⟨bs, hl, rfl⟩ := idn.open_bytes (hval 0 22 v0 rfl rfl) h0
  clear hA0 hval0
  simp only [List.append_nil] at hW'
  have hlt : ∀ x ∈ p, x.block < W.heap.size := fun x hx => by simpa using hW'.lt x hx
  refine (idn.scan_walk bs hl W).mono fun e W' ⟨he, hnx⟩ => ?_
  subst he
  refine ⟨_, rfl, _, _, _, [], _, [], hW', ?_, trodAll_mk1 (Below.trod idn.laidOut (by kernel_rfl) (of_decide_eq_true (by kernel_rfl)) h0 hnx hlt), rfl, hnx.frame _, fun h => by cases h⟩
  exact trodAll_mk1 (shut_bool Try.underlying4 _)

theorem over : Rows.fnIDBitLenByteScanRow.holds Try.pinned (OpenSpec.ofChange Rows.fnIDBitLenByteScanSpec) :=
  OpenClaim.holds_of_wide 3 Try.f3 rfl rfl rfl rfl rfl rfl rfl ⟨rfl, rfl, rfl, rfl, rfl⟩ rfl rfl rfl rfl rfl (by kernel_rfl) Try.func3 (by kernel_rfl)
    (of_decide_eq_true (by kernel_rfl)) (by unfold Func.isWrapper; first | (rw [if_pos (by decide +kernel)]; kernel_rfl) | (rw [if_neg (by decide +kernel)]; exact ⟨rfl, rfl⟩))
    (fun os started H enc _ => lifted os started H enc)

/-- THE STATEMENT. -/
theorem proved : Rows.FnIDBitLenByteScanSaid :=
  over
end Go.Proofs.Qxb6609254a.fnIDBitLenByteScan
namespace Go.Proofs.Qxb6609254a
/-- The statement, by a short name. -/
theorem fnIDBitLenByteScan_holds : Rows.FnIDBitLenByteScanSaid := fnIDBitLenByteScan.proved
end Go.Proofs.Qxb6609254a
