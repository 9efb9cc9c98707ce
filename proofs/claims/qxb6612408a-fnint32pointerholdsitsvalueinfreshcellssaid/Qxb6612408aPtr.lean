/-
  TWO POINTERS INTO TWO NEW BLOCKS, COMPARED: '!=' says true.
-/
import Derived.Test.Qxb6612408aRows
import Derived.WalkKit
import Derived.ProofKit
import Derived.OpenShut
import Derived.ShutString
import Derived.LaidEql
namespace Go.Proofs.Qxb6612408a.ptr
open Go.ChangeShapes Go.WideShapes Go.ChangeAt Go.RowKit

/-- Two pointers into two plain blocks: '!=' says true. -/
theorem run_neq_ptr_other {P : Program} (w : World) {tp te : TypeId} {j : TypeInfo} {a b : Addr} {ca cb : Array Value} {ta tb : TypeId}
    (hp : P.underlying tp = some (.pointer te)) (hte : P.info? te = some j) (hsz : j.size ≠ 0)
    (hne : a ≠ b) (ha : w.heap[a.block]? = some (.cells ca ta (0, 0))) (hb : w.heap[b.block]? = some (.cells cb tb (0, 0))) :
    (binOp .neq tp (.pointer (some a)) (.pointer (some b))).run P w = .ok (.bool true) w := by
  have h : ∀ d : Nat, (Op.equalIn (d + 1) tp (.pointer (some a)) (.pointer (some b))).run P w = .ok false w := fun d => by
    simp [Op.equalIn, run_underlying hp, sizeOf, typeInfo, hte, hsz, run_sameAddr_other w hne ha hb]
  simp only [binOp]
  simp [Op.equal, Op.maxDepth, h 9999]

theorem info21' : ((Try.prog.info? 21).any fun j => j.size != 0) = true := by kernel_rfl
theorem info21 : ∃ j, Try.prog.info? 21 = some j ∧ j.size ≠ 0 := by
  have h := info21'
  cases e : Try.prog.info? 21 with
  | none => rw [e] at h; cases h
  | some j => rw [e] at h; exact ⟨j, rfl, by simpa using h⟩

theorem new2 (w : World) (A B : Obj) : ((w.alloc A).alloc B).heap[w.heap.size + 1]? = some B := by
  show ((w.heap.push A).push B)[w.heap.size + 1]? = some B
  rw [Array.getElem?_push, if_pos (by simp)]
theorem old2 (w : World) (A B : Obj) : ((w.alloc A).alloc B).heap[w.heap.size]? = some A := by
  show ((w.heap.push A).push B)[w.heap.size]? = some A
  rw [Array.getElem?_push, if_neg (by simp), Array.getElem?_push, if_pos rfl]

theorem neq_new (n m : Int) (w : World) :
    (binOp .neq 22 (.pointer (some ⟨w.heap.size, 0, none⟩)) (.pointer (some ⟨w.heap.size + 1, 0, none⟩))).run Try.prog ((w.alloc (.cells #[.int .i32 n] 21)).alloc (.cells #[.int .i32 m] 21)) = .ok (.bool true) ((w.alloc (.cells #[.int .i32 n] 21)).alloc (.cells #[.int .i32 m] 21)) := by
  obtain ⟨j, h1, h2⟩ := info21
  exact run_neq_ptr_other _ (ca := #[.int .i32 n]) (cb := #[.int .i32 m]) (ta := 21) (tb := 21) Try.underlying22 h1 h2 (by simp) (old2 w _ _) (new2 w _ _)
end Go.Proofs.Qxb6612408a.ptr
