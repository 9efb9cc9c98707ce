/-
  THE ARGUMENT OF THE TWO LAWS, OPENED: a [20]byte by value is a list of twenty bytes.
-/
import Derived.Test.Qxb6609254aWide
import Derived.OpenShut
import Derived.SizedLaws
namespace Go.Proofs.Qxb6609254a.idn
open Go.ChangeShapes Go.WideShapes Go.ChangeAt Go.RowKit

theorem own : ownKnob Try.prog.godebug = none := by kernel_rfl
theorem laidOut : laidOutB Try.prog = true := by kernel_rfl
theorem cells5 : Try.prog.cellsOf 5 = 1 := by kernel_rfl
theorem cells22 : Try.prog.cellsOf 22 = 20 := by kernel_rfl

/-- The byte in a cell. -/
def byteOf : Value → UInt8
  | .int _ n => n.toNat.toUInt8
  | _ => 0
theorem byteOf_back (n : Int) (h : (Lit.int .u8 n).wf = true) : Value.int .u8 ((byteOf (.int .u8 n)).toNat : Int) = .int .u8 n := by
  have hb : 0 ≤ n ∧ n ≤ 255 := bounds_u8 h
  have e : (byteOf (.int .u8 n)).toNat = n.toNat := by
    show (n.toNat.toUInt8).toNat = n.toNat
    rw [Nat.toUInt8, UInt8.toNat_ofNat']
    omega
  rw [e, Int.toNat_of_nonneg hb.1]

theorem open_bytes {H : Type} {enc : TypeId × Value → H} {W : World} {base : Nat} {v : Value} {d : DataW H} {p : List MemPlace} (hval : Value.okWide Try.prog W .any base 22 v)
    (h : DataW.Trod enc Try.prog W 0 (fun _ => true) true 22 v d p) : ∃ bs : List UInt8, bs.length = 20 ∧ v = .agg (cells bs).toArray := by
  obtain ⟨cs, rfl, hsz⟩ : ∃ cs, v = .agg cs ∧ cs.size = Try.prog.cellsOf 22 := by
    simp only [Value.okWide, Try.underlying22] at hval
    obtain ⟨cs, h1, h2, _⟩ := hval
    exact ⟨cs, h1, h2⟩
  rw [cells22] at hsz
  obtain ⟨l⟩ := cs
  have hl : l.length = 20 := hsz
  obtain ⟨fuel, hf⟩ := h
  obtain ⟨xs, m, _, _, _, hxl, hel⟩ := DataW.trod_array Try.underlying22 hf
  refine ⟨l.map byteOf, by rw [List.length_map, hl], ?_⟩
  have e : cells (l.map byteOf) = l := by
    refine List.ext_getElem (by rw [cells_length, List.length_map]) fun i h1 h2 => ?_
    have hE := hel i (by omega)
    rw [cells5, Nat.mul_one, List.getElem?_eq_getElem (by omega)] at hE
    obtain ⟨n, e1, _, wn⟩ := DataW.trod_int Try.underlying5 hE
    have e2 : l[i] = .int .u8 n := by
      have h0 : ((l.drop i).take 1)[0]? = some (.int .u8 n) := by
        have this : (l.drop i).take 1 = [Value.int .u8 n] := e1
        rw [this]; rfl
      simpa [h2] using h0
    have e3 : (cells (l.map byteOf))[i] = .int .u8 ((byteOf l[i]).toNat : Int) := by simp [cells]
    rw [e3, e2]
    exact byteOf_back n wn
  rw [e]
end Go.Proofs.Qxb6609254a.idn
