/-
  THE SHELF's CONTRACTS OF THE KIT'S LIBRARY, LAID AT THIS PROGRAM, IN PLAIN WORDS (written by the kit's two tools lay-shelf and lay-plain for this program): bits.Len32, bits.Len64, bits.Sub64, binary.BigEndian.Uint32 and Uint64.
-/
import Derived.Shelf.Small.Bits
import Derived.Shelf.Strconv.Itoa0
import Derived.Shelf.Spec.BitsCarry
import Derived.Shelf.Bin.BEUint32
import Derived.Shelf.Bin.BEUint64
import Derived.Test.Qxb6609254aProg
namespace Go.Proofs
open Go.Shelf
def Try.lays128_ren : Go.Shelf.Ren := ⟨fun | 128 => 15 | n => n, fun | 51 => 29 | 3 => 3 | 4 => 4 | 46 => 34 | 5 => 5 | 9 => 9 | n => n, fun | n => n⟩
theorem Try.lays128 : Go.Proofs.Lays.n128 Try.prog Try.lays128_ren := {
  mixed := by kernel_rfl
  f128 := Try.func15.trans (congrArg some (by kernel_rfl))
  t3 := Try.underlying3
  a3 := Try.isAgg3
  z3 := Try.sizeOf3
  v3 := Try.zeroValue3
  t4 := Try.underlying4
  a4 := Try.isAgg4
  z4 := Try.sizeOf4
  v4 := Try.zeroValue4
  t5 := Try.underlying5
  a5 := Try.isAgg5
  z5 := Try.sizeOf5
  v5 := Try.zeroValue5
  t9 := Try.underlying9
  a9 := Try.isAgg9
  z9 := Try.sizeOf9
  v9 := Try.zeroValue9
  t46 := Try.underlying34
  a46 := Try.isAgg34
  z46 := Try.sizeOf34
  v46 := Try.zeroValue34
  t51 := Try.underlying29
  a51 := Try.isAgg29
  z51 := Try.sizeOf29
  v51 := Try.zeroValue29 }
theorem Try.bits_Len32 (x : Int) (w : World) (h0 : 0 ≤ x) (h1 : x ≤ 4294967295) :
    Calls Try.prog 15 #[.int .u32 x] w fun e w' => e = .returned (.int .i64 (Lib.bitLen x.toNat)) ∧ w' = w := Any.bits_Len32 Try.lays128 x w h0 h1
def Try.lays129_ren : Go.Shelf.Ren := ⟨fun | 129 => 16 | n => n, fun | 53 => 30 | 3 => 3 | 4 => 4 | 46 => 34 | 5 => 5 | 9 => 9 | n => n, fun | n => n⟩
theorem Try.lays129 : Go.Proofs.Lays.n129 Try.prog Try.lays129_ren := {
  mixed := by kernel_rfl
  f129 := Try.func16.trans (congrArg some (by kernel_rfl))
  t3 := Try.underlying3
  a3 := Try.isAgg3
  z3 := Try.sizeOf3
  v3 := Try.zeroValue3
  t4 := Try.underlying4
  a4 := Try.isAgg4
  z4 := Try.sizeOf4
  v4 := Try.zeroValue4
  t5 := Try.underlying5
  a5 := Try.isAgg5
  z5 := Try.sizeOf5
  v5 := Try.zeroValue5
  t9 := Try.underlying9
  a9 := Try.isAgg9
  z9 := Try.sizeOf9
  v9 := Try.zeroValue9
  t46 := Try.underlying34
  a46 := Try.isAgg34
  z46 := Try.sizeOf34
  v46 := Try.zeroValue34
  t53 := Try.underlying30
  a53 := Try.isAgg30
  z53 := Try.sizeOf30
  v53 := Try.zeroValue30 }
theorem Try.bits_Len64 (x : Int) (w : World) (h0 : 0 ≤ x) (h1 : x ≤ 18446744073709551615) :
    Calls Try.prog 16 #[.int .u64 x] w fun e w' => e = .returned (.int .i64 (Lib.bitLen x.toNat)) ∧ w' = w := Any.bits_Len64 Try.lays129 x w h0 h1
def Try.laysBin39_ren : Go.Shelf.Ren := ⟨fun | 39 => 13 | n => n, fun | 37 => 37 | 22 => 39 | 29 => 29 | 0 => 0 | 5 => 5 | 45 => 34 | n => n, fun | n => n⟩
theorem Try.laysBin39 : Go.Proofs.LaysBin.n39 Try.prog Try.laysBin39_ren := {
  mixed := by kernel_rfl
  f39 := Try.func13.trans (congrArg some (by kernel_rfl))
  t0 := Try.underlying0
  a0 := Try.isAgg0
  z0 := Try.sizeOf0
  v0 := Try.zeroValue0
  i0 := by kernel_rfl
  t5 := Try.underlying5
  a5 := Try.isAgg5
  z5 := Try.sizeOf5
  v5 := Try.zeroValue5
  i5 := by kernel_rfl
  t22 := Try.underlying39
  a22 := Try.isAgg39
  z22 := Try.sizeOf39
  v22 := Try.zeroValue39
  i22 := by kernel_rfl
  t29 := Try.underlying29
  a29 := Try.isAgg29
  z29 := Try.sizeOf29
  v29 := Try.zeroValue29
  i29 := by kernel_rfl
  t37 := Try.underlying37
  a37 := Try.isAgg37
  z37 := Try.sizeOf37
  v37 := Try.zeroValue37
  i37 := by kernel_rfl
  t45 := Try.underlying34
  a45 := Try.isAgg34
  z45 := Try.sizeOf34
  v45 := Try.zeroValue34
  i45 := by kernel_rfl }
open Go.RowKit in
theorem Try.binary_BE_Uint32 (g o n c : Nat) (b0 b1 b2 b3 : UInt8) (w : World) (hn : 4 ≤ n) (c0 : w.cell? ⟨g, o, none⟩ = some (.int .u8 b0.toNat)) (c1 : w.cell? ⟨g, o + 1, none⟩ = some (.int .u8 b1.toNat)) (c2 : w.cell? ⟨g, o + 2, none⟩ = some (.int .u8 b2.toNat)) (c3 : w.cell? ⟨g, o + 3, none⟩ = some (.int .u8 b3.toNat)) :
    Calls Try.prog 13 #[.agg #[], .slice (some ⟨g, o, none⟩) n c] w fun e w' => e = .returned (.int .u32 (Lib.beNat [b0, b1, b2, b3])) ∧ Below w.heap.size w w' := Any.binary_BE_Uint32 Try.laysBin39 g o n c b0 b1 b2 b3 w hn c0 c1 c2 c3
def Try.laysBin42_ren : Go.Shelf.Ren := ⟨fun | 42 => 14 | n => n, fun | 37 => 37 | 22 => 39 | 33 => 30 | 0 => 0 | 5 => 5 | 45 => 34 | n => n, fun | n => n⟩
theorem Try.laysBin42 : Go.Proofs.LaysBin.n42 Try.prog Try.laysBin42_ren := {
  mixed := by kernel_rfl
  f42 := Try.func14.trans (congrArg some (by kernel_rfl))
  t0 := Try.underlying0
  a0 := Try.isAgg0
  z0 := Try.sizeOf0
  v0 := Try.zeroValue0
  i0 := by kernel_rfl
  t5 := Try.underlying5
  a5 := Try.isAgg5
  z5 := Try.sizeOf5
  v5 := Try.zeroValue5
  i5 := by kernel_rfl
  t22 := Try.underlying39
  a22 := Try.isAgg39
  z22 := Try.sizeOf39
  v22 := Try.zeroValue39
  i22 := by kernel_rfl
  t33 := Try.underlying30
  a33 := Try.isAgg30
  z33 := Try.sizeOf30
  v33 := Try.zeroValue30
  i33 := by kernel_rfl
  t37 := Try.underlying37
  a37 := Try.isAgg37
  z37 := Try.sizeOf37
  v37 := Try.zeroValue37
  i37 := by kernel_rfl
  t45 := Try.underlying34
  a45 := Try.isAgg34
  z45 := Try.sizeOf34
  v45 := Try.zeroValue34
  i45 := by kernel_rfl }
open Go.RowKit in
theorem Try.binary_BE_Uint64 (g o n c : Nat) (b0 b1 b2 b3 b4 b5 b6 b7 : UInt8) (w : World) (hn : 8 ≤ n) (c0 : w.cell? ⟨g, o, none⟩ = some (.int .u8 b0.toNat)) (c1 : w.cell? ⟨g, o + 1, none⟩ = some (.int .u8 b1.toNat)) (c2 : w.cell? ⟨g, o + 2, none⟩ = some (.int .u8 b2.toNat)) (c3 : w.cell? ⟨g, o + 3, none⟩ = some (.int .u8 b3.toNat)) (c4 : w.cell? ⟨g, o + 4, none⟩ = some (.int .u8 b4.toNat)) (c5 : w.cell? ⟨g, o + 5, none⟩ = some (.int .u8 b5.toNat)) (c6 : w.cell? ⟨g, o + 6, none⟩ = some (.int .u8 b6.toNat)) (c7 : w.cell? ⟨g, o + 7, none⟩ = some (.int .u8 b7.toNat)) :
    Calls Try.prog 14 #[.agg #[], .slice (some ⟨g, o, none⟩) n c] w fun e w' => e = .returned (.int .u64 (Lib.beNat [b0, b1, b2, b3, b4, b5, b6, b7])) ∧ Below w.heap.size w w' := Any.binary_BE_Uint64 Try.laysBin42 g o n c b0 b1 b2 b3 b4 b5 b6 b7 w hn c0 c1 c2 c3 c4 c5 c6 c7
def Try.lays7x26_ren : Go.Shelf.Ren := ⟨fun | 26 => 17 | n => n, fun | 22 => 30 | n => n, fun | n => n⟩
theorem Try.lays7x26 : Go.Proofs.Lays7.n26 Try.prog Try.lays7x26_ren := {
  mixed := by kernel_rfl
  f26 := Try.func17.trans (congrArg some (by kernel_rfl))
  t22 := Try.underlying30
  a22 := Try.isAgg30
  z22 := Try.sizeOf30
  v22 := Try.zeroValue30
  i22 := by kernel_rfl }
theorem Try.bits_Sub64 (x y b : Nat) (hb : b ≤ 1) (w : World) : (callFunc 17 #[.int .u64 x, .int .u64 y, .int .u64 b]).run Try.prog w =
      .ok (.value (.tuple #[.int .u64 (((x + 18446744073709551616 - y - b) % 18446744073709551616 : Nat) : Int), .int .u64 ((if x < y + b then 1 else 0 : Nat) : Int)])) w := Any7.bits_Sub64 Try.lays7x26 x y b hb w
end Go.Proofs
