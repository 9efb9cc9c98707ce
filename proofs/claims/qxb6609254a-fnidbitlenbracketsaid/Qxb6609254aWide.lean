/-
  '(ID).wide' (function 10), '(wide).bitLen' (11), '(ID).BitLen' (5): each callee by its contract.
-/
import Derived.Test.Qxb6609254aRows
import Derived.Test.Qxb6609254aPlain
import Derived.Test.Qxb6609254aShelf
import Derived.WalkKit
import Derived.ProofKit
import Derived.Deep.RegionHeld3
import Derived.Deep.MidRow
import Derived.Deep.WholeRow
namespace Go.Proofs.Qxb6609254a.idn
open Go.RowKit

/-- The cells of bytes. -/
def cells (bs : List UInt8) : List Value := bs.map fun b => Value.int .u8 b.toNat
theorem cells_length (bs : List UInt8) : (cells bs).length = bs.length := List.length_map _
theorem cells_get (bs : List UInt8) (j : Nat) : (cells bs)[j]? = (bs[j]?).map fun b => Value.int .u8 b.toNat := List.getElem?_map ..

/-- Bytes that lie there, said one by one. -/
theorem range_byte {w : World} {g o : Nat} {bs : List UInt8} (h : w.rangeAt g o (cells bs)) (j : Nat) (b : UInt8) (hb : bs[j]? = some b) : w.cell? ⟨g, o + j, none⟩ = some (.int .u8 b.toNat) :=
  h j _ (by rw [cells_get, hb]; rfl)
theorem range_sub {w : World} {g : Nat} {bs : List UInt8} (h : w.rangeAt g 0 (cells bs)) (o n : Nat) : w.rangeAt g o (cells ((bs.drop o).take n)) := fun j v hv => by
  rw [cells_get] at hv
  by_cases hj : j < n
  · rw [List.getElem?_take_of_lt hj, List.getElem?_drop] at hv
    have := h (o + j) v (by rw [cells_get]; exact hv)
    rwa [Nat.zero_add] at this
  · rw [List.getElem?_take_eq_none (by omega)] at hv
    cases hv
theorem range_below {w w' : World} {B g o : Nat} {cs : List Value} (hb : Below B w w') (hg : g < B) (h : w.rangeAt g o cs) : w'.rangeAt g o cs := fun j v hv => by
  rw [hb.cell (p := ⟨g, o + j, none⟩) hg]
  exact h j v hv

/-! ### The two readers, over a list of bytes -/
theorem u32_at (g o c : Nat) (bs : List UInt8) (hl : bs.length = 4) (w : World) (hr : w.rangeAt g o (cells bs)) :
    Calls Try.prog 13 #[.agg #[], .slice (some ⟨g, o, none⟩) 4 c] w fun e w' => e = .returned (.int .u32 (Lib.beNat bs)) ∧ Below w.heap.size w w' := by
  match bs, hl with
  | [b0, b1, b2, b3], _ => exact Try.binary_BE_Uint32 g o 4 c b0 b1 b2 b3 w (Nat.le_refl _) (range_byte hr 0 b0 rfl) (range_byte hr 1 b1 rfl) (range_byte hr 2 b2 rfl) (range_byte hr 3 b3 rfl)
theorem u64_at (g o c : Nat) (bs : List UInt8) (hl : bs.length = 8) (w : World) (hr : w.rangeAt g o (cells bs)) :
    Calls Try.prog 14 #[.agg #[], .slice (some ⟨g, o, none⟩) 8 c] w fun e w' => e = .returned (.int .u64 (Lib.beNat bs)) ∧ Below w.heap.size w w' := by
  match bs, hl with
  | [b0, b1, b2, b3, b4, b5, b6, b7], _ => exact Try.binary_BE_Uint64 g o 8 c b0 b1 b2 b3 b4 b5 b6 b7 w (Nat.le_refl _) (range_byte hr 0 b0 rfl) (range_byte hr 1 b1 rfl) (range_byte hr 2 b2 rfl) (range_byte hr 3 b3 rfl) (range_byte hr 4 b4 rfl) (range_byte hr 5 b5 rfl) (range_byte hr 6 b6 rfl) (range_byte hr 7 b7 rfl)

/-! ### '(ID).wide' -/
/-- What stands while 'wide' runs: of the old world nothing has turned; the receiver's bytes lie in its box; the result's three cells lie behind it. -/
def Held (w W : World) (bs : List UInt8) : Prop :=
  Below w.heap.size w W ∧ w.heap.size + 2 ≤ W.heap.size ∧ W.rangeAt w.heap.size 0 (cells bs) ∧ W.heap[w.heap.size + 1]? = some (.cells #[.int .u32 0, .int .u64 0, .int .u64 0] 32)

theorem Held.next {w W W' : World} {bs : List UInt8} (h : Held w W bs) (hb : Below W.heap.size W W') : Held w W' bs :=
  ⟨h.1.trans (hb.mono (by have := h.2.1; omega)), Nat.le_trans h.2.1 hb.size, range_below hb (by have := h.2.1; omega) h.2.2.1, (hb.block _ (by have := h.2.1; omega)).trans h.2.2.2⟩
theorem Held.cell {w W : World} {bs : List UInt8} (h : Held w W bs) (j : Nat) : W.cell? ⟨w.heap.size + 1, j, none⟩ = #[Value.int .u32 0, .int .u64 0, .int .u64 0][j]? := cell_of_row W _ j _ _ _ h.2.2.2
theorem Held.frozen {w W : World} {bs : List UInt8} (h : Held w W bs) (j : Nat) : W.frozen? ⟨w.heap.size + 1, j, none⟩ = false := by
  simp [World.frozen?, h.2.2.2]

theorem u32_held {w W : World} {bs : List UInt8} (hl : bs.length = 20) (c : Nat) (h : Held w W bs) :
    Calls Try.prog 13 #[.agg #[], .slice (some ⟨w.heap.size, 0, none⟩) 4 c] W fun e w' => e = .returned (.int .u32 (hi bs)) ∧ Held w w' bs := by
  refine (u32_at w.heap.size 0 c (bs.take 4) (by rw [List.length_take, hl]; rfl) W ?_).mono fun e w' ⟨he, hb⟩ => ⟨he, h.next hb⟩
  have := range_sub h.2.2.1 0 4
  rwa [List.drop_zero] at this
theorem u64_held {w W : World} {bs : List UInt8} (hl : bs.length = 20) (o c : Nat) (ho : o ≤ 12) (h : Held w W bs) :
    Calls Try.prog 14 #[.agg #[], .slice (some ⟨w.heap.size, o, none⟩) 8 c] W fun e w' => e = .returned (.int .u64 (Lib.beNat ((bs.drop o).take 8))) ∧ Held w w' bs :=
  (u64_at w.heap.size o c ((bs.drop o).take 8) (by rw [List.length_take, List.length_drop, hl]; omega) W (range_sub h.2.2.1 o 8)).mono fun e w' ⟨he, hb⟩ => ⟨he, h.next hb⟩
theorem held_start (w : World) (bs : List UInt8) : Held w ((w.alloc (.cells (cells bs).toArray 23)).alloc (.cells #[.int .u32 0, .int .u64 0, .int .u64 0] 32)).drew bs := by
  refine ⟨Below.drew (((Below.refl _ w).alloc (Nat.le_refl _) _).alloc (by simp) _), by simp [World.drew], ?_, heap_alloc2_new w _ _⟩
  have h := World.rangeAt_of_block (w := ((w.alloc (.cells (cells bs).toArray 23)).alloc (.cells #[.int .u32 0, .int .u64 0, .int .u64 0] 32)).drew) (heap_alloc2_old w _ _) 0 (cells bs).length
  simpa using h
theorem lo_take (bs : List UInt8) (hl : bs.length = 20) : (bs.drop 12).take 8 = bs.drop 12 :=
  List.take_of_length_le (by rw [List.length_drop, hl]; decide)
set_option maxHeartbeats 1000000 in
theorem wide_any (bs : List UInt8) (hl : bs.length = 20) (w : World) :
    Calls Try.prog 10 #[.agg (cells bs).toArray] w fun e w' => e = .returned (.agg #[.int .u32 (hi bs), .int .u64 (mid bs), .int .u64 (lo bs)]) ∧ Below w.heap.size w w' := by
  have hsz : (cells bs).length = 20 := by rw [cells_length, hl]
  have h0 := held_start w bs
  have em : mid bs = Lib.beNat ((bs.drop 4).take 8) := rfl
  have el : lo bs = Lib.beNat ((bs.drop 12).take 8) := by rw [lo_take bs hl]; rfl
  rw [em, el]
  clear em el
  go_enter Try.func10, Try.ntmps10
  go_wp2_with fail
  go_region_held3 (fun _ => True) (trivial)
    (first
      | (go_at_call 13; refine (u32_held hl _ (by assumption)).mono ?_; rintro e w1 ⟨rfl, h1⟩)
      | (go_at_call 14; refine (u64_held hl _ _ (by decide) (by assumption)).mono ?_; rintro e w1 ⟨rfl, h1⟩; have c0 := h1.cell 0; have c1 := h1.cell 1; have c2 := h1.cell 2; have f0 := h1.frozen 0; have f1 := h1.frozen 1; have f2 := h1.frozen 2))
  go_wp2
  refine bodyPost_ret (v := .agg #[.int .u32 (hi bs), .int .u64 (Lib.beNat ((bs.drop 4).take 8)), .int .u64 (Lib.beNat ((bs.drop 12).take 8))]) (by simp [results, Try.results10, go_sem, c0, c1, c2]) rfl ⟨rfl, ?_⟩
  exact (((h1.1.setCell (by simp) _).setCell (by simp) _).setCell (by simp) _)
/-! ### '(wide).bitLen' -/
theorem len32 (h : Nat) (hh : h < 4294967296) (w : World) : Calls Try.prog 15 #[.int .u32 h] w fun e w' => e = .returned (.int .i64 (blen h)) ∧ w' = w := by
  have := Try.bits_Len32 h w (by omega) (by omega)
  rwa [Int.toNat_natCast, bitLen_eq h (by omega)] at this
theorem len64 (h : Nat) (hh : h < 18446744073709551616) (w : World) : Calls Try.prog 16 #[.int .u64 h] w fun e w' => e = .returned (.int .i64 (blen h)) ∧ w' = w := by
  have := Try.bits_Len64 h w (by omega) (by omega)
  rwa [Int.toNat_natCast, bitLen_eq h hh] at this
set_option maxHeartbeats 1000000 in
theorem wbitLen_any (h m l : Nat) (hh : h < 4294967296) (hm : m < 18446744073709551616) (hl : l < 18446744073709551616) (w : World) :
    Calls Try.prog 11 #[.agg #[.int .u32 h, .int .u64 m, .int .u64 l]] w fun e w' => e = .returned (.int .i64 (wlen h m l)) ∧ Below w.heap.size w w' := by
  have b1 : (blen h : Int) ≤ 32 := by have := blen_le h 32 hh; omega
  have b2 : (blen m : Int) ≤ 64 := by have := blen_le m 64 hm; omega
  by_cases c1 : h = 0
  · by_cases c2 : m = 0
    · have e : wlen h m l = blen l := by unfold wlen; rw [if_neg (by simpa using c1), if_neg (by simpa using c2)]
      rw [e]; clear e
      subst c1 c2
      go_enter Try.func11, Try.ntmps11
      go_wp2_with (go_at_call 16; refine (len64 l hl _).mono ?_; rintro e w' ⟨rfl, rfl⟩)
      go_ret
      exact ⟨rfl, (Below.refl _ _).alloc (Nat.le_refl _) _⟩
    · have e : wlen h m l = 64 + blen m := by unfold wlen; rw [if_neg (by simpa using c1), if_pos c2]
      rw [e]; clear e
      have c3 : (((m : Int) != 0) : Bool) = true := by simp only [bne_iff_ne, ne_eq]; omega
      subst c1; clear c2
      go_enter Try.func11, Try.ntmps11
      go_wp2_with (go_at_call 16; refine (len64 m hm _).mono ?_; rintro e w' ⟨rfl, rfl⟩)
      go_ret
      exact ⟨rfl, (Below.refl _ _).alloc (Nat.le_refl _) _⟩
  · have e : wlen h m l = 128 + blen h := by unfold wlen; rw [if_pos c1]
    rw [e]; clear e
    have c3 : (((h : Int) != 0) : Bool) = true := by simp only [bne_iff_ne, ne_eq]; omega
    clear c1
    go_enter Try.func11, Try.ntmps11
    go_wp2_with (go_at_call 15; refine (len32 h hh _).mono ?_; rintro e w' ⟨rfl, rfl⟩)
    go_ret
    exact ⟨rfl, (Below.refl _ _).alloc (Nat.le_refl _) _⟩
/-! ### '(ID).BitLen' -/
theorem size22 : (Try.prog.info? 22).map (·.size) = some 20 := by kernel_rfl
theorem size23 : (Try.prog.info? 23).map (·.size) = some 20 := by kernel_rfl
theorem range_new (w : World) (bs : List UInt8) (t : TypeId) : (w.alloc (.cells (cells bs).toArray t)).rangeAt w.heap.size 0 (cells bs) := by
  have h := World.rangeAt_of_block (w := w.alloc (.cells (cells bs).toArray t)) (heap_alloc_last w _) 0 (cells bs).length
  simpa using h
set_option maxHeartbeats 1000000 in
theorem bitLen_any (bs : List UInt8) (hl : bs.length = 20) (w : World) :
    Calls Try.prog 5 #[.agg (cells bs).toArray] w fun e w' => e = .returned (.int .i64 (blen (Lib.beNat bs))) ∧ Below w.heap.size w w' := by
  have hsz : (cells bs).length = 20 := by rw [cells_length, hl]
  have hi' : (Try.prog.info? 23).map (·.size) = some (cells bs).length := by rw [hsz]; exact size23
  have hr := range_new w bs 23
  have hb : Below w.heap.size w (w.alloc (.cells (cells bs).toArray 23)) := (Below.refl _ w).alloc (Nat.le_refl _) _
  rw [← wlen_eq bs hl]
  go_enter Try.func5, Try.ntmps5
  go_wp2_with (first
    | (refine wpList_load_mid rfl 23 _ rfl w.heap.size 0 rfl (cells bs) _ hr Try.underlying23 rfl hi' ?_)
    | (go_at_call 10; refine (wide_any bs hl _).mono ?_; rintro e w1 ⟨rfl, h1⟩)
    | (go_at_call 11; refine (wbitLen_any _ _ _ (hi_lt bs) (mid_lt bs) (lo_lt bs hl) _).mono ?_; rintro e w2 ⟨rfl, h2⟩))
  go_ret
  have s1 := h1.size
  have s2 : (w.alloc (.cells (cells bs).toArray 23)).heap.size = w.heap.size + 1 := by simp
  exact ⟨rfl, hb.trans ((h1.mono (by omega)).trans (h2.mono (by omega)))⟩
end Go.Proofs.Qxb6609254a.idn
