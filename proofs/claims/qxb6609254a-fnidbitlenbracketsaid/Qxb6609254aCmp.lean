/-
  '(wide).cmp' (function 12) over math/bits.Sub64, and '(ID).Cmp' (function 9): they compare the numbers.
-/
import Derived.Test.Qxb6609254aScan
import Derived.Laws.BitsAllLaws
namespace Go.Proofs.Qxb6609254a.idn
open Go.RowKit

/-! ### Plain: the borrow, the three words -/
/-- The borrow of x - y, under a name. -/
def bor (x y : Int) : Int := if x < y then 1 else 0
theorem bor_bd (x y : Int) : 0 ≤ bor x y ∧ bor x y ≤ 1 := by unfold bor; split <;> decide
/-- How two numbers of three words compare. -/
def wcmp (h m l h' m' l' : Int) : Int :=
  if h * 340282366920938463463374607431768211456 + m * 18446744073709551616 + l < h' * 340282366920938463463374607431768211456 + m' * 18446744073709551616 + l' then -1
  else if h * 340282366920938463463374607431768211456 + m * 18446744073709551616 + l = h' * 340282366920938463463374607431768211456 + m' * 18446744073709551616 + l' then 0 else 1
/-- How two numbers compare. -/
def ncmp (a b : Nat) : Int := if a < b then -1 else if a = b then 0 else 1

theorem or_zero (x y z : Int) (x0 : 0 ≤ x) (x1 : x < 18446744073709551616) (y0 : 0 ≤ y) (y1 : y < 18446744073709551616) (z0 : 0 ≤ z) (z1 : z < 18446744073709551616) :
    (bits .or .u64 (bits .or .u64 x y) z != 0) = false ↔ x = 0 ∧ y = 0 ∧ z = 0 := by
  rw [u64_or x y x0 x1 y0 y1]
  have h1 : x.toNat ||| y.toNat < 2 ^ 64 := Nat.or_lt_two_pow (by omega) (by omega)
  rw [u64_or _ z (by omega) (by omega) z0 z1, Int.toNat_natCast]
  simp only [bne_eq_false_iff_eq]
  constructor
  · intro h
    have h2 : x.toNat ||| y.toNat ||| z.toNat = 0 := by omega
    rw [Nat.or_eq_zero_iff, Nat.or_eq_zero_iff] at h2
    omega
  · rintro ⟨rfl, rfl, rfl⟩
    rfl

/-- A borrow out of the top word: the first number is less. -/
theorem wcmp_lt (h m l h' m' l' : Int) (a3 : 0 ≤ m) (a4 : m < 18446744073709551616) (a5 : 0 ≤ l) (a6 : l < 18446744073709551616)
    (b3 : 0 ≤ m') (b4 : m' < 18446744073709551616) (b5 : 0 ≤ l') (b6 : l' < 18446744073709551616)
    (t : (bor h (h' + bor m (m' + bor l l')) != 0) = true) : (-1 : Int) = wcmp h m l h' m' l' := by
  simp only [bne_iff_ne, ne_eq] at t
  unfold wcmp
  rw [if_pos]
  unfold bor at t
  split at t <;> split at t <;> split at t <;> omega
/-- No borrow: the first number is not less. -/
theorem wcmp_ge (h m l h' m' l' : Int) (a3 : 0 ≤ m) (a4 : m < 18446744073709551616) (a5 : 0 ≤ l) (a6 : l < 18446744073709551616)
    (b3 : 0 ≤ m') (b4 : m' < 18446744073709551616) (b5 : 0 ≤ l') (b6 : l' < 18446744073709551616)
    (t : (bor h (h' + bor m (m' + bor l l')) != 0) = false) :
    ¬ (h * 340282366920938463463374607431768211456 + m * 18446744073709551616 + l < h' * 340282366920938463463374607431768211456 + m' * 18446744073709551616 + l') := by
  simp only [bne_eq_false_iff_eq] at t
  unfold bor at t
  split at t <;> split at t <;> split at t <;> omega
/-- No borrow, and the three differences are 0: the numbers are equal. -/
theorem wcmp_eq (h m l h' m' l' : Int) (a1 : 0 ≤ h) (a2 : h < 4294967296) (a3 : 0 ≤ m) (a4 : m < 18446744073709551616) (a5 : 0 ≤ l) (a6 : l < 18446744073709551616)
    (b1 : 0 ≤ h') (b2 : h' < 4294967296) (b3 : 0 ≤ m') (b4 : m' < 18446744073709551616) (b5 : 0 ≤ l') (b6 : l' < 18446744073709551616)
    (t : (bor h (h' + bor m (m' + bor l l')) != 0) = false)
    (u : (bits .or .u64 (bits .or .u64 ((l - l') % 18446744073709551616) ((m - m' - bor l l') % 18446744073709551616)) ((h - h' - bor m (m' + bor l l')) % 18446744073709551616) != 0) = false) :
    (0 : Int) = wcmp h m l h' m' l' := by
  have hg := wcmp_ge h m l h' m' l' a3 a4 a5 a6 b3 b4 b5 b6 t
  obtain ⟨u1, u2, u3⟩ := (or_zero _ _ _ (by omega) (by omega) (by omega) (by omega) (by omega) (by omega)).1 u
  clear u t
  unfold wcmp
  rw [if_neg hg, if_pos]
  clear hg
  have e1 : l = l' := by omega
  subst e1
  have z : bor l l = 0 := by unfold bor; rw [if_neg (by omega)]
  rw [z] at u2 u3
  have e2 : m = m' := by omega
  subst e2
  have z2 : bor m (m + 0) = 0 := by unfold bor; rw [if_neg (by omega)]
  rw [z2] at u3
  have e3 : h = h' := by omega
  rw [e3]
/-- No borrow, and one of the differences is not 0: the first number is greater. -/
theorem wcmp_gt (h m l h' m' l' : Int) (a3 : 0 ≤ m) (a4 : m < 18446744073709551616) (a5 : 0 ≤ l) (a6 : l < 18446744073709551616)
    (b1 : 0 ≤ h') (b2 : h' < 4294967296) (b3 : 0 ≤ m') (b4 : m' < 18446744073709551616) (b5 : 0 ≤ l') (b6 : l' < 18446744073709551616)
    (t : (bor h (h' + bor m (m' + bor l l')) != 0) = false)
    (u : (bits .or .u64 (bits .or .u64 ((l - l') % 18446744073709551616) ((m - m' - bor l l') % 18446744073709551616)) ((h - h' - bor m (m' + bor l l')) % 18446744073709551616) != 0) = true) :
    (1 : Int) = wcmp h m l h' m' l' := by
  have hg := wcmp_ge h m l h' m' l' a3 a4 a5 a6 b3 b4 b5 b6 t
  unfold wcmp
  rw [if_neg hg, if_neg]
  intro e
  have e3 : h = h' := by omega
  have e2 : m = m' := by omega
  have e1 : l = l' := by omega
  subst e1 e2 e3
  have z : bor l l = 0 := by unfold bor; rw [if_neg (by omega)]
  rw [z] at u
  have z2 : bor m (m + 0) = 0 := by unfold bor; rw [if_neg (by omega)]
  rw [z2] at u
  have := (or_zero ((l - l) % 18446744073709551616) ((m - m - 0) % 18446744073709551616) ((h - h - 0) % 18446744073709551616) (by omega) (by omega) (by omega) (by omega) (by omega) (by omega)).2 ⟨by omega, by omega, by omega⟩
  rw [this] at u
  cases u

/-! ### math/bits.Sub64, over Int -/
theorem sub64 (x y b : Int) (hx : 0 ≤ x) (hy : 0 ≤ y) (hy' : y < 18446744073709551616) (hb0 : 0 ≤ b) (hb : b ≤ 1) (w : World) : (callFunc 17 #[.int .u64 x, .int .u64 y, .int .u64 b]).run Try.prog w =
    .ok (.value (.tuple #[.int .u64 ((x - y - b) % 18446744073709551616), .int .u64 (bor x (y + b))])) w := by
  obtain ⟨x, rfl⟩ := Int.eq_ofNat_of_zero_le hx
  obtain ⟨y, rfl⟩ := Int.eq_ofNat_of_zero_le hy
  obtain ⟨b, rfl⟩ := Int.eq_ofNat_of_zero_le hb0
  have e1 : (((x + 18446744073709551616 - y - b) % 18446744073709551616 : Nat) : Int) = ((x : Int) - y - b) % 18446744073709551616 := by omega
  have e2 : ((if x < y + b then 1 else 0 : Nat) : Int) = bor (x : Int) ((y : Int) + b) := by unfold bor; split <;> split <;> omega
  rw [← e1, ← e2]
  exact Try.bits_Sub64 x y b (by omega) w
theorem sub64_0 (x y : Int) (hx : 0 ≤ x) (hy : 0 ≤ y) (hy' : y < 18446744073709551616) (w : World) : (callFunc 17 #[.int .u64 x, .int .u64 y, .int .u64 0]).run Try.prog w =
    .ok (.value (.tuple #[.int .u64 ((x - y) % 18446744073709551616), .int .u64 (bor x y)])) w := by
  simpa using sub64 x y 0 hx hy hy' (Int.le_refl 0) (by decide) w

/-! ### '(wide).cmp' -/
set_option maxHeartbeats 1000000 in
theorem wcmp_core (h m l h' m' l' : Int) (a1 : 0 ≤ h) (a2 : h < 4294967296) (a3 : 0 ≤ m) (a4 : m < 18446744073709551616) (a5 : 0 ≤ l) (a6 : l < 18446744073709551616)
    (b1 : 0 ≤ h') (b2 : h' < 4294967296) (b3 : 0 ≤ m') (b4 : m' < 18446744073709551616) (b5 : 0 ≤ l') (b6 : l' < 18446744073709551616) (w : World) :
    Calls Try.prog 12 #[.agg #[.int .u32 h, .int .u64 m, .int .u64 l], .agg #[.int .u32 h', .int .u64 m', .int .u64 l']] w fun e w' => e = .returned (.int .i64 (wcmp h m l h' m' l')) ∧ Below w.heap.size w w' := by
  obtain ⟨c3, c4⟩ := bor_bd l l'
  obtain ⟨c5, c6⟩ := bor_bd m (m' + bor l l')
  have b2' : h' < 18446744073709551616 := by omega
  go_enter Try.func12, Try.ntmps12
  go_wp2_with (first | simp only [sub64_0 l l' a5 b5 b6] | simp only [sub64 m m' _ a3 b3 b4 c3 c4] | simp only [sub64 h h' _ a1 b1 b2' c5 c6])
  · go_ret
    exact ⟨ret_int (wcmp_lt h m l h' m' l' a3 a4 a5 a6 b3 b4 b5 b6 (by assumption)), ((Below.refl _ _).alloc (Nat.le_refl _) _).alloc (by simp) _⟩
  · go_ret
    exact ⟨ret_int (wcmp_gt h m l h' m' l' a3 a4 a5 a6 b1 b2 b3 b4 b5 b6 (by assumption) (by assumption)), ((Below.refl _ _).alloc (Nat.le_refl _) _).alloc (by simp) _⟩
  · go_ret
    exact ⟨ret_int (wcmp_eq h m l h' m' l' a1 a2 a3 a4 a5 a6 b1 b2 b3 b4 b5 b6 (by assumption) (by assumption)), ((Below.refl _ _).alloc (Nat.le_refl _) _).alloc (by simp) _⟩
theorem wcmp_nat (h m l h' m' l' : Nat) : wcmp h m l h' m' l' = ncmp (h * 2 ^ 128 + (m * 2 ^ 64 + l)) (h' * 2 ^ 128 + (m' * 2 ^ 64 + l')) := by
  unfold wcmp ncmp
  split <;> split <;> (try split) <;> (try split) <;> omega
theorem wcmp_any (xs bs : List UInt8) (ha : xs.length = 20) (hb : bs.length = 20) (w : World) :
    Calls Try.prog 12 #[.agg #[.int .u32 (hi xs), .int .u64 (mid xs), .int .u64 (lo xs)], .agg #[.int .u32 (hi bs), .int .u64 (mid bs), .int .u64 (lo bs)]] w fun e w' =>
      e = .returned (.int .i64 (ncmp (Lib.beNat xs) (Lib.beNat bs))) ∧ Below w.heap.size w w' := by
  have a1 := hi_lt xs
  have a2 := mid_lt xs
  have a3 := lo_lt xs ha
  have b1 := hi_lt bs
  have b2 := mid_lt bs
  have b3 := lo_lt bs hb
  have h := wcmp_core (hi xs) (mid xs) (lo xs) (hi bs) (mid bs) (lo bs) (by omega) (by omega) (by omega) (by omega) (by omega) (by omega) (by omega) (by omega) (by omega) (by omega) (by omega) (by omega) w
  rw [wcmp_nat, ← words xs ha, ← words bs hb] at h
  exact h

/-! ### '(ID).Cmp' -/
/-- What stands in the region: of the old world nothing has turned; both boxes hold their bytes. -/
def Two (w W : World) (xs bs : List UInt8) : Prop :=
  Below w.heap.size w W ∧ w.heap.size + 1 < W.heap.size ∧ W.rangeAt w.heap.size 0 (cells xs) ∧ W.rangeAt (w.heap.size + 1) 0 (cells bs)
theorem Two.next {w W W' : World} {xs bs : List UInt8} (h : Two w W xs bs) (hb : Below W.heap.size W W') : Two w W' xs bs :=
  ⟨h.1.trans (hb.mono (by have := h.2.1; omega)), Nat.lt_of_lt_of_le h.2.1 hb.size, range_below hb (by have := h.2.1; omega) h.2.2.1, range_below hb h.2.1 h.2.2.2⟩
theorem two_start (w : World) (xs bs : List UInt8) : Two w ((w.alloc (.cells (cells xs).toArray 23)).alloc (.cells (cells bs).toArray 23)).drew xs bs := by
  refine ⟨Below.drew (((Below.refl _ w).alloc (Nat.le_refl _) _).alloc (by simp) _), by simp [World.drew], ?_, ?_⟩
  · have h := World.rangeAt_of_block (w := ((w.alloc (.cells (cells xs).toArray 23)).alloc (.cells (cells bs).toArray 23)).drew) (heap_alloc2_old w _ _) 0 (cells xs).length
    simpa using h
  · have h := World.rangeAt_of_block (w := ((w.alloc (.cells (cells xs).toArray 23)).alloc (.cells (cells bs).toArray 23)).drew) (heap_alloc2_new w _ _) 0 (cells bs).length
    simpa using h
set_option maxHeartbeats 1000000 in
theorem cmp_any (xs bs : List UInt8) (ha : xs.length = 20) (hb : bs.length = 20) (w : World) :
    Calls Try.prog 9 #[.agg (cells xs).toArray, .agg (cells bs).toArray] w fun e w' => e = .returned (.int .i64 (ncmp (Lib.beNat xs) (Lib.beNat bs))) ∧ Below w.heap.size w w' := by
  have hs1 : (cells xs).length = 20 := by rw [cells_length, ha]
  have hs2 : (cells bs).length = 20 := by rw [cells_length, hb]
  have hi1 : (Try.prog.info? 23).map (·.size) = some (cells xs).length := by rw [hs1]; exact size23
  have hi2 : (Try.prog.info? 23).map (·.size) = some (cells bs).length := by rw [hs2]; exact size23
  have hu := Try.underlying23
  have s0 := two_start w xs bs
  go_enter Try.func9, Try.ntmps9
  go_wp2_with fail
  refine wp_region_held_drew (S := fun w' => Two w w' xs bs) (by kernel_rfl) s0 (fun hHeld => ?_)
  -- the two loads of the boxes are taken first
  refine wpAnyH_take (i := 0) (v := .agg (cells xs).toArray) rfl (by kernel_rfl) (by kernel_rfl) (by kernel_rfl) (fun _ _ _ h => h) (yieldsIf_load_mid (by rfl) 23 (.tmp 2) rfl w.heap.size 0 rfl (cells xs) _ (fun _ h => h.2.2.1) hu rfl hi1) hHeld ?_
  simp only [Act.put]
  refine wpAnyH_take (i := 2) (v := .agg (cells bs).toArray) rfl (by kernel_rfl) (by kernel_rfl) (by kernel_rfl) (fun _ _ _ h => h) (yieldsIf_load_mid (by rfl) 23 (.tmp 3) rfl (w.heap.size + 1) 0 rfl (cells bs) _ (fun _ h => h.2.2.2) hu rfl hi2) hHeld ?_
  simp only [Act.put]
  -- the first call of wide
  refine wpAnyH_ready (rs := [1]) (by kernel_rfl) (by simp) ?_
  refine AllReadyH.cons rfl (fun K hK => ?_) AllReadyH.nil
  go_simp
  refine (wide_any xs ha _).mono ?_
  rintro e w1 ⟨rfl, h1⟩
  refine hK.out _ _ (hHeld.next h1) (fun hHeld1 => ?_)
  clear hK K
  -- the second call of wide
  refine wpAnyH_ready (rs := [3]) (by kernel_rfl) (by simp) ?_
  refine AllReadyH.cons rfl (fun K hK => ?_) AllReadyH.nil
  go_simp
  refine (wide_any bs hb _).mono ?_
  rintro e w2 ⟨rfl, h2⟩
  refine hK.out _ _ (Two.next hHeld1 h2) (fun hHeld2 => ?_)
  clear hK K
  -- the call of cmp, and the result
  refine wpAnyH_ready (rs := [4]) (by kernel_rfl) (by simp) ?_
  refine AllReadyH.cons rfl (fun K hK => ?_) AllReadyH.nil
  go_simp
  refine (wcmp_any xs bs ha hb _).mono ?_
  rintro e w3 ⟨rfl, h3⟩
  refine hK.out _ _ (Two.next hHeld2 h3) (fun hHeld3 => ?_)
  clear hK K
  refine wpAnyH_ready (rs := [5]) (by kernel_rfl) (by simp) ?_
  refine AllReadyH.cons rfl (fun K hK => ?_) AllReadyH.nil
  go_simp
  refine hK.out _ _ hHeld3 (fun _ => ?_)
  clear hK K
  refine wpAnyH_done (by kernel_rfl) ?_ _
  go_wp2
  go_ret
  exact ⟨rfl, hHeld3.1⟩
end Go.Proofs.Qxb6609254a.idn
