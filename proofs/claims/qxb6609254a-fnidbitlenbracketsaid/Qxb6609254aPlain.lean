/-
  PLAIN MATHEMATICS: NO Go IN SIGHT. The number of bits of a number ('blen'), the number that bytes spell with the greatest first ('Lib.beNat'), the first byte that is not 0, and the three words.
-/
import Derived.Lib.Endian
import Derived.Lib.BitFns
namespace Go.Proofs.Qxb6609254a.idn

/-- How many bits n takes: 0 for 0, else the j + 1 for which 2^j ≤ n < 2^(j+1). -/
def blen (n : Nat) : Nat := if n = 0 then 0 else n.log2 + 1

theorem blen_zero : blen 0 = 0 := rfl
theorem blen_pos (n : Nat) (h : n ≠ 0) : blen n = n.log2 + 1 := by unfold blen; rw [if_neg h]
theorem blen_ne (n : Nat) (h : n ≠ 0) : blen n ≠ 0 := by rw [blen_pos n h]; omega
theorem blen_of (n k : Nat) (h1 : 2 ^ k ≤ n) (h2 : n < 2 ^ (k + 1)) : blen n = k + 1 := by
  have hn : n ≠ 0 := by have := Nat.two_pow_pos k; omega
  rw [blen_pos n hn, (Nat.log2_eq_iff hn).2 ⟨h1, h2⟩]
theorem blen_lo (n : Nat) (h : n ≠ 0) : 2 ^ (blen n - 1) ≤ n := by
  rw [blen_pos n h, Nat.add_sub_cancel]; exact Nat.log2_self_le h
theorem blen_hi (n : Nat) : n < 2 ^ blen n := by
  by_cases h : n = 0
  · subst h; decide
  · rw [blen_pos n h]; exact Nat.lt_log2_self
theorem blen_le (n k : Nat) (h : n < 2 ^ k) : blen n ≤ k := by
  by_cases h0 : n = 0
  · subst h0; exact Nat.zero_le _
  · have := blen_lo n h0
    have h2 : 2 ^ (blen n - 1) < 2 ^ k := Nat.lt_of_le_of_lt this h
    have := (Nat.pow_lt_pow_iff_right (by decide : 1 < 2)).1 h2
    have := blen_ne n h0
    omega
theorem blen_shift (a b k : Nat) (ha : a ≠ 0) (hb : b < 2 ^ k) : blen (a * 2 ^ k + b) = k + blen a := by
  have h1 := blen_lo a ha
  have h2 := blen_hi a
  have h3 := blen_pos a ha
  rw [h3] at h1 h2
  rw [h3, Nat.add_sub_cancel] at *
  have e : k + (a.log2 + 1) = (a.log2 + k) + 1 := by omega
  rw [e]
  refine blen_of _ _ ?_ ?_
  · rw [Nat.pow_add]
    exact Nat.le_trans (Nat.mul_le_mul_right _ h1) (Nat.le_add_right _ _)
  · have e2 : a.log2 + k + 1 = (a.log2 + 1) + k := by omega
    rw [e2, Nat.pow_add]
    have h5 : (a + 1) * 2 ^ k ≤ 2 ^ (a.log2 + 1) * 2 ^ k := Nat.mul_le_mul_right _ h2
    rw [Nat.add_mul, Nat.one_mul] at h5
    omega
theorem blen_half (n : Nat) (h : n ≠ 0) : blen n = blen (n / 2) + 1 := by
  by_cases h1 : n / 2 = 0
  · have : n = 1 := by omega
    subst this; decide
  · have e : n = n / 2 * 2 ^ 1 + n % 2 := by omega
    have := blen_shift (n / 2) (n % 2) 1 h1 (by omega)
    rw [← e] at this
    omega

theorem bitLenAux_eq : ∀ (f x : Nat), x < 2 ^ f → Lib.bitLenAux f x = blen x
  | 0, x, h => by
    have : x = 0 := by simpa using h
    subst this; rfl
  | f + 1, x, h => by
    by_cases h0 : x = 0
    · subst h0; rfl
    · rw [Lib.bitLenAux, if_neg h0, bitLenAux_eq f (x / 2) (by rw [Nat.pow_succ] at h; omega), blen_half x h0]
      omega
theorem bitLen_eq (x : Nat) (h : x < 2 ^ 64) : Lib.bitLen x = blen x := bitLenAux_eq 64 x h

/-! ### The number that bytes spell -/
theorem beFrom_eq : ∀ (l : List UInt8) (acc : Nat), Lib.beFrom acc l = acc * 256 ^ l.length + Lib.beNat l
  | [], acc => by simp [Lib.beFrom, Lib.beNat]
  | b :: r, acc => by
    have h1 := beFrom_eq r (acc * 256 + b.toNat)
    have h2 := beFrom_eq r (0 * 256 + b.toNat)
    simp only [Lib.beNat, Lib.beFrom] at *
    rw [h1, h2, List.length_cons, Nat.pow_succ, Nat.add_mul, Nat.add_mul]
    have : acc * 256 * 256 ^ r.length = acc * (256 ^ r.length * 256) := by rw [Nat.mul_assoc, Nat.mul_comm 256]
    omega
theorem beNat_nil : Lib.beNat [] = 0 := rfl
theorem beNat_cons (b : UInt8) (r : List UInt8) : Lib.beNat (b :: r) = b.toNat * 256 ^ r.length + Lib.beNat r := by
  have := beFrom_eq r (0 * 256 + b.toNat)
  rw [Nat.zero_mul, Nat.zero_add] at this
  rw [← this]
  simp only [Lib.beNat, Lib.beFrom, Nat.zero_mul, Nat.zero_add]
theorem beNat_lt : ∀ l : List UInt8, Lib.beNat l < 256 ^ l.length
  | [] => by decide
  | b :: r => by
    rw [beNat_cons, List.length_cons, Nat.pow_succ]
    have h1 := beNat_lt r
    have h2 : b.toNat < 256 := b.toNat_lt
    have h3 : (b.toNat + 1) * 256 ^ r.length ≤ 256 * 256 ^ r.length := Nat.mul_le_mul_right _ h2
    rw [Nat.add_mul, Nat.one_mul] at h3
    rw [Nat.mul_comm (256 ^ r.length)]
    omega
theorem beNat_append : ∀ l r : List UInt8, Lib.beNat (l ++ r) = Lib.beNat l * 256 ^ r.length + Lib.beNat r
  | [], r => by simp [beNat_nil]
  | b :: l, r => by
    rw [List.cons_append, beNat_cons, beNat_cons, beNat_append l r, List.length_append, Nat.pow_add, Nat.add_mul, Nat.mul_assoc]
    omega
theorem beNat_zeros : ∀ l : List UInt8, (∀ b ∈ l, b.toNat = 0) → Lib.beNat l = 0
  | [], _ => rfl
  | b :: r, h => by
    rw [beNat_cons, h b (by simp), beNat_zeros r (fun c hc => h c (by simp [hc]))]
    simp
theorem pow256 (n : Nat) : 256 ^ n = 2 ^ (n * 8) := by
  rw [Nat.mul_comm, Nat.pow_mul]

/-! ### The byte-by-byte scan -/
/-- The first i bytes are 0. -/
def Zero (bs : List UInt8) (i : Nat) : Prop := ∀ j b, j < i → bs[j]? = some b → b.toNat = 0

theorem zero_take (bs : List UInt8) (i : Nat) (h : Zero bs i) : Lib.beNat (bs.take i) = 0 :=
  beNat_zeros _ fun b hb => by
    obtain ⟨j, hj, e⟩ := List.getElem_of_mem hb
    rw [List.getElem_take] at e
    have hj' : j < i := by rw [List.length_take] at hj; omega
    have hj2 : j < bs.length := by rw [List.length_take] at hj; omega
    exact h j b hj' (by rw [← e]; exact List.getElem?_eq_getElem hj2)
theorem zero_succ (bs : List UInt8) (i : Nat) (h : Zero bs i) (h0 : (bs.getD i 0).toNat = 0) : Zero bs (i + 1) := fun j b hj e => by
  by_cases hji : j = i
  · subst hji
    have : bs.getD j 0 = b := by simp [List.getD, e]
    rw [← this]; exact h0
  · exact h j b (by omega) e
/-- Where the first i bytes are 0 and the next is not, the number's bits are counted off that byte. -/
theorem scan_at (bs : List UInt8) (i : Nat) (hi : i < bs.length) (h : Zero bs i) (hne : (bs.getD i 0).toNat ≠ 0) :
    blen (Lib.beNat bs) = (bs.length - 1 - i) * 8 + blen (bs.getD i 0).toNat := by
  have e : bs = bs.take i ++ (bs[i] :: bs.drop (i + 1)) := by
    rw [List.getElem_cons_drop, List.take_append_drop]
  have hd : bs.getD i 0 = bs[i] := by simp [List.getD, hi]
  rw [hd] at hne ⊢
  have e2 : Lib.beNat bs = bs[i].toNat * 2 ^ ((bs.length - 1 - i) * 8) + Lib.beNat (bs.drop (i + 1)) := by
    have e3 : Lib.beNat bs = Lib.beNat (bs.take i ++ (bs[i] :: bs.drop (i + 1))) := by rw [← e]
    rw [e3, beNat_append, zero_take bs i h, beNat_cons, Nat.zero_mul, Nat.zero_add, ← pow256, List.length_drop]
    congr 3
    omega
  rw [e2]
  refine blen_shift _ _ _ hne ?_
  have := beNat_lt (bs.drop (i + 1))
  rw [pow256, List.length_drop] at this
  have e4 : bs.length - (i + 1) = bs.length - 1 - i := by omega
  rw [e4] at this
  exact this
theorem scan_all (bs : List UInt8) (h : Zero bs bs.length) : Lib.beNat bs = 0 := by
  have := zero_take bs bs.length h
  rwa [List.take_length] at this
theorem scan_some (bs : List UInt8) (i : Nat) (hi : i < bs.length) (h : Zero bs i) (hne : (bs.getD i 0).toNat ≠ 0) : Lib.beNat bs ≠ 0 := fun e => by
  have := scan_at bs i hi h hne
  rw [e, blen_zero] at this
  have := blen_ne _ hne
  omega

/-! ### The three words -/
def hi (bs : List UInt8) : Nat := Lib.beNat (bs.take 4)
def mid (bs : List UInt8) : Nat := Lib.beNat ((bs.drop 4).take 8)
def lo (bs : List UInt8) : Nat := Lib.beNat (bs.drop 12)

theorem hi_lt (bs : List UInt8) : hi bs < 4294967296 := by
  have := beNat_lt (bs.take 4)
  have h2 : (bs.take 4).length ≤ 4 := List.length_take_le _ _
  have h3 : 256 ^ (bs.take 4).length ≤ 256 ^ 4 := Nat.pow_le_pow_right (by decide) h2
  exact Nat.lt_of_lt_of_le this h3
theorem mid_lt (bs : List UInt8) : mid bs < 18446744073709551616 := by
  have := beNat_lt ((bs.drop 4).take 8)
  have h2 : ((bs.drop 4).take 8).length ≤ 8 := List.length_take_le _ _
  have h3 : 256 ^ ((bs.drop 4).take 8).length ≤ 256 ^ 8 := Nat.pow_le_pow_right (by decide) h2
  exact Nat.lt_of_lt_of_le this h3
theorem lo_lt (bs : List UInt8) (h : bs.length = 20) : lo bs < 18446744073709551616 := by
  have := beNat_lt (bs.drop 12)
  rw [List.length_drop, h] at this
  exact this
theorem words (bs : List UInt8) (h : bs.length = 20) : Lib.beNat bs = hi bs * 2 ^ 128 + (mid bs * 2 ^ 64 + lo bs) := by
  have e : bs = bs.take 4 ++ ((bs.drop 4).take 8 ++ bs.drop 12) := by
    have : bs.drop 12 = (bs.drop 4).drop 8 := by rw [List.drop_drop]
    rw [this, List.take_append_drop, List.take_append_drop]
  have e3 : Lib.beNat bs = Lib.beNat (bs.take 4 ++ ((bs.drop 4).take 8 ++ bs.drop 12)) := by rw [← e]
  rw [e3, beNat_append, beNat_append]
  have l1 : (bs.drop 12).length = 8 := by rw [List.length_drop, h]
  have l2 : ((bs.drop 4).take 8 ++ bs.drop 12).length = 16 := by rw [List.length_append, l1, List.length_take, List.length_drop, h]; rfl
  rw [l1, l2]
  rfl
/-- The bits of a number of three words. -/
def wlen (h m l : Nat) : Nat := if h ≠ 0 then 128 + blen h else if m ≠ 0 then 64 + blen m else blen l
theorem wlen_eq (bs : List UInt8) (h : bs.length = 20) : wlen (hi bs) (mid bs) (lo bs) = blen (Lib.beNat bs) := by
  have h1 := mid_lt bs
  have h2 := lo_lt bs h
  rw [words bs h]
  unfold wlen
  by_cases a : hi bs = 0
  · rw [if_neg (by simpa using a), a, Nat.zero_mul, Nat.zero_add]
    by_cases b : mid bs = 0
    · rw [if_neg (by simpa using b), b, Nat.zero_mul, Nat.zero_add]
    · rw [if_pos b, blen_shift _ _ _ b h2]
  · rw [if_pos a, blen_shift _ _ _ a (by omega)]
theorem beNat_lt160 (bs : List UInt8) (h : bs.length = 20) : Lib.beNat bs < 2 ^ 160 := by
  have := beNat_lt bs
  rw [h] at this
  exact this
end Go.Proofs.Qxb6609254a.idn
