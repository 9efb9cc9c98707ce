/-
  'bitLenByBytes' (function 6): the scan, byte by byte; and the walk of the law 'FnIDBitLenByteScan' (function 3).
-/
import Derived.Test.Qxb6609254aWide
namespace Go.Proofs.Qxb6609254a.idn
open Go.RowKit

theorem ret_int {k : IntKind} {a b : Int} (h : a = b) : Ending.returned (.int k a) = .returned (.int k b) := by rw [h]
theorem cells_at (bs : List UInt8) (k : Nat) (h : k < (cells bs).length) : (cells bs)[k] = .int .u8 ((bs.getD k 0).toNat : Int) := by
  have h' : k < bs.length := by rw [cells_length] at h; exact h
  have e := cells_get bs k
  rw [List.getElem?_eq_getElem h, List.getElem?_eq_getElem h'] at e
  have hd : bs.getD k 0 = bs[k] := by simp [List.getD, h']
  rw [hd]
  exact Option.some.inj e
set_option maxHeartbeats 1000000 in
theorem bytes_any (bs : List UInt8) (hl : bs.length = 20) (w : World) :
    Calls Try.prog 6 #[.agg (cells bs).toArray] w fun e w' => e = .returned (.int .i64 (blen (Lib.beNat bs))) ∧ w' = w.alloc (.cells (cells bs).toArray 22) := by
  have hsz : (cells bs).length = 20 := by rw [cells_length, hl]
  go_enter Try.func6, Try.ntmps6
  go_wp2
  go_loop [3] (fun i => ∃ k : Nat, k ≤ 20 ∧ i = .int .i64 k ∧ Zero bs k) (fun i => 20 - (intOf i).toNat)
  case atStart => exact ⟨0, by omega, rfl, fun j b hj => by omega⟩
  case round =>
    obtain ⟨k, hk, rfl, hz⟩ := hrel
    by_cases hlt : k < 20
    · have hc := cells_at bs k (by omega)
      have hs := scan_at bs k (by omega)
      have hx : (bs.getD k 0).toNat < 256 := (bs.getD k 0).toNat_lt
      have hzs := zero_succ bs k hz
      generalize (bs.getD k 0).toNat = x at hc hs hx hzs
      have HS : Hid (x ≠ 0 → blen (Lib.beNat bs) = (bs.length - 1 - k) * 8 + blen x) := hs hz
      clear hs
      by_cases h0 : x = 0
      · have HZ : Hid (Zero bs (k + 1)) := hzs h0
        clear hzs
        have hb : (((x : Int) != 0) : Bool) = false := by simp [h0]
        clear h0
        go_wp2
        go_round
        case rel => exact ⟨k + 1, by omega, by go_num, HZ.out⟩
        case measure => simp [intOf]; omega
      · have hb : (((x : Int) != 0) : Bool) = true := by simp [h0]
        have E : Hid (blen (Lib.beNat bs) = (20 - 1 - k) * 8 + blen x) := by have := HS.out h0; rw [hl] at this; exact this
        have hx8 : blen x ≤ 8 := blen_le x 8 hx
        clear HS hzs h0
        go_wp2
        go_loop [4, 5] (fun b n => ∃ y c : Nat, b = .int .u8 y ∧ n = .int .i64 c ∧ y < 256 ∧ c + blen y = blen x) (fun b _ => (intOf b).toNat)
        case atStart => exact ⟨x, 0, rfl, rfl, hx, by omega⟩
        case round =>
          obtain ⟨y, c, rfl, rfl, hy, hcy⟩ := hrel
          have HC : Hid (c + blen y = blen x) := hcy
          have hc8 : c ≤ 8 := by omega
          clear hcy
          by_cases hy0 : y = 0
          · have hb2 : (((y : Int) != 0) : Bool) = false := by simp [hy0]
            have HY : Hid (c = blen x) := by have := HC.out; rw [hy0, blen_zero] at this; exact this
            clear hy0 HC
            go_wp2
            go_ret
            exact ⟨ret_int (by rw [E.out, ← HY.out]; omega), rfl⟩
          · have hb2 : (((y : Int) != 0) : Bool) = true := by simp [hy0]
            have HY : Hid (c + 1 + blen (y / 2) = blen x) := by have := HC.out; rw [blen_half y hy0] at this; show c + 1 + blen (y / 2) = blen x; omega
            have hy1 : 0 < y := by omega
            clear hy0 HC
            go_wp2
            go_round
            case rel => exact ⟨y / 2, c + 1, by go_num, by go_num, by omega, HY.out⟩
            case measure => simp [intOf]; omega
    · go_wp2
      go_ret
      have e : k = 20 := by omega
      subst e
      have : Lib.beNat bs = 0 := scan_all bs (by rw [hl]; exact hz)
      exact ⟨ret_int (by rw [this]; rfl), rfl⟩
theorem bytes_below (bs : List UInt8) (hl : bs.length = 20) (w : World) :
    Calls Try.prog 6 #[.agg (cells bs).toArray] w fun e w' => e = .returned (.int .i64 (blen (Lib.beNat bs))) ∧ Below w.heap.size w w' :=
  (bytes_any bs hl w).mono fun e w' ⟨he, hw⟩ => ⟨he, by rw [hw]; exact (Below.refl _ w).alloc (Nat.le_refl _) _⟩

/-! ### A region with loads of the box and calls: what stands in it -/
theorem got_next {w W W' : World} {cs : List Value} (h : Below w.heap.size w W ∧ w.heap.size < W.heap.size ∧ W.rangeAt w.heap.size 0 cs) (hb : Below W.heap.size W W') :
    Below w.heap.size w W' ∧ w.heap.size < W'.heap.size ∧ W'.rangeAt w.heap.size 0 cs :=
  ⟨h.1.trans (hb.mono (Nat.le_of_lt h.2.1)), Nat.lt_of_lt_of_le h.2.1 hb.size, range_below hb h.2.1 h.2.2⟩
theorem got_start (w : World) (bs : List UInt8) (t : TypeId) :
    Below w.heap.size w (w.alloc (.cells (cells bs).toArray t)).drew ∧ w.heap.size < (w.alloc (.cells (cells bs).toArray t)).drew.heap.size ∧ (w.alloc (.cells (cells bs).toArray t)).drew.rangeAt w.heap.size 0 (cells bs) :=
  ⟨Below.drew ((Below.refl _ w).alloc (Nat.le_refl _) _), by simp [World.drew], (World.rangeAt_drew _ _ _ _).2 (range_new w bs t)⟩

set_option maxHeartbeats 1000000 in
theorem scan_walk (bs : List UInt8) (hl : bs.length = 20) (w : World) :
    Calls Try.prog 3 #[.agg (cells bs).toArray] w fun e w' => e = .returned (.bool true) ∧ Below w.heap.size w w' := by
  have hsz : (cells bs).length = 20 := by rw [cells_length, hl]
  have hi' : (Try.prog.info? 22).map (·.size) = some (cells bs).length := by rw [hsz]; exact size22
  have hu := Try.underlying22
  have s0 := got_start w bs 22
  go_enter Try.func3, Try.ntmps3
  go_wp2_with fail
  refine wp_region_held_drew (S := fun w' => Below w.heap.size w w' ∧ w.heap.size < w'.heap.size ∧ w'.rangeAt w.heap.size 0 (cells bs)) (by kernel_rfl) s0 (fun hHeld => ?_)
  -- the two loads of the box are taken first: they yield the same in every world of the region
  refine wpAnyH_take (i := 0) (v := .agg (cells bs).toArray) rfl (by kernel_rfl) (by kernel_rfl) (by kernel_rfl) (fun _ _ _ h => h) (yieldsIf_load_mid (by rfl) 22 (.tmp 1) rfl w.heap.size 0 rfl (cells bs) _ (fun _ h => h.2.2) hu rfl hi') hHeld ?_
  simp only [Act.put]
  refine wpAnyH_take (i := 2) (v := .agg (cells bs).toArray) rfl (by kernel_rfl) (by kernel_rfl) (by kernel_rfl) (fun _ _ _ h => h) (yieldsIf_load_mid (by rfl) 22 (.tmp 1) rfl w.heap.size 0 rfl (cells bs) _ (fun _ h => h.2.2) hu rfl hi') hHeld ?_
  simp only [Act.put]
  -- the first call
  refine wpAnyH_ready (rs := [1]) (by kernel_rfl) (by simp) ?_
  refine AllReadyH.cons rfl (fun K hK => ?_) AllReadyH.nil
  go_simp
  refine (bitLen_any bs hl _).mono ?_
  rintro e w1 ⟨rfl, h1⟩
  refine hK.out _ _ (got_next hHeld h1) (fun hHeld1 => ?_)
  clear hK K
  -- the second call
  refine wpAnyH_ready (rs := [3]) (by kernel_rfl) (by simp) ?_
  refine AllReadyH.cons rfl (fun K hK => ?_) AllReadyH.nil
  go_simp
  refine (bytes_below bs hl _).mono ?_
  rintro e w2 ⟨rfl, h2⟩
  refine hK.out _ _ (got_next hHeld1 h2) (fun hHeld2 => ?_)
  clear hK K
  -- the comparison and the result
  refine wpAnyH_ready (rs := [4]) (by kernel_rfl) (by simp) ?_
  refine AllReadyH.cons rfl (fun K hK => ?_) AllReadyH.nil
  go_simp
  refine hK.out _ _ hHeld2 (fun _ => ?_)
  clear hK K
  refine wpAnyH_ready (rs := [5]) (by kernel_rfl) (by simp) ?_
  refine AllReadyH.cons rfl (fun K hK => ?_) AllReadyH.nil
  go_simp
  refine hK.out _ _ hHeld2 (fun _ => ?_)
  clear hK K
  refine wpAnyH_done (by kernel_rfl) ?_ _
  go_wp2
  go_ret
  exact ⟨rfl, hHeld2.1⟩
end Go.Proofs.Qxb6609254a.idn
