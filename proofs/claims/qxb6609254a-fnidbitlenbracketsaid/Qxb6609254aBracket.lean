/-
  THE WALK OF THE LAW 'FnIDBitLenBracket' (function 4).
-/
import Derived.Test.Qxb6609254aPow
import Derived.Deep.QuietTactic
import Derived.BigQuiet
namespace Go.Proofs.Qxb6609254a.idn
open Go.RowKit

/-! ### The callees' contracts, in the law's two cases -/
theorem bitLen_zero (bs : List UInt8) (hl : bs.length = 20) (h0 : Lib.beNat bs = 0) (w : World) :
    Calls Try.prog 5 #[.agg (cells bs).toArray] w fun e w' => e = .returned (.int .i64 0) ∧ Below w.heap.size w w' := by
  have := bitLen_any bs hl w
  rwa [h0, blen_zero] at this
theorem bitLen_succ (bs : List UInt8) (hl : bs.length = 20) (c : Nat) (h : blen (Lib.beNat bs) = c + 1) (w : World) :
    Calls Try.prog 5 #[.agg (cells bs).toArray] w fun e w' => e = .returned (.int .i64 ((c : Int) + 1)) ∧ Below w.heap.size w w' := by
  have := bitLen_any bs hl w
  rwa [h, Int.natCast_add] at this
theorem iszero_yes (bs : List UInt8) (hl : bs.length = 20) (h0 : Lib.beNat bs = 0) (w : World) :
    Calls Try.prog 7 #[.agg (cells bs).toArray] w fun e w' => e = .returned (.bool true) ∧ Below w.heap.size w w' := by
  have := iszero_any bs hl w
  rwa [show isz bs = true from decide_eq_true h0] at this
theorem iszero_no (bs : List UInt8) (hl : bs.length = 20) (h0 : Lib.beNat bs ≠ 0) (w : World) :
    Calls Try.prog 7 #[.agg (cells bs).toArray] w fun e w' => e = .returned (.bool false) ∧ Below w.heap.size w w' := by
  have := iszero_any bs hl w
  rwa [show isz bs = false from decide_eq_false h0] at this
theorem pow_succ (c : Nat) (hk : c + 1 < 160) (w : World) :
    Calls Try.prog 8 #[.int .i64 ((c : Int) + 1)] w fun e w' => e = .returned (.agg (cells (pw (c + 1))).toArray) ∧ Below w.heap.size w w' := by
  have := pow_any (c + 1) hk w
  rwa [Int.natCast_add] at this
/-- 2^c is not above the number. -/
theorem cmp_low (bs : List UInt8) (hl : bs.length = 20) (c : Nat) (hc : c < 160) (h : 2 ^ c ≤ Lib.beNat bs) (w : World) :
    Calls Try.prog 9 #[.agg (cells (pw c)).toArray, .agg (cells bs).toArray] w fun e w' => ∃ r : Int, e = .returned (.int .i64 r) ∧ r ≤ 0 ∧ Below w.heap.size w w' :=
  (cmp_any (pw c) bs (pw_length c) hl w).mono fun e w' ⟨he, hb⟩ => ⟨_, he, by
    rw [beNat_pw c hc]; unfold ncmp; split
    · decide
    · rw [if_pos (by omega)]; decide, hb⟩
/-- The number is below 2^(c+1). -/
theorem cmp_high (bs : List UInt8) (hl : bs.length = 20) (c : Nat) (hc : c + 1 < 160) (h : Lib.beNat bs < 2 ^ (c + 1)) (w : World) :
    Calls Try.prog 9 #[.agg (cells bs).toArray, .agg (cells (pw (c + 1))).toArray] w fun e w' => ∃ r : Int, e = .returned (.int .i64 r) ∧ r < 0 ∧ Below w.heap.size w w' :=
  (cmp_any bs (pw (c + 1)) hl (pw_length (c + 1)) w).mono fun e w' ⟨he, hb⟩ => ⟨_, he, by
    rw [beNat_pw (c + 1) hc]; unfold ncmp; rw [if_pos h]; decide, hb⟩

/-! ### The law's two boxes -/
theorem Two.drew {w W : World} {xs bs : List UInt8} (h : Two w W xs bs) : Two w W.drew xs bs :=
  ⟨h.1.drew, h.2.1, (World.rangeAt_drew _ _ _ _).2 h.2.2.1, (World.rangeAt_drew _ _ _ _).2 h.2.2.2⟩
theorem wrap_small (c : Nat) (h : c < 160) : IntKind.i64.wrap (c : Int) = c := IntWalk.i64_in _ (by omega)
theorem box_there (w : World) (bs : List UInt8) (Z : Array Value) (hZ : Z.size = 20) :
    ((w.alloc (.cells (cells bs).toArray 22)).alloc (.cells Z 23)).there (w.heap.size + 1) 0 20 := by
  intro j hj
  refine ⟨?_, ?_⟩
  · rw [cell_of_row _ _ _ _ _ _ (heap_alloc2_new w _ _)]
    simp [hZ, hj]
  · unfold World.frozen?
    dsimp only
    rw [heap_alloc2_new]
    simp
theorem two_boxes (w : World) (bs : List UInt8) (hl : bs.length = 20) (Z : Array Value) (hZ : Z.size = 20) :
    Two w (((w.alloc (.cells (cells bs).toArray 22)).alloc (.cells Z 23)).setCells (w.heap.size + 1) 0 (cells bs)) bs bs := by
  have hs : (cells bs).length = 20 := by rw [cells_length, hl]
  have ht := box_there w bs Z hZ
  have hb := below_setCells (Nat.le_refl (w.heap.size + 1)) (cells bs) 0 ((w.alloc (.cells (cells bs).toArray 22)).alloc (.cells Z 23))
  refine ⟨(((Below.refl _ w).alloc (Nat.le_refl _) _).alloc (by simp) _).trans (hb.mono (by omega)), ?_, ?_, World.rangeAt_setCells_same _ _ _ _ (by rw [hs]; exact ht)⟩
  · have := hb.size
    simp at this
    omega
  · refine range_below hb (by omega) ?_
    have h := World.rangeAt_of_block (w := (w.alloc (.cells (cells bs).toArray 22)).alloc (.cells Z 23)) (heap_alloc2_old w _ _) 0 (cells bs).length
    simpa using h
set_option maxHeartbeats 1000000 in
theorem bracket_zero (bs : List UInt8) (hl : bs.length = 20) (h0 : Lib.beNat bs = 0) (w : World) :
    Calls Try.prog 4 #[.agg (cells bs).toArray] w fun e w' => e = .returned (.bool true) ∧ Below w.heap.size w w' := by
  have hsz : (cells bs).length = 20 := by rw [cells_length, hl]
  have r0 := range_new w bs 22
  have t0 := two_boxes w bs hl #[.int .u8 0, .int .u8 0, .int .u8 0, .int .u8 0, .int .u8 0, .int .u8 0, .int .u8 0, .int .u8 0, .int .u8 0, .int .u8 0, .int .u8 0, .int .u8 0, .int .u8 0, .int .u8 0, .int .u8 0, .int .u8 0, .int .u8 0, .int .u8 0, .int .u8 0, .int .u8 0] rfl
  have ht := box_there w bs #[.int .u8 0, .int .u8 0, .int .u8 0, .int .u8 0, .int .u8 0, .int .u8 0, .int .u8 0, .int .u8 0, .int .u8 0, .int .u8 0, .int .u8 0, .int .u8 0, .int .u8 0, .int .u8 0, .int .u8 0, .int .u8 0, .int .u8 0, .int .u8 0, .int .u8 0, .int .u8 0] rfl
  rw [show (20 : Nat) = (cells bs).toArray.size from by rw [List.size_toArray, hsz]] at ht
  have i22 : (Try.prog.info? 22).map (·.size) = some (cells bs).length := by rw [hsz]; exact size22
  have i23 : (Try.prog.info? 23).map (·.size) = some (cells bs).length := by rw [hsz]; exact size23
  have i23' : (Try.prog.info? 23).map (·.size) = some (cells bs).toArray.size := by rw [List.size_toArray, hsz]; exact size23
  have H0 : Hid (Lib.beNat bs = 0) := h0
  clear h0
  go_enter Try.func4, Try.ntmps4
  go_wp2_with (first
    | (refine wpList_load_mid rfl 22 _ rfl w.heap.size 0 rfl (cells bs) _ r0 Try.underlying22 rfl i22 ?_)
    | (refine wpList_store_mid rfl 23 _ _ rfl (w.heap.size + 1) 0 (cells bs).toArray rfl rfl ht i23' (cells_one _) ?_)
    | (refine wpList_load_mid rfl 23 _ rfl (w.heap.size + 1) 0 rfl (cells bs) _ t0.2.2.2 Try.underlying23 rfl i23 ?_)
    | (go_at_call 5; refine (bitLen_zero bs hl H0.out _).mono ?_; rintro e w1 ⟨rfl, h1⟩; have t1 := t0.next h1)
    | (refine wpList_load_mid rfl 22 _ rfl w.heap.size 0 rfl (cells bs) _ t1.2.2.1 Try.underlying22 rfl i22 ?_)
    | (go_at_call 7; refine (iszero_yes bs hl H0.out _).mono ?_; rintro e w2 ⟨rfl, h2⟩))
  go_ret
  exact ⟨rfl, (t1.next h2).1⟩

set_option maxRecDepth 100000 in
set_option maxHeartbeats 1000000 in
theorem bracket_some (bs : List UInt8) (hl : bs.length = 20) (c : Nat) (hc : c < 160) (hb : blen (Lib.beNat bs) = c + 1) (h0 : Lib.beNat bs ≠ 0) (w : World) :
    Calls Try.prog 4 #[.agg (cells bs).toArray] w fun e w' => e = .returned (.bool true) ∧ Below w.heap.size w w' := by
  have hlo : Hid (2 ^ c ≤ Lib.beNat bs) := by have := blen_lo _ h0; rwa [hb, Nat.add_sub_cancel] at this
  have hhi : Hid (Lib.beNat bs < 2 ^ (c + 1)) := by have := blen_hi (Lib.beNat bs); rwa [hb] at this
  have hsz : (cells bs).length = 20 := by rw [cells_length, hl]
  have r0 := range_new w bs 22
  have t0 := two_boxes w bs hl #[.int .u8 0, .int .u8 0, .int .u8 0, .int .u8 0, .int .u8 0, .int .u8 0, .int .u8 0, .int .u8 0, .int .u8 0, .int .u8 0, .int .u8 0, .int .u8 0, .int .u8 0, .int .u8 0, .int .u8 0, .int .u8 0, .int .u8 0, .int .u8 0, .int .u8 0, .int .u8 0] rfl
  have ht := box_there w bs #[.int .u8 0, .int .u8 0, .int .u8 0, .int .u8 0, .int .u8 0, .int .u8 0, .int .u8 0, .int .u8 0, .int .u8 0, .int .u8 0, .int .u8 0, .int .u8 0, .int .u8 0, .int .u8 0, .int .u8 0, .int .u8 0, .int .u8 0, .int .u8 0, .int .u8 0, .int .u8 0] rfl
  rw [show (20 : Nat) = (cells bs).toArray.size from by rw [List.size_toArray, hsz]] at ht
  have i22 : (Try.prog.info? 22).map (·.size) = some (cells bs).length := by rw [hsz]; exact size22
  have i23 : (Try.prog.info? 23).map (·.size) = some (cells bs).length := by rw [hsz]; exact size23
  have i23' : (Try.prog.info? 23).map (·.size) = some (cells bs).toArray.size := by rw [List.size_toArray, hsz]; exact size23
  have hu := Try.underlying23
  have H0 : Hid (Lib.beNat bs ≠ 0) := h0
  have HB : Hid (blen (Lib.beNat bs) = c + 1) := hb
  clear h0 hb
  go_enter Try.func4, Try.ntmps4
  go_wp2_with (first
    | (refine wpList_load_mid rfl 22 _ rfl w.heap.size 0 rfl (cells bs) _ r0 Try.underlying22 rfl i22 ?_)
    | (refine wpList_store_mid rfl 23 _ _ rfl (w.heap.size + 1) 0 (cells bs).toArray rfl rfl ht i23' (cells_one _) ?_)
    | (refine wpList_load_mid rfl 23 _ rfl (w.heap.size + 1) 0 rfl (cells bs) _ t0.2.2.2 Try.underlying23 rfl i23 ?_)
    | (go_at_call 5; refine (bitLen_succ bs hl c HB.out _).mono ?_; rintro e w1 ⟨rfl, h1⟩; have t1 := t0.next h1)
    | (refine wpList_load_mid rfl 22 _ rfl w.heap.size 0 rfl (cells bs) _ t1.2.2.1 Try.underlying22 rfl i22 ?_)
    | (go_at_call 7; refine (iszero_no bs hl H0.out _).mono ?_; rintro e w2 ⟨rfl, h2⟩; have t2 := t1.next h2; clear h1 h2 t0 t1 ht r0))
  have hwr : IntKind.i64.wrap (c : Int) = c := wrap_small c (by omega)
  refine wp_region_held_drew (S := fun w' => Two w w' bs bs) (by kernel_rfl) t2.drew (fun hHeld => ?_)
  -- the load of the box is taken first
  refine wpAnyH_take (i := 3) (v := .agg (cells bs).toArray) rfl (by kernel_rfl) (by kernel_rfl) (by kernel_rfl) (fun _ _ _ h => h) (yieldsIf_load_mid (by rfl) 23 (.tmp 3) rfl (w.heap.size + 1) 0 rfl (cells bs) _ (fun _ h => h.2.2.2) hu rfl i23) hHeld ?_
  simp only [Act.put]
  refine wpAnyH_ready (rs := [0]) (by kernel_rfl) (by simp) ?_
  refine AllReadyH.cons rfl (fun K hK => ?_) AllReadyH.nil
  go_simp
  refine hK.out _ _ hHeld (fun _ => ?_)
  clear hK K
  refine wpAnyH_ready (rs := [1]) (by kernel_rfl) (by simp) ?_
  refine AllReadyH.cons rfl (fun K hK => ?_) AllReadyH.nil
  go_simp
  refine hK.out _ _ hHeld (fun _ => ?_)
  clear hK K
  -- powerOfTwoID
  refine wpAnyH_ready (rs := [2]) (by kernel_rfl) (by simp) ?_
  refine AllReadyH.cons rfl (fun K hK => ?_) AllReadyH.nil
  go_simp
  refine (pow_any c (by omega) _).mono ?_
  rintro e w3 ⟨rfl, h3⟩
  refine hK.out _ _ (Two.next hHeld h3) (fun hHeld3 => ?_)
  clear hK K
  -- Cmp
  refine wpAnyH_ready (rs := [4]) (by kernel_rfl) (by simp) ?_
  refine AllReadyH.cons rfl (fun K hK => ?_) AllReadyH.nil
  go_simp
  refine (cmp_low bs hl c (by omega) hlo.out _).mono ?_
  rintro e w4 ⟨r, rfl, hr, h4⟩
  refine hK.out _ _ (Two.next hHeld3 h4) (fun t4 => ?_)
  clear hK K
  refine wpAnyH_ready (rs := [5]) (by kernel_rfl) (by simp) ?_
  refine AllReadyH.cons rfl (fun K hK => ?_) AllReadyH.nil
  go_simp
  refine hK.out _ _ t4 (fun _ => ?_)
  clear hK K
  refine wpAnyH_done (by kernel_rfl) ?_ _
  clear hwr hHeld hHeld3 h3 h4 t2
  go_wp2_with fail
  clear i22 i23'
  by_cases hc1 : c + 1 < 160
  · have hd : decide ((c : Int) + 1 < 160) = true := decide_eq_true (by omega)
    refine wp_region_held_drew (S := fun w' => Two w w' bs bs) (by kernel_rfl) t4.drew (fun hHeld => ?_)
    refine wpAnyH_ready (rs := [0]) (by kernel_rfl) (by simp) ?_
    refine AllReadyH.cons rfl (fun K hK => ?_) AllReadyH.nil
    go_simp
    refine hK.out _ _ hHeld (fun _ => ?_)
    clear hK K
    refine wpAnyH_ready (rs := [1]) (by kernel_rfl) (by simp) ?_
    refine AllReadyH.cons rfl (fun K hK => ?_) AllReadyH.nil
    go_simp
    refine hK.out _ _ hHeld (fun _ => ?_)
    clear hK K
    refine wpAnyH_ready (rs := [2]) (by kernel_rfl) (by simp) ?_
    refine AllReadyH.cons rfl (fun K hK => ?_) AllReadyH.nil
    go_simp
    refine hK.out _ _ hHeld (fun _ => ?_)
    clear hK K
    -- the load of the box
    refine wpAnyH_take (i := 3) (v := .agg (cells bs).toArray) rfl (by kernel_rfl) (by kernel_rfl) (by kernel_rfl) (fun _ _ _ h => h) (yieldsIf_load_mid (by rfl) 23 (.tmp 3) rfl (w.heap.size + 1) 0 rfl (cells bs) _ (fun _ h => h.2.2.2) hu rfl i23) hHeld ?_
    simp only [Act.put]
    refine wpAnyH_ready (rs := [4]) (by kernel_rfl) (by simp) ?_
    refine AllReadyH.cons rfl (fun K hK => ?_) AllReadyH.nil
    go_simp
    refine hK.out _ _ hHeld (fun _ => ?_)
    clear hK K
    -- powerOfTwoID
    refine wpAnyH_ready (rs := [5]) (by kernel_rfl) (by simp) ?_
    refine AllReadyH.cons rfl (fun K hK => ?_) AllReadyH.nil
    go_simp
    refine (pow_succ c hc1 _).mono ?_
    rintro e w5 ⟨rfl, h5⟩
    refine hK.out _ _ (Two.next hHeld h5) (fun t5 => ?_)
    clear hK K
    -- Cmp
    refine wpAnyH_ready (rs := [6]) (by kernel_rfl) (by simp) ?_
    refine AllReadyH.cons rfl (fun K hK => ?_) AllReadyH.nil
    go_simp
    refine (cmp_high bs hl c hc1 hhi.out _).mono ?_
    rintro e w6 ⟨q, rfl, hq, h6⟩
    refine hK.out _ _ (Two.next t5 h6) (fun t6 => ?_)
    clear hK K
    refine wpAnyH_ready (rs := [7]) (by kernel_rfl) (by simp) ?_
    refine AllReadyH.cons rfl (fun K hK => ?_) AllReadyH.nil
    go_simp
    refine hK.out _ _ t6 (fun _ => ?_)
    clear hK K
    refine wpAnyH_ready (rs := [8]) (by kernel_rfl) (by simp) ?_
    refine AllReadyH.cons rfl (fun K hK => ?_) AllReadyH.nil
    go_simp
    refine hK.out _ _ t6 (fun _ => ?_)
    clear hK K
    refine wpAnyH_done (by kernel_rfl) ?_ _
    clear hHeld t5 h5 h6 t4
    go_wp2
    go_ret
    exact ⟨rfl, t6.1⟩
  · have hd : decide ((c : Int) + 1 < 160) = false := decide_eq_false (by omega)
    go_quiet (fail)
    go_wp2
    go_ret
    exact ⟨rfl, t4.1.trans ⟨rfl, rfl, rfl, Nat.le_refl _, fun _ _ => rfl⟩⟩

/-- THE LAW's WALK. -/
theorem bracket_walk (bs : List UInt8) (hl : bs.length = 20) (w : World) :
    Calls Try.prog 4 #[.agg (cells bs).toArray] w fun e w' => e = .returned (.bool true) ∧ Below w.heap.size w w' := by
  by_cases h0 : Lib.beNat bs = 0
  · exact bracket_zero bs hl h0 w
  · obtain ⟨c, hc⟩ : ∃ c, blen (Lib.beNat bs) = c + 1 := ⟨_, blen_pos _ h0⟩
    have h160 := blen_le _ 160 (beNat_lt160 bs hl)
    exact bracket_some bs hl c (by omega) hc h0 w
end Go.Proofs.Qxb6609254a.idn
