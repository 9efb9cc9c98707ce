/-
  'isZeroBytes' (function 7) and 'powerOfTwoID' (function 8).
-/
import Derived.Test.Qxb6609254aCmp
namespace Go.Proofs.Qxb6609254a.idn
open Go.RowKit

/-! ### 'isZeroBytes' -/
def isz (bs : List UInt8) : Bool := decide (Lib.beNat bs = 0)
set_option maxHeartbeats 1000000 in
theorem iszero_any (bs : List UInt8) (hl : bs.length = 20) (w : World) :
    Calls Try.prog 7 #[.agg (cells bs).toArray] w fun e w' => e = .returned (.bool (isz bs)) ∧ Below w.heap.size w w' := by
  have hsz : (cells bs).length = 20 := by rw [cells_length, hl]
  go_enter Try.func7, Try.ntmps7
  go_wp2
  go_loop [3] (fun i => ∃ k : Nat, k ≤ 20 ∧ i = .int .i64 k ∧ Zero bs k) (fun i => 20 - (intOf i).toNat)
  case atStart => exact ⟨0, by omega, rfl, fun j b hj => by omega⟩
  case round =>
    obtain ⟨k, hk, rfl, hz⟩ := hrel
    by_cases hlt : k < 20
    · have hc := cells_at bs k (by omega)
      have hs := scan_some bs k (by omega) hz
      have hzs := zero_succ bs k hz
      generalize (bs.getD k 0).toNat = x at hc hs hzs
      by_cases h0 : x = 0
      · have HZ : Hid (Zero bs (k + 1)) := hzs h0
        clear hzs hs
        have hb : (((x : Int) != 0) : Bool) = false := by simp [h0]
        clear h0
        go_wp2
        go_round
        case rel => exact ⟨k + 1, by omega, by go_num, HZ.out⟩
        case measure => simp [intOf]; omega
      · have hb : (((x : Int) != 0) : Bool) = true := by simp [h0]
        have E : Hid (isz bs = false) := decide_eq_false (hs h0)
        clear hs hzs h0
        go_wp2
        go_ret
        exact ⟨by rw [E.out]; rfl, (Below.refl _ _).alloc (Nat.le_refl _) _⟩
    · have E : Hid (isz bs = true) := decide_eq_true (scan_all bs (by rw [hl]; have : k = 20 := by omega
                                                                      rw [← this]; exact hz))
      go_wp2
      go_ret
      exact ⟨by rw [E.out]; rfl, (Below.refl _ _).alloc (Nat.le_refl _) _⟩

/-! ### 'powerOfTwoID' -/
/-- The twenty bytes of 2^k. -/
def pw (k : Nat) : List UInt8 := (List.replicate 20 (0 : UInt8)).set (19 - k / 8) (2 ^ (k % 8)).toUInt8
theorem pw_length (k : Nat) : (pw k).length = 20 := by simp [pw]
theorem two_lt (k : Nat) : 2 ^ (k % 8) < 256 := by
  have : 2 ^ (k % 8) ≤ 2 ^ 7 := Nat.pow_le_pow_right (by decide) (by omega)
  omega
theorem two_byte (k : Nat) : ((2 ^ (k % 8)).toUInt8 : UInt8).toNat = 2 ^ (k % 8) := by
  rw [Nat.toUInt8, UInt8.toNat_ofNat']
  exact Nat.mod_eq_of_lt (two_lt k)
theorem beNat_pw (k : Nat) (hk : k < 160) : Lib.beNat (pw k) = 2 ^ k := by
  have e : pw k = List.replicate (19 - k / 8) 0 ++ ((2 ^ (k % 8)).toUInt8 :: List.replicate (k / 8) 0) := by
    unfold pw
    have h1 : List.replicate 20 (0 : UInt8) = List.replicate (19 - k / 8) 0 ++ ((0 : UInt8) :: List.replicate (k / 8) 0) := by
      rw [← List.replicate_succ, List.replicate_append_replicate]
      congr 1
      omega
    rw [h1, List.set_append_right _ _ (by simp)]
    simp
  rw [e, beNat_append, beNat_cons, beNat_zeros _ (fun b hb => by rw [(List.mem_replicate.1 hb).2]; rfl), beNat_zeros _ (fun b hb => by rw [(List.mem_replicate.1 hb).2]; rfl), two_byte, List.length_replicate]
  rw [Nat.zero_mul, Nat.zero_add, Nat.add_zero, pow256, ← Nat.pow_add]
  congr 1
  omega
theorem zeros_at (i : Nat) (h : i < 20) : ([.int .u8 0, .int .u8 0, .int .u8 0, .int .u8 0, .int .u8 0, .int .u8 0, .int .u8 0, .int .u8 0, .int .u8 0, .int .u8 0, .int .u8 0, .int .u8 0, .int .u8 0, .int .u8 0, .int .u8 0, .int .u8 0, .int .u8 0, .int .u8 0, .int .u8 0, .int .u8 0] : List Value)[i]? = some (.int .u8 0) := by
  have e : ([.int .u8 0, .int .u8 0, .int .u8 0, .int .u8 0, .int .u8 0, .int .u8 0, .int .u8 0, .int .u8 0, .int .u8 0, .int .u8 0, .int .u8 0, .int .u8 0, .int .u8 0, .int .u8 0, .int .u8 0, .int .u8 0, .int .u8 0, .int .u8 0, .int .u8 0, .int .u8 0] : List Value) = List.replicate 20 (.int .u8 0) := rfl
  rw [e, List.getElem?_replicate, if_pos h]
theorem cells_pw (k : Nat) : ([.int .u8 0, .int .u8 0, .int .u8 0, .int .u8 0, .int .u8 0, .int .u8 0, .int .u8 0, .int .u8 0, .int .u8 0, .int .u8 0, .int .u8 0, .int .u8 0, .int .u8 0, .int .u8 0, .int .u8 0, .int .u8 0, .int .u8 0, .int .u8 0, .int .u8 0, .int .u8 0] : List Value).set (19 - k / 8) (.int .u8 (2 ^ (k % 8) % 256)) = cells (pw k) := by
  unfold cells pw
  rw [List.map_set, List.map_replicate, two_byte]
  have e : ((2 ^ (k % 8) : Nat) : Int) = (2 : Int) ^ (k % 8) % 256 := by
    have h := two_lt k
    have h2 : ((2 ^ (k % 8) : Nat) : Int) = (2 : Int) ^ (k % 8) := by rw [Int.natCast_pow]; rfl
    rw [← h2]
    generalize 2 ^ (k % 8) = n at h
    omega
  rw [e]
  rfl
theorem cells_one (bs : List UInt8) : (cells bs).toArray.all (·.oneCell') = true :=
  all_oneCell_toArray fun v hv => by
    obtain ⟨b, _, rfl⟩ := List.mem_map.1 hv
    rfl
/-- The world when the power lies in its own variable. -/
theorem pow_world (w : World) (k : Nat) (Z : Array Value) (hZ : Z.size = 20) :
    ((w.alloc (.cells Z 23)).alloc (.cells (cells (pw k)).toArray 23)).rangeAt (w.heap.size + 1) 0 (cells (pw k)) ∧ ((w.alloc (.cells Z 23)).alloc (.cells (cells (pw k)).toArray 23)).there w.heap.size 0 20 := by
  refine ⟨?_, ?_⟩
  · have h := World.rangeAt_of_block (w := (w.alloc (.cells Z 23)).alloc (.cells (cells (pw k)).toArray 23)) (heap_alloc2_new w _ _) 0 (cells (pw k)).length
    simpa using h
  · intro j hj
    refine ⟨?_, ?_⟩
    · rw [cell_of_row _ _ _ _ _ _ (heap_alloc2_old w _ _)]
      simp [hZ, hj]
    · simp [World.frozen?, heap_alloc2_old]
theorem below_setCells {B g : Nat} (hg : B ≤ g) : ∀ (vs : List Value) (o : Nat) (w : World), Below B w (w.setCells g o vs)
  | [], _, w => Below.refl B w
  | v :: r, o, w => by
    rw [World.setCells]
    exact ((Below.refl B w).setCell (p := ⟨g, o, none⟩) hg v).trans (below_setCells hg r (o + 1) _)
/-- A result that is a whole array in its own variable. -/
theorem results_cell_mid {P : Program} {fn : Func} {p : Tmp} {ty : TypeId} (h : fn.results = #[.cell p ty]) (tmps : Array Value) (w : World) (b : Nat) (cs : List Value) (d : TypeDesc)
    (hp : tmps.getD p undef = .pointer (some ⟨b, 0, none⟩)) (hc : w.rangeAt b 0 cs) (hu : P.underlying ty = some d) (hd : d.isRow = true) (hi : (P.info? ty).map (·.size) = some cs.length) :
    (results fn tmps).run P w = .ok (.agg cs.toArray) w := by
  have hp' : tmps[p]?.getD undef = .pointer (some ⟨b, 0, none⟩) := by simpa using hp
  simp [results, h, hp', asAddr, run_loadVar_mid w b 0 ty cs d hc hu hd hi]
set_option maxHeartbeats 1000000 in
theorem pow_any (k : Nat) (hk : k < 160) (w : World) :
    Calls Try.prog 8 #[.int .i64 k] w fun e w' => e = .returned (.agg (cells (pw k)).toArray) ∧ Below w.heap.size w w' := by
  have hz := zeros_at (19 - k / 8) (by omega)
  have hc := cells_pw k
  have hp := pow_world w k #[.int .u8 0, .int .u8 0, .int .u8 0, .int .u8 0, .int .u8 0, .int .u8 0, .int .u8 0, .int .u8 0, .int .u8 0, .int .u8 0, .int .u8 0, .int .u8 0, .int .u8 0, .int .u8 0, .int .u8 0, .int .u8 0, .int .u8 0, .int .u8 0, .int .u8 0, .int .u8 0] rfl
  have hl : (cells (pw k)).length = 20 := by rw [cells_length, pw_length]
  have hi1 : (Try.prog.info? 23).map (·.size) = some (cells (pw k)).length := by rw [hl]; exact size23
  have hi2 : (Try.prog.info? 23).map (·.size) = some (cells (pw k)).toArray.size := by rw [List.size_toArray, hl]; exact size23
  have ht := hp.2
  rw [show (20 : Nat) = (cells (pw k)).toArray.size from by rw [List.size_toArray, hl]] at ht
  have ht' := hp.2
  rw [← hl] at ht'
  go_enter Try.func8, Try.ntmps8
  go_wp2_with (first
    | (refine wpList_load_mid rfl 23 _ rfl (w.heap.size + 1) 0 rfl (cells (pw k)) _ hp.1 Try.underlying23 rfl hi1 ?_)
    | (refine wpList_store_mid rfl 23 _ _ rfl w.heap.size 0 (cells (pw k)).toArray rfl rfl ht hi2 (cells_one _) ?_))
  refine bodyPost_ret (v := .agg (cells (pw k)).toArray) (results_cell_mid Try.results8 _ _ w.heap.size (cells (pw k)) _ rfl (World.rangeAt_setCells_same _ _ _ _ ht') Try.underlying23 rfl hi1) rfl ⟨rfl, ?_⟩
  exact (((Below.refl _ w).alloc (Nat.le_refl _) _).alloc (by simp) _).trans (below_setCells (Nat.le_refl _) _ _ _)
end Go.Proofs.Qxb6609254a.idn
