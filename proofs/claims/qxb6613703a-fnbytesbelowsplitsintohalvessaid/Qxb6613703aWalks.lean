/-
  Seat b6613703a: the walks of FnBytesBelowSplitsIntoHalves (4) and FnBytesBelowFlagsTheFirstByteBelow (3).
-/
import Derived.Test.Qxb6613703aBridge
namespace Go.Proofs.Qxb6613703a
open Go.RowKit
set_option linter.unusedVariables false

/-! ### the halves -/
theorem or_ones (y : Nat) (h : y < 2 ^ 32) : y ||| (2 ^ 32 - 1) = 2 ^ 32 - 1 := by
  apply Nat.eq_of_testBit_eq
  intro i
  rw [Nat.testBit_or, Nat.testBit_two_pow_sub_one]
  by_cases hi : i < 32
  · simp [hi]
  · rw [Nat.testBit_lt_two_pow (Nat.lt_of_lt_of_le h (Nat.pow_le_pow_right (by decide) (by omega)))]
    rfl
theorem or_pad (x : Nat) (hx : x < 18446744073709551616) : x ||| 18446744069414584320 = x % 4294967296 + 18446744069414584320 := by
  have h1 := Nat.or_mod_two_pow (a := x) (b := 18446744069414584320) (n := 32)
  have h2 := Nat.or_div_two_pow (a := x) (b := 18446744069414584320) (n := 32)
  have h3 := or_ones (x / 4294967296) (by simp only [Nat.reducePow]; omega)
  simp only [Nat.reducePow, Nat.reduceSub] at h1 h2 h3
  rw [show 18446744069414584320 % 4294967296 = 0 from rfl, Nat.or_zero] at h1
  rw [show 18446744069414584320 / 4294967296 = 4294967295 from rfl, h3] at h2
  omega
theorem or_pad_int (x : Int) (hx0 : 0 ≤ x) (hx : x ≤ 18446744073709551615) : bits .or .u64 x 18446744069414584320 = ((x.toNat % 4294967296 + 18446744069414584320 : Nat) : Int) := by
  obtain ⟨X, rfl⟩ := Int.eq_ofNat_of_zero_le hx0
  rw [show (18446744069414584320 : Int) = ((18446744069414584320 : Nat) : Int) from rfl, bits_or_u64_nat _ _ (by omega) (by decide), or_pad X (by omega)]
  rfl

/-- Is a byte of the low half, among the first k, below n? -/
def LB (X N k : Nat) : Bool := (byts (min k 4) X).any fun b => decide (b < N)
/-- .. of the high half? -/
def HB (X N k : Nat) : Bool := (byts (k - 4) (X / 4294967296)).any fun b => decide (b < N)

theorem LB_low {X N k : Nat} (hk : k < 4) : LB X N (k + 1) = (LB X N k || decide (byt X k < N)) := by
  unfold LB
  rw [show min (k + 1) 4 = k + 1 by omega, show min k 4 = k by omega, byts_snoc, List.any_append, List.any_cons, List.any_nil, Bool.or_false]
  rfl
theorem LB_high {X N k : Nat} (hk : 4 ≤ k) : LB X N (k + 1) = LB X N k := by
  unfold LB
  rw [show min (k + 1) 4 = 4 by omega, show min k 4 = 4 by omega]
theorem HB_low {X N k : Nat} (hk : k < 4) : HB X N (k + 1) = HB X N k := by
  unfold HB
  rw [show k + 1 - 4 = 0 by omega, show k - 4 = 0 by omega]
theorem HB_high {X N k : Nat} (hk : 4 ≤ k) : HB X N (k + 1) = (HB X N k || decide (byt X k < N)) := by
  unfold HB
  rw [show k + 1 - 4 = (k - 4) + 1 by omega, byts_snoc, List.any_append, Nat.div_div_eq_div_mul]
  rw [show 4294967296 * 256 ^ (k - 4) = 256 ^ k by rw [show (4294967296 : Nat) = 256 ^ 4 from rfl, ← Nat.pow_add, show 4 + (k - 4) = k by omega], List.any_cons, List.any_nil, Bool.or_false]
  rfl
theorem any_iff (l : List Nat) (N : Nat) : (l.any fun b => decide (b < N)) = true ↔ ∃ b ∈ l, b < N := by simp

theorem ne_zero_int (a : Nat) (b : Bool) (h : a ≠ 0 ↔ b = true) : (((a : Nat) : Int) != 0) = b := by
  cases b
  · have : a = 0 := by
      rcases Nat.eq_zero_or_pos a with h1 | h1
      · exact h1
      · have := h.1 (by omega); cases this
    simp [this]
  · have := h.2 rfl
    simp; omega

set_option maxHeartbeats 2000000 in
set_option maxRecDepth 100000 in
theorem splits_core (x n g0 g1 g2 : Int) (hx0 : 0 ≤ x) (hx : x ≤ 18446744073709551615) (hn0 : 0 ≤ n) (hn : n ≤ 128) (w : World)
    (c0 : ∀ w, Calls Try.prog 6 #[.int .u64 x, .int .u8 n] w fun e w' => e = .returned (.int .u64 g0) ∧ w' = w)
    (c1 : ∀ w, Calls Try.prog 6 #[.int .u64 (bits .or .u64 x 18446744069414584320), .int .u8 n] w fun e w' => e = .returned (.int .u64 g1) ∧ w' = w)
    (c2 : ∀ w, Calls Try.prog 6 #[.int .u64 (bits .or .u64 (x / 4294967296) 18446744069414584320), .int .u8 n] w fun e w' => e = .returned (.int .u64 g2) ∧ w' = w)
    (e1 : bits .and .u64 g0 2155905152 = g1) (e2 : (g1 != 0) = LB x.toNat n.toNat 8) (e3 : (g2 != 0) = HB x.toNat n.toNat 8) (e4 : (g0 != 0) = (LB x.toNat n.toNat 8 || HB x.toNat n.toNat 8)) :
    Calls Try.prog 4 #[.int .u64 x, .int .u8 n] w fun e w' => e = .returned (.bool true) ∧ w' = w := by
  have E1 : Hid (bits .and .u64 g0 2155905152 = g1) := e1
  have E2 : Hid ((g1 != 0) = LB x.toNat n.toNat 8) := e2
  have E3 : Hid ((g2 != 0) = HB x.toNat n.toNat 8) := e3
  have E4 : Hid ((g0 != 0) = (LB x.toNat n.toNat 8 || HB x.toNat n.toNat 8)) := e4
  clear e1 e2 e3 e4
  go_enter Try.func4, Try.ntmps4
  go_wp2_with (first
    | (go_at_call 6; have hm3 := hm2; clear hm3; refine (c2 _).mono ?_; rintro e w' ⟨rfl, rfl⟩)
    | (go_at_call 6; have hm3 := hm1; clear hm3; refine (c1 _).mono ?_; rintro e w' ⟨rfl, rfl⟩; have hm2 : Hid True := True.intro)
    | (go_at_call 6; refine (c0 _).mono ?_; rintro e w' ⟨rfl, rfl⟩; have hm1 : Hid True := True.intro))
  clear c0 c1 c2
  go_loop [8, 9, 10] (fun l h t => ∃ k : Nat, ∃ lb hb : Bool, k ≤ 8 ∧ t = .int .i64 k ∧ l = .bool lb ∧ h = .bool hb ∧ Hid (lb = LB x.toNat n.toNat k) ∧ Hid (hb = HB x.toNat n.toNat k)) (fun _ _ t => 8 - (intOf t).toNat)
  case atStart => exact ⟨0, false, false, by omega, rfl, rfl, rfl, rfl, rfl⟩
  case round =>
    obtain ⟨k, lb, hb, hk, rfl, rfl, rfl, HL, HH⟩ := hrel
    by_cases hkl : k < 8
    · go_wp2
      · have hby := (byt_int x n hx0 hn0 k).1 (by assumption)
        have hk4 : k < 4 := by omega
        go_round
        case rel => exact ⟨k + 1, true, hb, by omega, by go_num, rfl, rfl, by show _ = _; rw [LB_low hk4]; simp [hby], by show _ = _; rw [HB_low hk4]; exact HH⟩
        case measure => simp [intOf]; omega
      · have hby := (byt_int x n hx0 hn0 k).1 (by assumption)
        have hk4 : 4 ≤ k := by omega
        go_round
        case rel => exact ⟨k + 1, lb, true, by omega, by go_num, rfl, rfl, by show _ = _; rw [LB_high hk4]; exact HL, by show _ = _; rw [HB_high hk4]; simp [hby]⟩
        case measure => simp [intOf]; omega
      · have hge : n ≤ x / 2 ^ (8 * k) % 256 := by assumption
        have hby : ¬ byt x.toNat k < n.toNat := fun h => by have := (byt_int x n hx0 hn0 k).2 h; omega
        go_round
        case rel => exact ⟨k + 1, lb, hb, by omega, by go_num, rfl, rfl, by
            show _ = _
            rcases Nat.lt_or_ge k 4 with h | h
            · rw [LB_low h]; simp [hby]; exact HL
            · rw [LB_high h]; exact HL, by
            show _ = _
            rcases Nat.lt_or_ge k 4 with h | h
            · rw [HB_low h]; exact HH
            · rw [HB_high h]; simp [hby]; exact HH⟩
        case measure => simp [intOf]; omega
    · have hke : k = 8 := by omega
      subst hke
      have e2 := E2.out
      have e3 := E3.out
      have e4 := E4.out
      rw [← HL.out] at e2 e4
      rw [← HH.out] at e3 e4
      have e1 := E1.out
      clear E1 E2 E3 E4 HL HH
      cases lb <;> cases hb <;> (go_wp2; go_ret; exact ⟨rfl, rfl⟩)

theorem splits_any (x n : Int) (hx0 : 0 ≤ x) (hx : x ≤ 18446744073709551615) (hn0 : 0 ≤ n) (hn : n ≤ 128) (w : World) :
    Calls Try.prog 4 #[.int .u64 x, .int .u8 n] w fun e w' => e = .returned (.bool true) ∧ w' = w := by
  have hX : x.toNat < 18446744073709551616 := by omega
  have hN : n.toNat ≤ 128 := by omega
  have p1 := or_pad_int x hx0 hx
  have p2 := or_pad_int (x / 4294967296) (by omega) (by omega)
  have b1 : ∀ y : Nat, ((y % 4294967296 + 18446744069414584320 : Nat) : Int) ≤ 18446744073709551615 := fun y => by omega
  have hd : (x / 4294967296).toNat = x.toNat / 4294967296 := by omega
  have q1 : Wi (bits .or .u64 x 18446744069414584320) n = ((W (x.toNat % 4294967296 + 18446744069414584320) n.toNat : Nat) : Int) := by rw [p1]; rfl
  have q2 : Wi (bits .or .u64 (x / 4294967296) 18446744069414584320) n = ((W (x.toNat / 4294967296 % 4294967296 + 18446744069414584320) n.toNat : Nat) : Int) := by rw [p2, hd]; rfl
  refine splits_core x n _ _ _ hx0 hx hn0 hn w (fun w => below6 x n hx0 hx hn0 hn w) (fun w => below6 _ n (by rw [p1]; omega) (by rw [p1]; exact b1 _) hn0 hn w) (fun w => below6 _ n (by rw [p2]; omega) (by rw [p2]; exact b1 _) hn0 hn w) ?_ ?_ ?_ ?_
  · rw [q1, ← low_half hN hX]
    exact bits_and_u64_nat (W x.toNat n.toNat) 2155905152 (W_lt hN hX) (by decide)
  · rw [q1]
    refine ne_zero_int _ _ ?_
    rw [low_any hN]
    exact (any_iff _ _).symm
  · rw [q2]
    refine ne_zero_int _ _ ?_
    rw [low_any hN]
    exact (any_iff _ _).symm
  · refine ne_zero_int (W x.toNat n.toNat) _ ?_
    rw [word_any2 hN hX, Bool.or_eq_true]
    exact or_congr (any_iff _ _).symm (any_iff _ _).symm

end Go.Proofs.Qxb6613703a
