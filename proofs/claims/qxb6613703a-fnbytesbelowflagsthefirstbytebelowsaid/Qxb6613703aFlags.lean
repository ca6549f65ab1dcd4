/-
  Seat b6613703a: the walk of FnBytesBelowFlagsTheFirstByteBelow (3).
-/
import Derived.Test.Qxb6613703aBridge
namespace Go.Proofs.Qxb6613703a
open Go.RowKit
set_option linter.unusedVariables false

theorem bits_not_u64_nat (b : Nat) (hb : b < 18446744073709551616) : bits .xor .u64 IntKind.u64.max (b : Int) = ((18446744073709551615 - b : Nat) : Int) := by
  have h2 : (BitVec.ofInt 64 (b : Int)).toNat = b := by
    rw [BitVec.ofInt_natCast, BitVec.toNat_ofNat]; exact Nat.mod_eq_of_lt (by omega)
  have h1 : BitVec.ofInt 64 IntKind.u64.max = BitVec.allOnes 64 := by decide
  show IntKind.u64.wrap ((BitVec.ofInt 64 IntKind.u64.max ^^^ BitVec.ofInt 64 (b : Int)).toNat : Int) = _
  rw [h1, BitVec.allOnes_xor, BitVec.toNat_not, h2, IntKind.wrap_u64]
  simp only [Nat.reducePow, Nat.reduceSub]
  omega

/-- The lowest set bit, as the law reckons it. -/
theorem low_int (g : Nat) (hg : g < 18446744073709551616) (h0 : g ≠ 0) : bits .and .u64 (g : Int) (IntKind.u64.wrap (bits .xor .u64 IntKind.u64.max (g : Int) + 1)) = ((g &&& (18446744073709551616 - g) : Nat) : Int) := by
  rw [bits_not_u64_nat g hg]
  have e : IntKind.u64.wrap (((18446744073709551615 - g : Nat) : Int) + 1) = ((18446744073709551616 - g : Nat) : Int) := by
    rw [IntKind.wrap_u64]
    omega
  rw [e, bits_and_u64_nat g _ hg (by omega)]

theorem or_255 (A : Nat) : 256 * A ||| 255 = 256 * A + 255 := by
  have h := or_split (a := 0) (b := 255) (A := A) (B := 0) (by decide) (by decide)
  rw [Nat.zero_add, Nat.mul_zero, Nat.add_zero, Nat.zero_or, Nat.or_zero] at h
  omega

/-- The word with a byte 0xFF shifted in. -/
theorem shl_int (x : Int) (hx0 : 0 ≤ x) (hx : x ≤ 18446744073709551615) : bits .or .u64 (IntKind.u64.wrap (x * 256)) 255 = ((x.toNat * 256 % 18446744073709551616 + 255 : Nat) : Int) := by
  obtain ⟨X, rfl⟩ := Int.eq_ofNat_of_zero_le hx0
  have e1 : IntKind.u64.wrap ((X : Int) * 256) = ((256 * (X % 72057594037927936) : Nat) : Int) := by
    rw [IntKind.wrap_u64]
    omega
  rw [e1, show (255 : Int) = ((255 : Nat) : Int) from rfl, bits_or_u64_nat _ _ (by omega) (by decide), or_255]
  simp only [Int.toNat_natCast]
  omega

set_option maxHeartbeats 2000000 in
set_option maxRecDepth 100000 in
theorem flags_none (x n g0 g1 : Int) (hx0 : 0 ≤ x) (hx : x ≤ 18446744073709551615) (hn0 : 0 ≤ n) (hn : n ≤ 128) (w : World)
    (c0 : ∀ w, Calls Try.prog 6 #[.int .u64 x, .int .u8 n] w fun e w' => e = .returned (.int .u64 g0) ∧ w' = w)
    (c1 : ∀ w, Calls Try.prog 6 #[.int .u64 (bits .or .u64 (IntKind.u64.wrap (x * 256)) 255), .int .u8 n] w fun e w' => e = .returned (.int .u64 g1) ∧ w' = w)
    (c7 : ∀ w, Calls Try.prog 7 #[.int .u64 x, .int .u8 n] w fun e w' => e = .returned (.int .i64 8) ∧ w' = w)
    (e1 : bits .andNot .u64 g0 9259542123273814144 = 0) (e2 : IntKind.u64.wrap (g0 * 256) = g1) (e3 : (g0 != 0) = false) :
    Calls Try.prog 3 #[.int .u64 x, .int .u8 n] w fun e w' => e = .returned (.bool true) ∧ w' = w := by
  go_enter Try.func3, Try.ntmps3
  go_wp2_with (first
    | (go_at_call 6; have hm3 := hm1; clear hm3; refine (c1 _).mono ?_; rintro e w' ⟨rfl, rfl⟩)
    | (go_at_call 6; refine (c0 _).mono ?_; rintro e w' ⟨rfl, rfl⟩; have hm1 : Hid True := True.intro)
    | (go_at_call 7; refine (c7 _).mono ?_; rintro e w' ⟨rfl, rfl⟩))
  go_ret
  exact ⟨rfl, rfl⟩

theorem if_u64 : (if IntKind.u64.signed = true then (-1 : Int) else IntKind.u64.max) = IntKind.u64.max := rfl

set_option maxHeartbeats 2000000 in
set_option maxRecDepth 100000 in
theorem flags_0 (x n g0 g1 : Int) (hx0 : 0 ≤ x) (hx : x ≤ 18446744073709551615) (hn0 : 0 ≤ n) (hn : n ≤ 128) (w : World)
    (c0 : ∀ w, Calls Try.prog 6 #[.int .u64 x, .int .u8 n] w fun e w' => e = .returned (.int .u64 g0) ∧ w' = w)
    (c1 : ∀ w, Calls Try.prog 6 #[.int .u64 (bits .or .u64 (IntKind.u64.wrap (x * 256)) 255), .int .u8 n] w fun e w' => e = .returned (.int .u64 g1) ∧ w' = w)
    (c7 : ∀ w, Calls Try.prog 7 #[.int .u64 x, .int .u8 n] w fun e w' => e = .returned (.int .i64 0) ∧ w' = w)
    (e1 : bits .andNot .u64 g0 9259542123273814144 = 0) (e2 : IntKind.u64.wrap (g0 * 256) = g1)
    (e3 : bits .and .u64 g0 (IntKind.u64.wrap (bits .xor .u64 IntKind.u64.max g0 + 1)) = 128) :
    Calls Try.prog 3 #[.int .u64 x, .int .u8 n] w fun e w' => e = .returned (.bool true) ∧ w' = w := by
  have hif := if_u64
  go_enter Try.func3, Try.ntmps3
  go_wp2_with (first
    | (go_at_call 6; have hm3 := hm1; clear hm3; refine (c1 _).mono ?_; rintro e w' ⟨rfl, rfl⟩)
    | (go_at_call 6; refine (c0 _).mono ?_; rintro e w' ⟨rfl, rfl⟩; have hm1 : Hid True := True.intro)
    | (go_at_call 7; refine (c7 _).mono ?_; rintro e w' ⟨rfl, rfl⟩))
  go_ret
  exact ⟨rfl, rfl⟩

set_option maxHeartbeats 2000000 in
set_option maxRecDepth 100000 in
theorem flags_1 (x n g0 g1 : Int) (hx0 : 0 ≤ x) (hx : x ≤ 18446744073709551615) (hn0 : 0 ≤ n) (hn : n ≤ 128) (w : World)
    (c0 : ∀ w, Calls Try.prog 6 #[.int .u64 x, .int .u8 n] w fun e w' => e = .returned (.int .u64 g0) ∧ w' = w)
    (c1 : ∀ w, Calls Try.prog 6 #[.int .u64 (bits .or .u64 (IntKind.u64.wrap (x * 256)) 255), .int .u8 n] w fun e w' => e = .returned (.int .u64 g1) ∧ w' = w)
    (c7 : ∀ w, Calls Try.prog 7 #[.int .u64 x, .int .u8 n] w fun e w' => e = .returned (.int .i64 1) ∧ w' = w)
    (e1 : bits .andNot .u64 g0 9259542123273814144 = 0) (e2 : IntKind.u64.wrap (g0 * 256) = g1)
    (e3 : bits .and .u64 g0 (IntKind.u64.wrap (bits .xor .u64 IntKind.u64.max g0 + 1)) = 32768) :
    Calls Try.prog 3 #[.int .u64 x, .int .u8 n] w fun e w' => e = .returned (.bool true) ∧ w' = w := by
  have hif := if_u64
  go_enter Try.func3, Try.ntmps3
  go_wp2_with (first
    | (go_at_call 6; have hm3 := hm1; clear hm3; refine (c1 _).mono ?_; rintro e w' ⟨rfl, rfl⟩)
    | (go_at_call 6; refine (c0 _).mono ?_; rintro e w' ⟨rfl, rfl⟩; have hm1 : Hid True := True.intro)
    | (go_at_call 7; refine (c7 _).mono ?_; rintro e w' ⟨rfl, rfl⟩))
  go_ret
  exact ⟨rfl, rfl⟩

set_option maxHeartbeats 2000000 in
set_option maxRecDepth 100000 in
theorem flags_2 (x n g0 g1 : Int) (hx0 : 0 ≤ x) (hx : x ≤ 18446744073709551615) (hn0 : 0 ≤ n) (hn : n ≤ 128) (w : World)
    (c0 : ∀ w, Calls Try.prog 6 #[.int .u64 x, .int .u8 n] w fun e w' => e = .returned (.int .u64 g0) ∧ w' = w)
    (c1 : ∀ w, Calls Try.prog 6 #[.int .u64 (bits .or .u64 (IntKind.u64.wrap (x * 256)) 255), .int .u8 n] w fun e w' => e = .returned (.int .u64 g1) ∧ w' = w)
    (c7 : ∀ w, Calls Try.prog 7 #[.int .u64 x, .int .u8 n] w fun e w' => e = .returned (.int .i64 2) ∧ w' = w)
    (e1 : bits .andNot .u64 g0 9259542123273814144 = 0) (e2 : IntKind.u64.wrap (g0 * 256) = g1)
    (e3 : bits .and .u64 g0 (IntKind.u64.wrap (bits .xor .u64 IntKind.u64.max g0 + 1)) = 8388608) :
    Calls Try.prog 3 #[.int .u64 x, .int .u8 n] w fun e w' => e = .returned (.bool true) ∧ w' = w := by
  have hif := if_u64
  go_enter Try.func3, Try.ntmps3
  go_wp2_with (first
    | (go_at_call 6; have hm3 := hm1; clear hm3; refine (c1 _).mono ?_; rintro e w' ⟨rfl, rfl⟩)
    | (go_at_call 6; refine (c0 _).mono ?_; rintro e w' ⟨rfl, rfl⟩; have hm1 : Hid True := True.intro)
    | (go_at_call 7; refine (c7 _).mono ?_; rintro e w' ⟨rfl, rfl⟩))
  go_ret
  exact ⟨rfl, rfl⟩

set_option maxHeartbeats 2000000 in
set_option maxRecDepth 100000 in
theorem flags_3 (x n g0 g1 : Int) (hx0 : 0 ≤ x) (hx : x ≤ 18446744073709551615) (hn0 : 0 ≤ n) (hn : n ≤ 128) (w : World)
    (c0 : ∀ w, Calls Try.prog 6 #[.int .u64 x, .int .u8 n] w fun e w' => e = .returned (.int .u64 g0) ∧ w' = w)
    (c1 : ∀ w, Calls Try.prog 6 #[.int .u64 (bits .or .u64 (IntKind.u64.wrap (x * 256)) 255), .int .u8 n] w fun e w' => e = .returned (.int .u64 g1) ∧ w' = w)
    (c7 : ∀ w, Calls Try.prog 7 #[.int .u64 x, .int .u8 n] w fun e w' => e = .returned (.int .i64 3) ∧ w' = w)
    (e1 : bits .andNot .u64 g0 9259542123273814144 = 0) (e2 : IntKind.u64.wrap (g0 * 256) = g1)
    (e3 : bits .and .u64 g0 (IntKind.u64.wrap (bits .xor .u64 IntKind.u64.max g0 + 1)) = 2147483648) :
    Calls Try.prog 3 #[.int .u64 x, .int .u8 n] w fun e w' => e = .returned (.bool true) ∧ w' = w := by
  have hif := if_u64
  go_enter Try.func3, Try.ntmps3
  go_wp2_with (first
    | (go_at_call 6; have hm3 := hm1; clear hm3; refine (c1 _).mono ?_; rintro e w' ⟨rfl, rfl⟩)
    | (go_at_call 6; refine (c0 _).mono ?_; rintro e w' ⟨rfl, rfl⟩; have hm1 : Hid True := True.intro)
    | (go_at_call 7; refine (c7 _).mono ?_; rintro e w' ⟨rfl, rfl⟩))
  go_ret
  exact ⟨rfl, rfl⟩

set_option maxHeartbeats 2000000 in
set_option maxRecDepth 100000 in
theorem flags_4 (x n g0 g1 : Int) (hx0 : 0 ≤ x) (hx : x ≤ 18446744073709551615) (hn0 : 0 ≤ n) (hn : n ≤ 128) (w : World)
    (c0 : ∀ w, Calls Try.prog 6 #[.int .u64 x, .int .u8 n] w fun e w' => e = .returned (.int .u64 g0) ∧ w' = w)
    (c1 : ∀ w, Calls Try.prog 6 #[.int .u64 (bits .or .u64 (IntKind.u64.wrap (x * 256)) 255), .int .u8 n] w fun e w' => e = .returned (.int .u64 g1) ∧ w' = w)
    (c7 : ∀ w, Calls Try.prog 7 #[.int .u64 x, .int .u8 n] w fun e w' => e = .returned (.int .i64 4) ∧ w' = w)
    (e1 : bits .andNot .u64 g0 9259542123273814144 = 0) (e2 : IntKind.u64.wrap (g0 * 256) = g1)
    (e3 : bits .and .u64 g0 (IntKind.u64.wrap (bits .xor .u64 IntKind.u64.max g0 + 1)) = 549755813888) :
    Calls Try.prog 3 #[.int .u64 x, .int .u8 n] w fun e w' => e = .returned (.bool true) ∧ w' = w := by
  have hif := if_u64
  go_enter Try.func3, Try.ntmps3
  go_wp2_with (first
    | (go_at_call 6; have hm3 := hm1; clear hm3; refine (c1 _).mono ?_; rintro e w' ⟨rfl, rfl⟩)
    | (go_at_call 6; refine (c0 _).mono ?_; rintro e w' ⟨rfl, rfl⟩; have hm1 : Hid True := True.intro)
    | (go_at_call 7; refine (c7 _).mono ?_; rintro e w' ⟨rfl, rfl⟩))
  go_ret
  exact ⟨rfl, rfl⟩

set_option maxHeartbeats 2000000 in
set_option maxRecDepth 100000 in
theorem flags_5 (x n g0 g1 : Int) (hx0 : 0 ≤ x) (hx : x ≤ 18446744073709551615) (hn0 : 0 ≤ n) (hn : n ≤ 128) (w : World)
    (c0 : ∀ w, Calls Try.prog 6 #[.int .u64 x, .int .u8 n] w fun e w' => e = .returned (.int .u64 g0) ∧ w' = w)
    (c1 : ∀ w, Calls Try.prog 6 #[.int .u64 (bits .or .u64 (IntKind.u64.wrap (x * 256)) 255), .int .u8 n] w fun e w' => e = .returned (.int .u64 g1) ∧ w' = w)
    (c7 : ∀ w, Calls Try.prog 7 #[.int .u64 x, .int .u8 n] w fun e w' => e = .returned (.int .i64 5) ∧ w' = w)
    (e1 : bits .andNot .u64 g0 9259542123273814144 = 0) (e2 : IntKind.u64.wrap (g0 * 256) = g1)
    (e3 : bits .and .u64 g0 (IntKind.u64.wrap (bits .xor .u64 IntKind.u64.max g0 + 1)) = 140737488355328) :
    Calls Try.prog 3 #[.int .u64 x, .int .u8 n] w fun e w' => e = .returned (.bool true) ∧ w' = w := by
  have hif := if_u64
  go_enter Try.func3, Try.ntmps3
  go_wp2_with (first
    | (go_at_call 6; have hm3 := hm1; clear hm3; refine (c1 _).mono ?_; rintro e w' ⟨rfl, rfl⟩)
    | (go_at_call 6; refine (c0 _).mono ?_; rintro e w' ⟨rfl, rfl⟩; have hm1 : Hid True := True.intro)
    | (go_at_call 7; refine (c7 _).mono ?_; rintro e w' ⟨rfl, rfl⟩))
  go_ret
  exact ⟨rfl, rfl⟩

set_option maxHeartbeats 2000000 in
set_option maxRecDepth 100000 in
theorem flags_6 (x n g0 g1 : Int) (hx0 : 0 ≤ x) (hx : x ≤ 18446744073709551615) (hn0 : 0 ≤ n) (hn : n ≤ 128) (w : World)
    (c0 : ∀ w, Calls Try.prog 6 #[.int .u64 x, .int .u8 n] w fun e w' => e = .returned (.int .u64 g0) ∧ w' = w)
    (c1 : ∀ w, Calls Try.prog 6 #[.int .u64 (bits .or .u64 (IntKind.u64.wrap (x * 256)) 255), .int .u8 n] w fun e w' => e = .returned (.int .u64 g1) ∧ w' = w)
    (c7 : ∀ w, Calls Try.prog 7 #[.int .u64 x, .int .u8 n] w fun e w' => e = .returned (.int .i64 6) ∧ w' = w)
    (e1 : bits .andNot .u64 g0 9259542123273814144 = 0) (e2 : IntKind.u64.wrap (g0 * 256) = g1)
    (e3 : bits .and .u64 g0 (IntKind.u64.wrap (bits .xor .u64 IntKind.u64.max g0 + 1)) = 36028797018963968) :
    Calls Try.prog 3 #[.int .u64 x, .int .u8 n] w fun e w' => e = .returned (.bool true) ∧ w' = w := by
  have hif := if_u64
  go_enter Try.func3, Try.ntmps3
  go_wp2_with (first
    | (go_at_call 6; have hm3 := hm1; clear hm3; refine (c1 _).mono ?_; rintro e w' ⟨rfl, rfl⟩)
    | (go_at_call 6; refine (c0 _).mono ?_; rintro e w' ⟨rfl, rfl⟩; have hm1 : Hid True := True.intro)
    | (go_at_call 7; refine (c7 _).mono ?_; rintro e w' ⟨rfl, rfl⟩))
  go_ret
  exact ⟨rfl, rfl⟩

set_option maxHeartbeats 2000000 in
set_option maxRecDepth 100000 in
theorem flags_7 (x n g0 g1 : Int) (hx0 : 0 ≤ x) (hx : x ≤ 18446744073709551615) (hn0 : 0 ≤ n) (hn : n ≤ 128) (w : World)
    (c0 : ∀ w, Calls Try.prog 6 #[.int .u64 x, .int .u8 n] w fun e w' => e = .returned (.int .u64 g0) ∧ w' = w)
    (c1 : ∀ w, Calls Try.prog 6 #[.int .u64 (bits .or .u64 (IntKind.u64.wrap (x * 256)) 255), .int .u8 n] w fun e w' => e = .returned (.int .u64 g1) ∧ w' = w)
    (c7 : ∀ w, Calls Try.prog 7 #[.int .u64 x, .int .u8 n] w fun e w' => e = .returned (.int .i64 7) ∧ w' = w)
    (e1 : bits .andNot .u64 g0 9259542123273814144 = 0) (e2 : IntKind.u64.wrap (g0 * 256) = g1)
    (e3 : bits .and .u64 g0 (IntKind.u64.wrap (bits .xor .u64 IntKind.u64.max g0 + 1)) = 9223372036854775808) :
    Calls Try.prog 3 #[.int .u64 x, .int .u8 n] w fun e w' => e = .returned (.bool true) ∧ w' = w := by
  have hif := if_u64
  go_enter Try.func3, Try.ntmps3
  go_wp2_with (first
    | (go_at_call 6; have hm3 := hm1; clear hm3; refine (c1 _).mono ?_; rintro e w' ⟨rfl, rfl⟩)
    | (go_at_call 6; refine (c0 _).mono ?_; rintro e w' ⟨rfl, rfl⟩; have hm1 : Hid True := True.intro)
    | (go_at_call 7; refine (c7 _).mono ?_; rintro e w' ⟨rfl, rfl⟩))
  go_ret
  exact ⟨rfl, rfl⟩

/-! ### put together -/
theorem first_ex (X N : Nat) : ∃ f, First X N f := by
  have h : ∀ k, k ≤ 8 → (∃ f, f < k ∧ (∀ i, i < f → ¬ byt X i < N) ∧ byt X f < N) ∨ ∀ i, i < k → ¬ byt X i < N := by
    intro k
    induction k with
    | zero => intro _; exact .inr (fun i hi => by omega)
    | succ k ih =>
      intro hk
      rcases ih (by omega) with ⟨f, h1, h2, h3⟩ | h
      · exact .inl ⟨f, by omega, h2, h3⟩
      · by_cases hb : byt X k < N
        · exact .inl ⟨k, by omega, h, hb⟩
        · refine .inr (fun i hi => ?_)
          by_cases e : i = k
          · subst e; exact hb
          · exact h i (by omega)
  rcases h 8 (by omega) with ⟨f, h1, h2, h3⟩ | h
  · exact ⟨f, by omega, h2, fun _ => h3⟩
  · exact ⟨8, by omega, h, fun h => by omega⟩
theorem first_one {X N f f' : Nat} (h : First X N f) (h' : First X N f') : f = f' := by
  rcases Nat.lt_trichotomy f f' with hl | hl | hl
  · exact absurd (h.2.2 (by have := h'.1; omega)) (h'.2.1 f hl)
  · exact hl
  · exact absurd (h'.2.2 (by have := h.1; omega)) (h.2.1 f' hl)

theorem flags_any (x n : Int) (hx0 : 0 ≤ x) (hx : x ≤ 18446744073709551615) (hn0 : 0 ≤ n) (hn : n ≤ 128) (w : World) :
    Calls Try.prog 3 #[.int .u64 x, .int .u8 n] w fun e w' => e = .returned (.bool true) ∧ w' = w := by
  have hX : x.toNat < 18446744073709551616 := by omega
  have hN : n.toNat ≤ 128 := by omega
  have hW := W_lt hN hX
  obtain ⟨f, hf⟩ := first_ex x.toNat n.toNat
  have p1 := shl_int x hx0 hx
  have q1 : Wi (bits .or .u64 (IntKind.u64.wrap (x * 256)) 255) n = ((W (x.toNat * 256 % 18446744073709551616 + 255) n.toNat : Nat) : Int) := by rw [p1]; rfl
  have c0 := fun w => below6 x n hx0 hx hn0 hn w
  have c1 := fun w => below6 (bits .or .u64 (IntKind.u64.wrap (x * 256)) 255) n (by rw [p1]; omega) (by rw [p1]; omega) hn0 hn w
  have c7 : ∀ w, Calls Try.prog 7 #[.int .u64 x, .int .u8 n] w fun e w' => e = .returned (.int .i64 f) ∧ w' = w := fun w =>
    (first7 x n hx0 hx hn0 hn w).mono fun e w' ⟨f', he, hf', hw⟩ => ⟨by rw [first_one hf hf']; exact he, hw⟩
  have e1 : bits .andNot .u64 (Wi x n) 9259542123273814144 = 0 := by
    show bits .andNot .u64 ((W x.toNat n.toNat : Nat) : Int) ((9259542123273814144 : Nat) : Int) = 0
    rw [bits_andNot_u64_nat _ _ hW (by decide), show 18446744073709551615 - 9259542123273814144 = 9187201950435737471 from rfl, no_other hN hX]
    rfl
  have e2 : IntKind.u64.wrap (Wi x n * 256) = Wi (bits .or .u64 (IntKind.u64.wrap (x * 256)) 255) n := by
    rw [q1, shift_in hN hX, IntKind.wrap_u64]
    unfold Wi
    omega
  by_cases h8 : f = 8
  · subst h8
    exact flags_none x n _ _ hx0 hx hn0 hn w c0 c1 c7 e1 e2 (by unfold Wi; rw [first_none hN hX hf]; rfl)
  · have hlt : f < 8 := by have := hf.1; omega
    obtain ⟨h0, hb⟩ := first_bit hN hX hf hlt
    have e3 : bits .and .u64 (Wi x n) (IntKind.u64.wrap (bits .xor .u64 IntKind.u64.max (Wi x n) + 1)) = ((2 ^ (8 * f + 7) : Nat) : Int) := by
      unfold Wi
      rw [low_int _ hW h0, hb]
    clear hf hb h0 h8
    obtain rfl | rfl | rfl | rfl | rfl | rfl | rfl | rfl : f = 0 ∨ f = 1 ∨ f = 2 ∨ f = 3 ∨ f = 4 ∨ f = 5 ∨ f = 6 ∨ f = 7 := by omega
    · exact flags_0 x n _ _ hx0 hx hn0 hn w c0 c1 c7 e1 e2 e3
    · exact flags_1 x n _ _ hx0 hx hn0 hn w c0 c1 c7 e1 e2 e3
    · exact flags_2 x n _ _ hx0 hx hn0 hn w c0 c1 c7 e1 e2 e3
    · exact flags_3 x n _ _ hx0 hx hn0 hn w c0 c1 c7 e1 e2 e3
    · exact flags_4 x n _ _ hx0 hx hn0 hn w c0 c1 c7 e1 e2 e3
    · exact flags_5 x n _ _ hx0 hx hn0 hn w c0 c1 c7 e1 e2 e3
    · exact flags_6 x n _ _ hx0 hx hn0 hn w c0 c1 c7 e1 e2 e3
    · exact flags_7 x n _ _ hx0 hx hn0 hn w c0 c1 c7 e1 e2 e3

theorem flags_all (x n : Int) (h0 : (Lit.int .u64 x).wf = true) (h1 : (Lit.int .u8 n).wf = true) (w : World) :
    Calls Try.prog 3 #[.int .u64 x, .int .u8 n] w fun e w' => e = .returned (.bool true) ∧ Below w.heap.size w w' := by
  obtain ⟨hx0, hx⟩ := bounds_u64 h0
  obtain ⟨hn0, hn2⟩ := bounds_u8 h1
  by_cases hn : n ≤ 128
  · exact (flags_any x n hx0 hx hn0 hn w).mono fun e w' ⟨h, hw⟩ => ⟨h, by rw [hw]; exact Below.refl _ _⟩
  · go_enter Try.func3, Try.ntmps3
    go_wp2
    go_ret
    exact ⟨rfl, Below.refl _ _⟩

end Go.Proofs.Qxb6613703a
