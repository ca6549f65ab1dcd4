/-
  Seat b6613703a: from the model's integers to the plain law; the walks of bytesBelow (10), ZZBytesBelow (6), firstByteBelow (7).
-/
import Derived.Test.Qxb6613703aRows
import Derived.Test.Qxb6613703aWord
import Derived.WalkKit
import Derived.OpenShut
import Derived.Laws.Bits64b
namespace Go.Proofs.Qxb6613703a
open Go.RowKit
set_option linter.unusedVariables false

theorem bits_andNot_u64_nat (a b : Nat) (ha : a < 18446744073709551616) (hb : b < 18446744073709551616) :
    bits .andNot .u64 (a : Int) (b : Int) = ((a &&& (18446744073709551615 - b) : Nat) : Int) := by
  have hx : a &&& (18446744073709551615 - b) < 2 ^ 64 := Nat.and_lt_two_pow _ (by omega)
  have h1 : (BitVec.ofInt 64 (a : Int)).toNat = a := by
    rw [BitVec.ofInt_natCast, BitVec.toNat_ofNat]; exact Nat.mod_eq_of_lt (by omega)
  have h2 : (BitVec.ofInt 64 (b : Int)).toNat = b := by
    rw [BitVec.ofInt_natCast, BitVec.toNat_ofNat]; exact Nat.mod_eq_of_lt (by omega)
  show IntKind.u64.wrap ((BitVec.ofInt 64 (a : Int) &&& ~~~BitVec.ofInt 64 (b : Int)).toNat : Int) = _
  rw [BitVec.toNat_and, BitVec.toNat_not, h1, h2, IntKind.wrap_u64]
  simp only [Nat.reducePow, Nat.reduceSub]
  omega

/-- The answer over the model's integers. -/
def Wi (x n : Int) : Int := ((W x.toNat n.toNat : Nat) : Int)

theorem W_text (X N : Nat) : W X N = (((X + 18446744073709551616 - 72340172838076673 * N) % 18446744073709551616) &&& (18446744073709551615 - X)) &&& 9259542123273814144 := rfl

theorem below_eq (x n : Int) (hx0 : 0 ≤ x) (hx : x ≤ 18446744073709551615) (hn0 : 0 ≤ n) (hn : n ≤ 128) :
    bits .and .u64 (bits .andNot .u64 (IntKind.u64.wrap (x - 72340172838076673 * n)) x) 9259542123273814144 = Wi x n := by
  obtain ⟨X, rfl⟩ := Int.eq_ofNat_of_zero_le hx0
  obtain ⟨N, rfl⟩ := Int.eq_ofNat_of_zero_le hn0
  have e1 : IntKind.u64.wrap ((X : Int) - 72340172838076673 * (N : Int)) = (((X + 18446744073709551616 - 72340172838076673 * N) % 18446744073709551616 : Nat) : Int) := by
    rw [IntKind.wrap_u64]
    omega
  rw [e1, bits_andNot_u64_nat _ _ (Nat.mod_lt _ (by decide)) (by omega)]
  rw [show (9259542123273814144 : Int) = ((9259542123273814144 : Nat) : Int) from rfl, bits_and_u64_nat _ _ (Nat.lt_of_le_of_lt Nat.and_le_left (Nat.mod_lt _ (by decide))) (by decide)]
  unfold Wi
  rw [W_text]
  rfl

set_option maxRecDepth 100000 in
theorem below10 (x n : Int) (hx0 : 0 ≤ x) (hx : x ≤ 18446744073709551615) (hn0 : 0 ≤ n) (hn : n ≤ 128) (w : World) :
    Calls Try.prog 10 #[.int .u64 x, .int .u8 n] w fun e w' => e = .returned (.int .u64 (Wi x n)) ∧ w' = w := by
  have HE : Hid (bits .and .u64 (bits .andNot .u64 (IntKind.u64.wrap (x - 72340172838076673 * n)) x) 9259542123273814144 = Wi x n) := below_eq x n hx0 hx hn0 hn
  go_enter Try.func10, Try.ntmps10
  go_wp2
  go_ret
  exact ⟨by rw [← HE.out]; rfl, rfl⟩

theorem below6 (x n : Int) (hx0 : 0 ≤ x) (hx : x ≤ 18446744073709551615) (hn0 : 0 ≤ n) (hn : n ≤ 128) (w : World) :
    Calls Try.prog 6 #[.int .u64 x, .int .u8 n] w fun e w' => e = .returned (.int .u64 (Wi x n)) ∧ w' = w := by
  have h := below10 x n hx0 hx hn0 hn
  generalize Wi x n = g at h ⊢
  go_enter Try.func6, Try.ntmps6
  go_wp2_with (first
    | (go_at_call 10; refine (h _).mono ?_; rintro e w' ⟨rfl, rfl⟩)
    | go_in)
  go_ret
  exact ⟨rfl, rfl⟩

theorem byt_int (x n : Int) (hx0 : 0 ≤ x) (hn0 : 0 ≤ n) (k : Nat) : x / 2 ^ (8 * k) % 256 < n ↔ byt x.toNat k < n.toNat := by
  obtain ⟨X, rfl⟩ := Int.eq_ofNat_of_zero_le hx0
  obtain ⟨N, rfl⟩ := Int.eq_ofNat_of_zero_le hn0
  have e : ((X : Int) / 2 ^ (8 * k) % 256) = ((X / 2 ^ (8 * k) % 256 : Nat) : Int) := by
    rw [Int.natCast_emod, Int.natCast_ediv, Int.natCast_pow]
    rfl
  rw [e]
  unfold byt
  rw [show (256 : Nat) ^ k = 2 ^ (8 * k) by rw [Nat.pow_mul]]
  simp only [Int.toNat_natCast]
  omega

set_option maxRecDepth 100000 in
theorem first7 (x n : Int) (hx0 : 0 ≤ x) (hx : x ≤ 18446744073709551615) (hn0 : 0 ≤ n) (hn : n ≤ 128) (w : World) :
    Calls Try.prog 7 #[.int .u64 x, .int .u8 n] w fun e w' => ∃ f : Nat, e = .returned (.int .i64 f) ∧ First x.toNat n.toNat f ∧ w' = w := by
  go_enter Try.func7, Try.ntmps7
  go_wp2
  go_loop [5] (fun t => ∃ k : Nat, k ≤ 8 ∧ t = .int .i64 k ∧ Hid (∀ i, i < k → ¬ byt x.toNat i < n.toNat)) (fun t => 8 - (intOf t).toNat)
  case atStart => exact ⟨0, by omega, rfl, fun i hi => by omega⟩
  case round =>
    obtain ⟨k, hk, rfl, HK⟩ := hrel
    by_cases hkl : k < 8
    · go_wp2
      · have hb : x / 2 ^ (8 * k) % 256 < n := by assumption
        go_ret
        exact ⟨k, rfl, ⟨by omega, HK, fun _ => (byt_int x n hx0 hn0 k).1 hb⟩, rfl⟩
      · have hb : n ≤ x / 2 ^ (8 * k) % 256 := by assumption
        have hb' : ¬ byt x.toNat k < n.toNat := fun h => by have := (byt_int x n hx0 hn0 k).2 h; omega
        go_round
        case rel => exact ⟨k + 1, by omega, by go_num, fun i hi => by
          by_cases e : i = k
          · subst e; exact hb'
          · exact HK i (by omega)⟩
        case measure => simp [intOf]; omega
    · have hke : k = 8 := by omega
      subst hke
      go_wp2
      go_ret
      exact ⟨8, rfl, ⟨by omega, HK, fun h => by omega⟩, rfl⟩

end Go.Proofs.Qxb6613703a
