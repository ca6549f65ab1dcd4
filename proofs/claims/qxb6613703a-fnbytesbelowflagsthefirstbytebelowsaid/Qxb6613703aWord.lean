/-
  Seat b6613703a: THE PLAIN LAW at eight bytes: the halves, the shift by a byte, the lowest set bit.
-/
import Derived.Test.Qxb6613703aPlain
namespace Go.Proofs.Qxb6613703a
set_option linter.unusedVariables false

/-- The low k bytes of a number, the least first. -/
def byts : Nat → Nat → List Nat
  | 0, _ => []
  | k + 1, x => x % 256 :: byts k (x / 256)
theorem byts_len : ∀ k x, (byts k x).length = k
  | 0, _ => rfl
  | k + 1, x => by show (byts k (x / 256)).length + 1 = k + 1; rw [byts_len k]
theorem byts_byt : ∀ k x, Byt (byts k x)
  | 0, _ => Byt.nil
  | k + 1, x => Byt.cons (Nat.mod_lt _ (by decide)) (byts_byt k _)
theorem byts_val : ∀ k x, val (byts k x) = x % 256 ^ k
  | 0, x => by simp [byts, val, Nat.mod_one]
  | k + 1, x => by
    show x % 256 + 256 * val (byts k (x / 256)) = x % 256 ^ (k + 1)
    rw [byts_val k, Nat.pow_succ, Nat.mul_comm (256 ^ k) 256, Nat.mod_mul]
theorem byts_add : ∀ a b x, byts (a + b) x = byts a x ++ byts b (x / 256 ^ a)
  | 0, b, x => by simp [byts]
  | a + 1, b, x => by
    rw [show a + 1 + b = (a + b) + 1 by omega]
    show x % 256 :: byts (a + b) (x / 256) = x % 256 :: (byts a (x / 256) ++ byts b (x / 256 ^ (a + 1)))
    rw [byts_add a b, Nat.div_div_eq_div_mul, Nat.pow_succ, Nat.mul_comm 256]
theorem byts_snoc (k x : Nat) : byts (k + 1) x = byts k x ++ [x / 256 ^ k % 256] := byts_add k 1 x

/-- The answer on a word. -/
def W (x n : Nat) : Nat := G 8 x n

theorem W_list {n : Nat} (hn : n ≤ 128) (l : List Nat) (h : Byt l) (hl : l.length = 8) : W (val l) n = val (gl n 0 l) := by
  have := G_eq hn l h
  rw [hl] at this
  exact this
theorem W_word {n x : Nat} (hn : n ≤ 128) (hx : x < 18446744073709551616) : W x n = val (gl n 0 (byts 8 x)) := by
  have h := W_list hn (byts 8 x) (byts_byt 8 x) (byts_len 8 x)
  rw [byts_val, Nat.mod_eq_of_lt (by simpa using hx)] at h
  exact h

theorem pad_byt : Byt (List.replicate 4 255) := fun b hb => by rw [(List.mem_replicate.1 hb).2]; decide
theorem append_byt {l m : List Nat} (h : Byt l) (h' : Byt m) : Byt (l ++ m) := fun b hb => by
  rcases List.mem_append.1 hb with h1 | h1
  · exact h b h1
  · exact h' b h1

/-- A half, filled up with 0xFF. -/
theorem W_pad {n : Nat} (hn : n ≤ 128) (y : Nat) : W (y % 4294967296 + 18446744069414584320) n = val (gl n 0 (byts 4 y)) := by
  have h := W_list hn (byts 4 y ++ List.replicate 4 255) (append_byt (byts_byt 4 y) pad_byt) (by simp [byts_len])
  obtain ⟨c, hc⟩ := gl_append (n := n) (byts 4 y) (List.replicate 4 255) 0
  rw [hc, val_append (gl n 0 (byts 4 y)), val_append (byts 4 y), gl_pad, byts_val, byts_len] at h
  have e : (256 : Nat) ^ 4 * val (List.replicate 4 255) = 18446744069414584320 := by decide
  rw [e] at h
  simpa using h

theorem W_split {n x : Nat} (hn : n ≤ 128) (hx : x < 18446744073709551616) : ∃ m, W x n = val (gl n 0 (byts 4 x)) + 4294967296 * m := by
  rw [W_word hn hx, show (8 : Nat) = 4 + 4 from rfl, byts_add]
  obtain ⟨c, hc⟩ := gl_append (n := n) (byts 4 x) (byts 4 (x / 256 ^ 4)) 0
  rw [hc, val_append, gl_len, byts_len]
  exact ⟨_, rfl⟩

theorem gl_highs (n : Nat) : ∀ (l : List Nat) (c : Nat), val (gl n c l) &&& highs l.length = val (gl n c l)
  | [], _ => by simp [gl, val]
  | b :: r, c => by
    show (hi b n c + 256 * val (gl n (bor b n c) r)) &&& (128 + 256 * highs r.length) = hi b n c + 256 * val (gl n (bor b n c) r)
    have hb : hi b n c < 256 := by rcases hi_cases b n c with h | h <;> rw [h] <;> omega
    rw [and_split hb (by omega), gl_highs n r, bit7 hb]
    rcases hi_cases b n c with h | h <;> rw [h] <;> simp

/-- LOW HALF: the answer's own low half. -/
theorem low_half {n x : Nat} (hn : n ≤ 128) (hx : x < 18446744073709551616) : W x n &&& 2155905152 = W (x % 4294967296 + 18446744069414584320) n := by
  rw [W_pad hn]
  obtain ⟨m, hm⟩ := W_split hn hx
  rw [hm]
  have h1 := Nat.and_mod_two_pow (a := val (gl n 0 (byts 4 x)) + 4294967296 * m) (b := 2155905152) (n := 32)
  have h2 := Nat.and_div_two_pow (a := val (gl n 0 (byts 4 x)) + 4294967296 * m) (b := 2155905152) (n := 32)
  have hv := val_lt _ (gl_byt n (byts 4 x) 0)
  rw [gl_len, byts_len] at hv
  simp only [Nat.reducePow] at h1 h2 hv
  have e1 : (val (gl n 0 (byts 4 x)) + 4294967296 * m) % 4294967296 = val (gl n 0 (byts 4 x)) := by omega
  rw [e1] at h1
  have hh := gl_highs n (byts 4 x) 0
  rw [byts_len, show highs 4 = 2155905152 from rfl] at hh
  rw [show 2155905152 % 4294967296 = 2155905152 from rfl, hh] at h1
  rw [show 2155905152 / 4294967296 = 0 from rfl, Nat.and_zero] at h2
  omega

theorem low_any {n x : Nat} (hn : n ≤ 128) : (W (x % 4294967296 + 18446744069414584320) n ≠ 0) ↔ ∃ b ∈ byts 4 x, b < n := by
  rw [W_pad hn]; exact gl_any hn _
theorem word_any {n x : Nat} (hn : n ≤ 128) (hx : x < 18446744073709551616) : (W x n ≠ 0) ↔ ∃ b ∈ byts 8 x, b < n := by
  rw [W_word hn hx]; exact gl_any hn _
theorem word_any2 {n x : Nat} (hn : n ≤ 128) (hx : x < 18446744073709551616) : (W x n ≠ 0) ↔ ((∃ b ∈ byts 4 x, b < n) ∨ ∃ b ∈ byts 4 (x / 4294967296), b < n) := by
  rw [word_any hn hx, show (8 : Nat) = 4 + 4 from rfl, byts_add]
  constructor
  · rintro ⟨b, hb, hl⟩
    rcases List.mem_append.1 hb with h | h
    · exact .inl ⟨b, h, hl⟩
    · exact .inr ⟨b, by simpa using h, hl⟩
  · rintro (⟨b, h, hl⟩ | ⟨b, h, hl⟩)
    · exact ⟨b, List.mem_append.2 (.inl h), hl⟩
    · exact ⟨b, List.mem_append.2 (.inr (by simpa using h)), hl⟩

/-- A byte 0xFF shifted in at the bottom. -/
theorem shift_in {n x : Nat} (hn : n ≤ 128) (hx : x < 18446744073709551616) : W (x * 256 % 18446744073709551616 + 255) n = W x n * 256 % 18446744073709551616 := by
  have h := W_list hn (255 :: byts 7 x) (Byt.cons (by decide) (byts_byt 7 x)) (by simp [byts_len])
  have e1 : val (255 :: byts 7 x) = x * 256 % 18446744073709551616 + 255 := by
    show 255 + 256 * val (byts 7 x) = _
    rw [byts_val]
    simp only [Nat.reducePow]
    omega
  rw [e1] at h
  rw [h]
  show hi 255 n 0 + 256 * val (gl n (bor 255 n 0) (byts 7 x)) = _
  rw [hi_255, bor_zero (by omega), W_word hn hx, show (8 : Nat) = 7 + 1 from rfl, byts_add]
  obtain ⟨c, hc⟩ := gl_append (n := n) (byts 7 x) (byts 1 (x / 256 ^ 7)) 0
  have hv := val_lt _ (gl_byt n (byts 7 x) 0)
  rw [gl_len, byts_len] at hv
  rw [hc, val_append, gl_len, byts_len]
  simp only [Nat.reducePow] at hv ⊢
  omega

theorem no_other {n x : Nat} (hn : n ≤ 128) (hx : x < 18446744073709551616) : W x n &&& 9187201950435737471 = 0 := by
  have hh := gl_highs n (byts 8 x) 0
  rw [byts_len, ← W_word hn hx, show highs 8 = 9259542123273814144 from rfl] at hh
  rw [← hh, Nat.and_assoc, show 9259542123273814144 &&& 9187201950435737471 = 0 from rfl, Nat.and_zero]

theorem W_lt {n x : Nat} (hn : n ≤ 128) (hx : x < 18446744073709551616) : W x n < 18446744073709551616 := by
  have hv := val_lt _ (gl_byt n (byts 8 x) 0)
  rw [gl_len, byts_len, ← W_word hn hx] at hv
  simpa using hv

/-! ### the lowest set bit -/
theorem double_and (a b : Nat) : (2 * a) &&& (2 * b) = 2 * (a &&& b) := by
  have h1 := Nat.and_mod_two_pow (a := 2 * a) (b := 2 * b) (n := 1)
  have h2 := Nat.and_div_two_pow (a := 2 * a) (b := 2 * b) (n := 1)
  simp only [Nat.pow_one] at h1 h2
  rw [show 2 * a % 2 = 0 by omega, show 2 * b % 2 = 0 by omega, Nat.and_zero] at h1
  rw [show 2 * a / 2 = a by omega, show 2 * b / 2 = b by omega] at h2
  omega
theorem odd_and (a b : Nat) : (2 * a + 1) &&& (2 * b + 1) = 2 * (a &&& b) + 1 := by
  have h1 := Nat.and_mod_two_pow (a := 2 * a + 1) (b := 2 * b + 1) (n := 1)
  have h2 := Nat.and_div_two_pow (a := 2 * a + 1) (b := 2 * b + 1) (n := 1)
  simp only [Nat.pow_one] at h1 h2
  rw [show (2 * a + 1) % 2 = 1 by omega, show (2 * b + 1) % 2 = 1 by omega, show 1 &&& 1 = 1 from rfl] at h1
  rw [show (2 * a + 1) / 2 = a by omega, show (2 * b + 1) / 2 = b by omega] at h2
  omega
theorem compl_and (q m : Nat) (h : m < 2 ^ q) : m &&& (2 ^ q - (m + 1)) = 0 := by
  apply Nat.eq_of_testBit_eq
  intro i
  rw [Nat.testBit_and, Nat.testBit_two_pow_sub_succ h, Nat.zero_testBit]
  cases m.testBit i <;> simp
theorem low_odd (q m : Nat) (h : 2 * m + 1 < 2 ^ (q + 1)) : (2 * m + 1) &&& (2 ^ (q + 1) - (2 * m + 1)) = 1 := by
  have hp : 2 ^ (q + 1) = 2 * 2 ^ q := by rw [Nat.pow_succ, Nat.mul_comm]
  have hm : m < 2 ^ q := by omega
  rw [show 2 ^ (q + 1) - (2 * m + 1) = 2 * (2 ^ q - (m + 1)) + 1 by omega, odd_and, compl_and q m hm]
/-- THE LOWEST SET BIT of 2^p (2 m + 1), by two's complement in p + q + 1 bits. -/
theorem low_bit : ∀ (p q m : Nat), 2 ^ p * (2 * m + 1) < 2 ^ (p + q + 1) → (2 ^ p * (2 * m + 1)) &&& (2 ^ (p + q + 1) - 2 ^ p * (2 * m + 1)) = 2 ^ p
  | 0, q, m, h => by
    rw [show 0 + q + 1 = q + 1 by omega] at h ⊢
    rw [Nat.pow_zero, Nat.one_mul] at h ⊢
    exact low_odd q m h
  | p + 1, q, m, h => by
    have e1 : 2 ^ (p + 1) * (2 * m + 1) = 2 * (2 ^ p * (2 * m + 1)) := by rw [Nat.pow_succ, Nat.mul_comm (2 ^ p) 2, Nat.mul_assoc]
    have e2 : 2 ^ (p + 1 + q + 1) = 2 * 2 ^ (p + q + 1) := by rw [show p + 1 + q + 1 = (p + q + 1) + 1 by omega, Nat.pow_succ, Nat.mul_comm]
    rw [e1, e2] at h ⊢
    have ih := low_bit p q m (by omega)
    rw [show 2 * 2 ^ (p + q + 1) - 2 * (2 ^ p * (2 * m + 1)) = 2 * (2 ^ (p + q + 1) - 2 ^ p * (2 * m + 1)) by omega, double_and, ih, Nat.pow_succ, Nat.mul_comm]

/-- The i-th byte. -/
def byt (x i : Nat) : Nat := x / 256 ^ i % 256
/-- f is the place of the first byte below n, or 8. -/
def First (x n f : Nat) : Prop := f ≤ 8 ∧ (∀ i, i < f → ¬ byt x i < n) ∧ (f < 8 → byt x f < n)

theorem gl_first {n : Nat} (hn : n ≤ 128) : ∀ (f k x : Nat), (∀ i, i < f → ¬ byt x i < n) → byt x f < n → ∃ m, val (gl n 0 (byts (f + 1 + k) x)) = 256 ^ f * (128 + 256 * m)
  | 0, k, x, _, h => by
    rw [show 0 + 1 + k = k + 1 by omega]
    have h0 : x % 256 < n := by simpa [byt] using h
    refine ⟨val (gl n (bor (x % 256) n 0) (byts k (x / 256))), ?_⟩
    show hi (x % 256) n 0 + 256 * val (gl n (bor (x % 256) n 0) (byts k (x / 256))) = _
    rw [hi_zero hn, if_pos h0]
    omega
  | f + 1, k, x, ha, h => by
    have h0 : ¬ x % 256 < n := by simpa [byt] using ha 0 (by omega)
    have hs : ∀ i, byt (x / 256) i = byt x (i + 1) := fun i => by unfold byt; rw [Nat.div_div_eq_div_mul, Nat.pow_succ, Nat.mul_comm 256]
    obtain ⟨m, hm⟩ := gl_first hn f k (x / 256) (fun i hi => by rw [hs]; exact ha (i + 1) (by omega)) (by rw [hs]; exact h)
    refine ⟨m, ?_⟩
    rw [show f + 1 + 1 + k = (f + 1 + k) + 1 by omega]
    show hi (x % 256) n 0 + 256 * val (gl n (bor (x % 256) n 0) (byts (f + 1 + k) (x / 256))) = _
    rw [hi_zero hn, if_neg h0, bor_zero h0, hm, Nat.pow_succ, Nat.mul_comm (256 ^ f) 256, Nat.mul_assoc]
    omega

/-- THE LOWEST SET BIT OF THE ANSWER. -/
theorem first_bit {n x f : Nat} (hn : n ≤ 128) (hx : x < 18446744073709551616) (hf : First x n f) (hlt : f < 8) :
    W x n ≠ 0 ∧ W x n &&& (18446744073709551616 - W x n) = 2 ^ (8 * f + 7) := by
  obtain ⟨m, hm⟩ := gl_first hn f (7 - f) x hf.2.1 (hf.2.2 hlt)
  rw [show f + 1 + (7 - f) = 8 by omega, ← W_word hn hx] at hm
  have e : 256 ^ f * (128 + 256 * m) = 2 ^ (8 * f + 7) * (2 * m + 1) := by
    rw [show (256 : Nat) = 2 ^ 8 from rfl, ← Nat.pow_mul, Nat.pow_add, Nat.mul_assoc]
    congr 1
    omega
  have hlt2 := W_lt hn hx
  rw [hm, e] at hlt2 ⊢
  have hp : 0 < 2 ^ (8 * f + 7) := Nat.pow_pos (by decide)
  have h64 : (18446744073709551616 : Nat) = 2 ^ ((8 * f + 7) + (56 - 8 * f) + 1) := by
    rw [show (8 * f + 7) + (56 - 8 * f) + 1 = 64 by omega]
  rw [h64] at hlt2 ⊢
  exact ⟨by have := Nat.mul_pos hp (show 0 < 2 * m + 1 by omega); omega, low_bit _ _ _ hlt2⟩

theorem mem_byts : ∀ (k x b : Nat), b ∈ byts k x → ∃ i, i < k ∧ b = byt x i
  | 0, _, _, h => by simp [byts] at h
  | k + 1, x, b, h => by
    rcases List.mem_cons.1 (show b ∈ x % 256 :: byts k (x / 256) from h) with rfl | h
    · exact ⟨0, by omega, by simp [byt]⟩
    · obtain ⟨i, hi, rfl⟩ := mem_byts k (x / 256) b h
      exact ⟨i + 1, by omega, by unfold byt; rw [Nat.div_div_eq_div_mul, Nat.pow_succ, Nat.mul_comm 256]⟩

theorem first_none {n x : Nat} (hn : n ≤ 128) (hx : x < 18446744073709551616) (hf : First x n 8) : W x n = 0 := by
  rcases Nat.eq_zero_or_pos (W x n) with h | h
  · exact h
  · obtain ⟨b, hb, hl⟩ := (word_any hn hx).1 (by omega)
    obtain ⟨i, hi, rfl⟩ := mem_byts 8 x b hb
    exact absurd hl (hf.2.1 i hi)

end Go.Proofs.Qxb6613703a
