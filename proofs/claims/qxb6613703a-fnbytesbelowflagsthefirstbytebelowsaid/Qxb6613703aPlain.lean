/-
  Seat b6613703a: THE PLAIN LAW of bytesBelow, no Go in sight: a word as the list of its bytes, the least first; the subtraction byte by byte with its borrow; which high bits are left.
-/
import Derived.WalkKit
namespace Go.Proofs.Qxb6613703a
set_option linter.unusedVariables false

/-- The number that a list of bytes stands for, the least byte first. -/
def val : List Nat → Nat
  | [] => 0
  | b :: r => b + 256 * val r
/-- Each is a byte. -/
def Byt (l : List Nat) : Prop := ∀ b ∈ l, b < 256

theorem Byt.head {b : Nat} {r : List Nat} (h : Byt (b :: r)) : b < 256 := h b (by simp)
theorem Byt.tail {b : Nat} {r : List Nat} (h : Byt (b :: r)) : Byt r := fun x hx => h x (by simp [hx])
theorem Byt.cons {b : Nat} {r : List Nat} (h : b < 256) (hr : Byt r) : Byt (b :: r) := fun x hx => by
  rcases List.mem_cons.1 hx with rfl | hx
  · exact h
  · exact hr x hx
theorem Byt.nil : Byt [] := fun _ h => by simp at h

theorem val_lt : ∀ l : List Nat, Byt l → val l < 256 ^ l.length
  | [], _ => by simp [val]
  | b :: r, h => by
    have h1 := val_lt r h.tail
    have h2 := h.head
    show b + 256 * val r < 256 ^ (r.length + 1)
    rw [Nat.pow_succ]
    omega

theorem and_split {a b A B : Nat} (ha : a < 256) (hb : b < 256) : (a + 256 * A) &&& (b + 256 * B) = (a &&& b) + 256 * (A &&& B) := by
  have h1 := Nat.and_mod_two_pow (a := a + 256 * A) (b := b + 256 * B) (n := 8)
  have h2 := Nat.and_div_two_pow (a := a + 256 * A) (b := b + 256 * B) (n := 8)
  simp only [Nat.reducePow] at h1 h2
  rw [show (a + 256 * A) % 256 = a by omega, show (b + 256 * B) % 256 = b by omega] at h1
  rw [show (a + 256 * A) / 256 = A by omega, show (b + 256 * B) / 256 = B by omega] at h2
  omega
theorem or_split {a b A B : Nat} (ha : a < 256) (hb : b < 256) : (a + 256 * A) ||| (b + 256 * B) = (a ||| b) + 256 * (A ||| B) := by
  have h1 := Nat.or_mod_two_pow (a := a + 256 * A) (b := b + 256 * B) (n := 8)
  have h2 := Nat.or_div_two_pow (a := a + 256 * A) (b := b + 256 * B) (n := 8)
  simp only [Nat.reducePow] at h1 h2
  rw [show (a + 256 * A) % 256 = a by omega, show (b + 256 * B) % 256 = b by omega] at h1
  rw [show (a + 256 * A) / 256 = A by omega, show (b + 256 * B) / 256 = B by omega] at h2
  omega

/-- The borrow that a byte hands on. -/
def bor (b n c : Nat) : Nat := if b < n + c then 1 else 0
/-- The byte that is left. -/
def rem (b n c : Nat) : Nat := b + 256 * bor b n c - n - c
theorem bor_le (b n c : Nat) : bor b n c ≤ 1 := by unfold bor; split <;> omega
theorem rem_lt {b n c : Nat} (hb : b < 256) (hn : n ≤ 128) (hc : c ≤ 1) : rem b n c < 256 := by unfold rem bor; split <;> omega
theorem rem_eq {b n c : Nat} (hn : n ≤ 128) (hc : c ≤ 1) : rem b n c + n + c = b + 256 * bor b n c := by unfold rem bor; split <;> omega

/-- The difference, byte by byte. -/
def sub (n : Nat) : Nat → List Nat → List Nat
  | _, [] => []
  | c, b :: r => rem b n c :: sub n (bor b n c) r
theorem sub_byt {n : Nat} (hn : n ≤ 128) : ∀ (l : List Nat) (c : Nat), c ≤ 1 → Byt l → Byt (sub n c l)
  | [], _, _, _ => Byt.nil
  | b :: r, c, hc, h => Byt.cons (rem_lt h.head hn hc) (sub_byt hn r _ (bor_le _ _ _) h.tail)
theorem sub_len (n : Nat) : ∀ (l : List Nat) (c : Nat), (sub n c l).length = l.length
  | [], _ => rfl
  | _ :: r, _ => by show (sub n _ r).length + 1 = r.length + 1; rw [sub_len n r]

/-- 0x0101..01, k bytes. -/
def ones : Nat → Nat
  | 0 => 0
  | k + 1 => 1 + 256 * ones k

theorem sub_val {n : Nat} (hn : n ≤ 128) : ∀ (l : List Nat) (c : Nat), c ≤ 1 → ∃ d, d ≤ 1 ∧ val l + 256 ^ l.length * d = val (sub n c l) + ones l.length * n + c
  | [], c, hc => ⟨c, hc, by simp [val, sub, ones]⟩
  | b :: r, c, hc => by
    obtain ⟨d, hd, ih⟩ := sub_val hn r (bor b n c) (bor_le _ _ _)
    have h1 := rem_eq (b := b) hn hc
    refine ⟨d, hd, ?_⟩
    show b + 256 * val r + 256 ^ (r.length + 1) * d = rem b n c + 256 * val (sub n (bor b n c) r) + (1 + 256 * ones r.length) * n + c
    rw [Nat.pow_succ, Nat.add_mul, Nat.mul_assoc, Nat.mul_assoc, Nat.mul_left_comm, Nat.one_mul]
    omega

/-- The high bit that is left of a byte. -/
def hi (b n c : Nat) : Nat := if b < 128 ∧ 128 ≤ rem b n c then 128 else 0
/-- The answer, byte by byte. -/
def gl (n : Nat) : Nat → List Nat → List Nat
  | _, [] => []
  | c, b :: r => hi b n c :: gl n (bor b n c) r
theorem hi_cases (b n c : Nat) : hi b n c = 0 ∨ hi b n c = 128 := by unfold hi; split <;> simp
theorem gl_len (n : Nat) : ∀ (l : List Nat) (c : Nat), (gl n c l).length = l.length
  | [], _ => rfl
  | b :: r, c => by show (gl n _ r).length + 1 = r.length + 1; rw [gl_len n r]
theorem gl_byt (n : Nat) : ∀ (l : List Nat) (c : Nat), Byt (gl n c l)
  | [], _ => Byt.nil
  | b :: r, c => Byt.cons (by rcases hi_cases b n c with h | h <;> rw [h] <;> omega) (gl_byt n r _)

/-- 0x7f and below, 0x80 and above: the seventh bit. -/
theorem bit7_all : ∀ x, x < 256 → x &&& 128 = if 128 ≤ x then 128 else 0 := by decide +kernel
theorem bit7 {x : Nat} (h : x < 256) : x &&& 128 = if 128 ≤ x then 128 else 0 := bit7_all x h

theorem byte_hi {r b : Nat} (hr : r < 256) (hb : b < 256) : (r &&& (255 - b)) &&& 128 = if b < 128 ∧ 128 ≤ r then 128 else 0 := by
  rw [Nat.and_assoc, bit7 (show 255 - b < 256 by omega)]
  by_cases h : b < 128
  · rw [if_pos (by omega), bit7 hr]
    simp [h]
  · rw [if_neg (by omega)]
    simp [h]

/-- All but the bytes. -/
def neg (l : List Nat) : List Nat := l.map fun b => 255 - b
theorem val_neg : ∀ l : List Nat, Byt l → val l + val (neg l) + 1 = 256 ^ l.length
  | [], _ => rfl
  | b :: r, h => by
    have ih := val_neg r h.tail
    have hb := h.head
    show b + 256 * val r + (255 - b + 256 * val (neg r)) + 1 = 256 ^ (r.length + 1)
    rw [Nat.pow_succ, ← ih]
    omega

/-- 0x8080..80, k bytes. -/
def highs : Nat → Nat
  | 0 => 0
  | k + 1 => 128 + 256 * highs k

theorem and_val {n : Nat} (hn : n ≤ 128) : ∀ (l : List Nat) (c : Nat), c ≤ 1 → Byt l → (val (sub n c l) &&& val (neg l)) &&& highs l.length = val (gl n c l)
  | [], _, _, _ => by simp [val, sub, neg, highs, gl]
  | b :: r, c, hc, h => by
    have ih := and_val hn r (bor b n c) (bor_le _ _ _) h.tail
    have hb := h.head
    have hr := rem_lt hb hn hc
    show ((rem b n c + 256 * val (sub n (bor b n c) r)) &&& (255 - b + 256 * val (neg r))) &&& (128 + 256 * highs r.length) = hi b n c + 256 * val (gl n (bor b n c) r)
    rw [and_split hr (by omega), and_split (Nat.lt_of_le_of_lt Nat.and_le_left hr) (by omega), ih, byte_hi hr hb]
    rfl

/-- BYTESBELOW on a plain number: k bytes. -/
def G (k x n : Nat) : Nat := (((x + 256 ^ k - ones k * n) % 256 ^ k) &&& (256 ^ k - 1 - x)) &&& highs k

theorem ones_le : ∀ k n : Nat, n ≤ 128 → ones k * n ≤ 256 ^ k
  | 0, n, _ => by simp [ones]
  | k + 1, n, hn => by
    have ih := ones_le k n hn
    show (1 + 256 * ones k) * n ≤ 256 ^ (k + 1)
    rw [Nat.pow_succ, Nat.add_mul, Nat.mul_assoc, Nat.one_mul]
    have : 0 < 256 ^ k := Nat.pow_pos (by decide)
    rcases Nat.lt_or_ge (ones k * n) (256 ^ k) with h | h
    · omega
    · have h1 : ones k * n ≤ ones k * 128 := Nat.mul_le_mul_left _ hn
      have h2 : ∀ k, ones k * 128 < 256 ^ k := by
        intro k
        induction k with
        | zero => simp [ones]
        | succ k ih =>
          show (1 + 256 * ones k) * 128 < 256 ^ (k + 1)
          rw [Nat.pow_succ]
          omega
      have := h2 k
      omega

theorem G_eq {n : Nat} (hn : n ≤ 128) (l : List Nat) (h : Byt l) : G l.length (val l) n = val (gl n 0 l) := by
  obtain ⟨d, hd, hs⟩ := sub_val hn l 0 (by omega)
  have h1 := val_lt _ (sub_byt hn l 0 (by omega) h)
  rw [sub_len] at h1
  have h2 := val_neg l h
  have h3 := ones_le l.length n hn
  have h4 := val_lt l h
  unfold G
  have e1 : (val l + 256 ^ l.length - ones l.length * n) % 256 ^ l.length = val (sub n 0 l) := by
    rcases Nat.lt_or_ge 0 d with hd0 | hd0
    · have : d = 1 := by omega
      subst this
      rw [show val l + 256 ^ l.length - ones l.length * n = val (sub n 0 l) by omega]
      exact Nat.mod_eq_of_lt h1
    · have : d = 0 := by omega
      subst this
      rw [show val l + 256 ^ l.length - ones l.length * n = val (sub n 0 l) + 256 ^ l.length by omega, Nat.add_mod_right]
      exact Nat.mod_eq_of_lt h1
  have e2 : 256 ^ l.length - 1 - val l = val (neg l) := by omega
  rw [e1, e2]
  exact and_val hn l 0 (by omega) h

/-! ### what the answer says -/
theorem hi_zero {b n : Nat} (hn : n ≤ 128) : hi b n 0 = if b < n then 128 else 0 := by
  unfold hi rem bor
  by_cases h : b < n
  · rw [if_pos h, if_pos (show b < n + 0 by omega), if_pos ⟨by omega, by omega⟩]
  · rw [if_neg h, if_neg (show ¬ b < n + 0 by omega), if_neg (by omega)]
theorem bor_zero {b n : Nat} (h : ¬ b < n) : bor b n 0 = 0 := by unfold bor; rw [if_neg (by omega)]

/-- NON-ZERO JUST IF A BYTE IS BELOW n. -/
theorem gl_any {n : Nat} (hn : n ≤ 128) : ∀ l : List Nat, (val (gl n 0 l) ≠ 0) ↔ ∃ b ∈ l, b < n
  | [] => by simp [gl, val]
  | b :: r => by
    show (hi b n 0 + 256 * val (gl n (bor b n 0) r) ≠ 0) ↔ _
    rw [hi_zero hn]
    by_cases h : b < n
    · rw [if_pos h]
      exact ⟨fun _ => ⟨b, by simp, h⟩, fun _ => by omega⟩
    · rw [if_neg h, bor_zero h]
      have ih := gl_any hn r
      constructor
      · intro h1
        obtain ⟨x, hx, hl⟩ := ih.1 (by omega)
        exact ⟨x, by simp [hx], hl⟩
      · rintro ⟨x, hx, hl⟩
        rcases List.mem_cons.1 hx with rfl | hx
        · exact absurd hl h
        · have := ih.2 ⟨x, hx, hl⟩
          omega

/-- What stands behind does not turn what stands ahead. -/
theorem gl_append {n : Nat} : ∀ (l m : List Nat) (c : Nat), ∃ c', gl n c (l ++ m) = gl n c l ++ gl n c' m
  | [], m, c => ⟨c, rfl⟩
  | b :: r, m, c => by
    obtain ⟨c', h⟩ := gl_append r m (bor b n c)
    exact ⟨c', by show hi b n c :: gl n (bor b n c) (r ++ m) = hi b n c :: (gl n (bor b n c) r ++ gl n c' m); rw [h]⟩
theorem val_append : ∀ l m : List Nat, val (l ++ m) = val l + 256 ^ l.length * val m
  | [], m => by simp [val]
  | b :: r, m => by
    show b + 256 * val (r ++ m) = b + 256 * val r + 256 ^ (r.length + 1) * val m
    rw [val_append r m, Nat.pow_succ, Nat.mul_add, Nat.mul_assoc, Nat.mul_left_comm]
    omega
/-- A byte 0xFF is never marked. -/
theorem hi_255 (n c : Nat) : hi 255 n c = 0 := by unfold hi; rw [if_neg (by omega)]
theorem gl_pad (n : Nat) : ∀ (k c : Nat), val (gl n c (List.replicate k 255)) = 0
  | 0, _ => rfl
  | k + 1, c => by
    show hi 255 n c + 256 * val (gl n (bor 255 n c) (List.replicate k 255)) = 0
    rw [hi_255, gl_pad n k]

end Go.Proofs.Qxb6613703a
