/-
  Seat b6613607a: the walks of the two guards on the arguments' total length (5, 12): each returns some bool and turns nothing.
-/
import Derived.Test.Qxb6613607aLast
namespace Go.Proofs.Qxb6613607a
open Go.RowKit Go.Maps Go.WideMaps

/-- The strings below place k are short. -/
def Short (ss : List ByteArray) (k : Nat) : Prop := ∀ i, i < k → (ss.getD i ByteArray.empty).size ≤ 1048576
theorem Short.zero (ss : List ByteArray) : Short ss 0 := fun _ h => by omega
theorem Short.succ {ss : List ByteArray} {k : Nat} (h : Short ss k) {s : ByteArray} (hs : s = ss.getD k ByteArray.empty) (hz : s.size ≤ 1048576) : Short ss (k + 1) := fun i hi => by
  by_cases e : i = k
  · subst e; rw [← hs]; exact hz
  · exact h i (by omega)
/-- Some bool is returned; if it is true, every string is short. -/
def RetB (ss : List ByteArray) (e : Ending) : Prop := ∃ r, e = .returned (.bool r) ∧ (r = true → Short ss ss.length)
theorem RetB.no (ss : List ByteArray) {e : Ending} (h : e = .returned (.bool false)) : RetB ss e := ⟨false, h, fun h => by cases h⟩
theorem RetB.yes {ss : List ByteArray} {e : Ending} (h : e = .returned (.bool true)) (hs : Short ss ss.length) : RetB ss e := ⟨true, h, fun _ => hs⟩

set_option maxHeartbeats 1000000 in
theorem bytes5 (a1 a2 : Option Addr) (cap1 cap2 n2 : Nat) (ss : List ByteArray) (w : World) (hs : StrRow w a1 ss) (hl : ss.length ≤ maxLen) (h2 : n2 ≤ maxLen) (hsz : ∀ s ∈ ss, s.size ≤ maxLen) (x0 x1 x4 x5 : Int) :
    Calls Try.prog 5 #[.int .i64 x0, .int .i64 x1, .slice a1 ss.length cap1, .slice a2 n2 cap2, .int .i64 x4, .int .i64 x5] w fun e w' => RetB ss e ∧ w' = w := by
  obtain ⟨len, hlen⟩ : ∃ len, len = ss.length := ⟨_, rfl⟩
  have HN : Hid (len = ss.length) := hlen
  rw [← hlen] at hl ⊢
  clear hlen
  unfold maxLen at hl h2
  go_enter Try.func5, Try.ntmps5
  go_wp2
  · go_ret; exact ⟨RetB.no _ rfl, rfl⟩
  · go_loop [13, 14] (fun c t => ∃ (n : Int) (k : Nat), 0 ≤ n ∧ n ≤ 1048576 ∧ k ≤ len ∧ c = .int .i64 n ∧ t = .int .i64 k ∧ Short ss k) (fun _ t => len - (intOf t).toNat)
    case atStart => exact ⟨_, 0, by omega, by omega, by omega, rfl, rfl, Short.zero ss⟩
    case round =>
      obtain ⟨n, k, hn0, hn1, hk, rfl, rfl, hsh⟩ := hrel
      by_cases hkl : k < len
      · have hks : k < ss.length := by rw [← HN.out]; exact hkl
        have hsk : (ss.getD k ByteArray.empty).size ≤ maxLen := hsz _ (by rw [List.getD, List.getElem?_eq_getElem hks]; exact List.getElem_mem hks)
        obtain ⟨b1, o1, rfl, hlt1, hc1⟩ := hs k hks
        have k1 := hc1 k hks
        obtain ⟨s, hse⟩ : ∃ s, s = ss.getD k ByteArray.empty := ⟨_, rfl⟩
        rw [← hse] at k1 hsk
        have HS : Hid (s = ss.getD k ByteArray.empty) := hse
        unfold maxLen at hsk
        clear hc1 hs hsz hks hse
        have i1 : (0 : Int) ≤ (k : Int) := by omega
        have i2 : (k : Int) < (len : Int) := by omega
        go_wp2
        · go_ret; exact ⟨RetB.no _ rfl, rfl⟩
        · go_ret; exact ⟨RetB.no _ rfl, rfl⟩
        · go_round
          case rel => exact ⟨_, k + 1, by omega, by omega, by omega, rfl, by go_num, hsh.succ HS.out (by omega)⟩
          case measure => simp [intOf]; omega
      · have hsh' : Short ss ss.length := by rw [← HN.out, show len = k by omega]; exact hsh
        clear hsh
        go_wp2
        all_goals (go_ret; first | exact ⟨RetB.no _ rfl, rfl⟩ | exact ⟨RetB.yes rfl hsh', rfl⟩)

set_option maxHeartbeats 1000000 in
theorem bytes12 (a1 a2 : Option Addr) (cap1 cap2 n2 : Nat) (ss : List ByteArray) (w : World) (hs : StrRow w a1 ss) (hl : ss.length ≤ maxLen) (h2 : n2 ≤ maxLen) (hsz : ∀ s ∈ ss, s.size ≤ maxLen) (x0 x1 x4 x5 : Int) :
    Calls Try.prog 12 #[.int .i64 x0, .int .i64 x1, .slice a1 ss.length cap1, .slice a2 n2 cap2, .int .i64 x4, .int .i64 x5] w fun e w' => RetB ss e ∧ w' = w := by
  obtain ⟨len, hlen⟩ : ∃ len, len = ss.length := ⟨_, rfl⟩
  have HN : Hid (len = ss.length) := hlen
  rw [← hlen] at hl ⊢
  clear hlen
  unfold maxLen at hl h2
  go_enter Try.func12, Try.ntmps12
  go_wp2
  · go_ret; exact ⟨RetB.no _ rfl, rfl⟩
  · go_loop [13, 14] (fun c t => ∃ (n : Int) (k : Nat), 0 ≤ n ∧ n ≤ 1048576 ∧ k ≤ len ∧ c = .int .i64 n ∧ t = .int .i64 k ∧ Short ss k) (fun _ t => len - (intOf t).toNat)
    case atStart => exact ⟨_, 0, by omega, by omega, by omega, rfl, rfl, Short.zero ss⟩
    case round =>
      obtain ⟨n, k, hn0, hn1, hk, rfl, rfl, hsh⟩ := hrel
      by_cases hkl : k < len
      · have hks : k < ss.length := by rw [← HN.out]; exact hkl
        have hsk : (ss.getD k ByteArray.empty).size ≤ maxLen := hsz _ (by rw [List.getD, List.getElem?_eq_getElem hks]; exact List.getElem_mem hks)
        obtain ⟨b1, o1, rfl, hlt1, hc1⟩ := hs k hks
        have k1 := hc1 k hks
        obtain ⟨s, hse⟩ : ∃ s, s = ss.getD k ByteArray.empty := ⟨_, rfl⟩
        rw [← hse] at k1 hsk
        have HS : Hid (s = ss.getD k ByteArray.empty) := hse
        unfold maxLen at hsk
        clear hc1 hs hsz hks hse
        have i1 : (0 : Int) ≤ (k : Int) := by omega
        have i2 : (k : Int) < (len : Int) := by omega
        go_wp2
        · go_ret; exact ⟨RetB.no _ rfl, rfl⟩
        · go_ret; exact ⟨RetB.no _ rfl, rfl⟩
        · go_round
          case rel => exact ⟨_, k + 1, by omega, by omega, by omega, rfl, by go_num, hsh.succ HS.out (by omega)⟩
          case measure => simp [intOf]; omega
      · have hsh' : Short ss ss.length := by rw [← HN.out, show len = k by omega]; exact hsh
        clear hsh
        go_wp2
        all_goals (go_ret; first | exact ⟨RetB.no _ rfl, rfl⟩ | exact ⟨RetB.yes rfl hsh', rfl⟩)

end Go.Proofs.Qxb6613607a
