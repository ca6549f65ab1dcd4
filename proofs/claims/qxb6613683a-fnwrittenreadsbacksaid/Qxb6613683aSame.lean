/-
  Seat b6613683a: a text behind a pointer that may be nil ('PC'); the walks of zzSameText (8), zzSameRefusal (9); the guards on the total length (5, 10).
-/
import Derived.Test.Qxb6613683aWritten
namespace Go.Proofs.Qxb6613683a
open Go.RowKit
set_option linter.unusedVariables false

/-- A pointer that is nil just if the text is empty, and else leads to the text. -/
def PC (w : World) (s : ByteArray) (p : Option Addr) : Prop :=
  (s.toList.isEmpty = true ∧ p = none) ∨ (s.toList.isEmpty = false ∧ ∃ b o, p = some ⟨b, o, none⟩ ∧ b < w.heap.size ∧ w.cell? ⟨b, o, none⟩ = some (.string s))

theorem PC.of {w : World} {s : ByteArray} {p : Option Addr} {b o : Nat} (h : PS s p b o) (hb : b < w.heap.size) (hc : w.cell? ⟨b, o, none⟩ = some (.string s)) : PC w s p := by
  rcases h with h | ⟨h1, h2⟩
  · exact .inl h
  · exact .inr ⟨h1, b, o, h2, hb, hc⟩
theorem PC.nil (w : World) : PC w ⟨#[]⟩ none := .inl ⟨by rw [ByteArray.toList_eq]; rfl, rfl⟩
theorem PC.below {w w' : World} {s : ByteArray} {p : Option Addr} (h : PC w s p) (hb : Below w.heap.size w w') : PC w' s p := by
  rcases h with h | ⟨h1, b, o, h2, h3, h4⟩
  · exact .inl h
  · exact .inr ⟨h1, b, o, h2, Nat.lt_of_lt_of_le h3 hb.size, (hb.cell (p := ⟨b, o, none⟩) h3).trans h4⟩
theorem PC.drewN {w : World} {s : ByteArray} {p : Option Addr} (h : PC w s p) (q : Nat) : PC (w.drewN q) s p := h

theorem eq_tt {a b : ByteArray} (ha : a.toList.isEmpty = true) (hb : b.toList.isEmpty = true) : (a.toList == b.toList) = true := by
  simp at ha hb; simp [ha, hb]
theorem eq_tf {a b : ByteArray} (ha : a.toList.isEmpty = true) (hb : b.toList.isEmpty = false) : (a.toList == b.toList) = false := by
  simp at ha hb; simp [ha]; intro h; exact hb h
theorem eq_ft {a b : ByteArray} (ha : a.toList.isEmpty = false) (hb : b.toList.isEmpty = true) : (a.toList == b.toList) = false := by
  simp at ha hb; simp [hb]; intro h; exact ha h

set_option maxRecDepth 100000 in
theorem same8 (a b : ByteArray) (pa pb : Option Addr) (w : World) (ha : PC w a pa) (hb : PC w b pb) :
    Calls Try.prog 8 #[.pointer pa, .pointer pb] w fun e w' => e = .returned (.bool (a.toList == b.toList)) ∧ ∃ nq, w' = w.drewN nq := by
  rcases ha with ⟨ha, rfl⟩ | ⟨ha, ba, oa, rfl, hla, ca⟩ <;> rcases hb with ⟨hb, rfl⟩ | ⟨hb, bb, ob, rfl, hlb, cb⟩
  · rw [eq_tt ha hb]
    clear ha hb
    go_enter Try.func8, Try.ntmps8
    go_wp2
    go_ret; exact ⟨rfl, 0, rfl⟩
  · rw [eq_tf ha hb]
    clear ha hb
    go_enter Try.func8, Try.ntmps8
    go_wp2
    go_ret; exact ⟨rfl, 0, rfl⟩
  · rw [eq_ft ha hb]
    clear ha hb
    go_enter Try.func8, Try.ntmps8
    go_wp2
    go_ret; exact ⟨rfl, 0, rfl⟩
  · clear ha hb
    go_enter Try.func8, Try.ntmps8
    go_wp2
    go_quiet (fail)
    go_wp2
    go_ret; exact ⟨rfl, _, rfl⟩

set_option maxRecDepth 100000 in
theorem same9 (a b : ByteArray) (pa pb : Option Addr) (w : World) (ha : PC w a pa) (hb : PC w b pb) :
    Calls Try.prog 9 #[.pointer pa, .pointer pb] w fun e w' => e = .returned (.bool (a.toList == b.toList)) ∧ ∃ nq, w' = w.drewN nq := by
  rcases ha with ⟨ha, rfl⟩ | ⟨ha, ba, oa, rfl, hla, ca⟩ <;> rcases hb with ⟨hb, rfl⟩ | ⟨hb, bb, ob, rfl, hlb, cb⟩
  · rw [eq_tt ha hb]
    clear ha hb
    go_enter Try.func9, Try.ntmps9
    go_wp2
    go_ret; exact ⟨rfl, 0, rfl⟩
  · rw [eq_tf ha hb]
    clear ha hb
    go_enter Try.func9, Try.ntmps9
    go_wp2
    go_ret; exact ⟨rfl, 0, rfl⟩
  · rw [eq_ft ha hb]
    clear ha hb
    go_enter Try.func9, Try.ntmps9
    go_wp2
    go_ret; exact ⟨rfl, 0, rfl⟩
  · clear ha hb
    go_enter Try.func9, Try.ntmps9
    go_wp2
    go_quiet (fail)
    go_wp2
    go_ret; exact ⟨rfl, _, rfl⟩

/-- Some bool is returned. -/
def RetB (e : Ending) : Prop := ∃ r, e = .returned (.bool r)

set_option maxHeartbeats 1000000 in
theorem bytes5 (x : Bool) (a b c d : ByteArray) (w : World) (ha : a.size ≤ maxLen) (hb : b.size ≤ maxLen) (hc : c.size ≤ maxLen) (hd : d.size ≤ maxLen) :
    Calls Try.prog 5 #[.bool x, .string a, .string b, .string c, .string d] w fun e w' => RetB e ∧ w' = w := by
  unfold maxLen at ha hb hc hd
  go_enter Try.func5, Try.ntmps5
  go_wp2
  all_goals (go_ret; exact ⟨⟨_, rfl⟩, rfl⟩)

set_option maxHeartbeats 4000000 in
set_option maxRecDepth 100000 in
theorem bytes10 (x y : Bool) (a b c d a' b' c' d' : ByteArray) (w : World) (ha : a.size ≤ maxLen) (hb : b.size ≤ maxLen) (hc : c.size ≤ maxLen) (hd : d.size ≤ maxLen) (ha' : a'.size ≤ maxLen) (hb' : b'.size ≤ maxLen) (hc' : c'.size ≤ maxLen) (hd' : d'.size ≤ maxLen) :
    Calls Try.prog 10 #[.bool x, .string a, .string b, .string c, .string d, .bool y, .string a', .string b', .string c', .string d'] w fun e w' => RetB e ∧ w' = w := by
  unfold maxLen at ha hb hc hd ha' hb' hc' hd'
  go_enter Try.func10, Try.ntmps10
  go_wp2
  all_goals (go_ret; exact ⟨⟨_, rfl⟩, rfl⟩)

end Go.Proofs.Qxb6613683a
