/-
  Seat b6613607a: rows of strings and of numbers that came in; the walk of zzLastOf (9).
-/
import Derived.Test.Qxb6613607aSweep
import Derived.Deep.QuietTactic
import Derived.BigQuiet
namespace Go.Proofs.Qxb6613607a
open Go.RowKit Go.Maps Go.WideMaps

/-- WHAT THE WALK IS TOLD OF THE STRINGS THAT CAME IN. -/
def StrRow (w : World) (a : Option Addr) (ss : List ByteArray) : Prop :=
  ∀ j, j < ss.length → ∃ b off, a = some ⟨b, off, none⟩ ∧ b < w.heap.size ∧ ∀ i, i < ss.length → w.cell? ⟨b, off + i, none⟩ = some (.string (ss.getD i ByteArray.empty))
/-- .. and of the numbers. -/
def IntRow (w : World) (a : Option Addr) (zs : List Int) : Prop :=
  ∀ j, j < zs.length → ∃ b off, a = some ⟨b, off, none⟩ ∧ b < w.heap.size ∧ ∀ i, i < zs.length → w.cell? ⟨b, off + i, none⟩ = some (.int .i64 (zs.getD i 0))

theorem StrRow.below {w w' : World} {a : Option Addr} {ss : List ByteArray} (h : StrRow w a ss) (hb : Below w.heap.size w w') : StrRow w' a ss := fun j hj => by
  obtain ⟨b, off, ha, hlt, hc⟩ := h j hj
  exact ⟨b, off, ha, Nat.lt_of_lt_of_le hlt hb.size, fun i hi => (hb.cell (p := ⟨b, off + i, none⟩) hlt).trans (hc i hi)⟩
theorem IntRow.below {w w' : World} {a : Option Addr} {zs : List Int} (h : IntRow w a zs) (hb : Below w.heap.size w w') : IntRow w' a zs := fun j hj => by
  obtain ⟨b, off, ha, hlt, hc⟩ := h j hj
  exact ⟨b, off, ha, Nat.lt_of_lt_of_le hlt hb.size, fun i hi => (hb.cell (p := ⟨b, off + i, none⟩) hlt).trans (hc i hi)⟩

/-- Is some string from place k on the string s? -/
def laterB (ss : List ByteArray) (k : Nat) (s : ByteArray) : Bool := (ss.drop k).any (fun t => t.toList == s.toList)

theorem later_hit {ss : List ByteArray} {k : Nat} {s : ByteArray} (hk : k < ss.length) (h : ((ss.getD k ByteArray.empty).toList == s.toList) = true) : laterB ss k s = true := by
  unfold laterB
  rw [List.drop_eq_getElem_cons hk]
  have : ss.getD k ByteArray.empty = ss[k] := by simp [List.getD, hk]
  rw [this] at h
  rw [List.any_cons, h]; rfl
theorem later_miss {ss : List ByteArray} {k : Nat} {s : ByteArray} (hk : k < ss.length) (h : ((ss.getD k ByteArray.empty).toList == s.toList) = false) : laterB ss k s = laterB ss (k + 1) s := by
  unfold laterB
  rw [List.drop_eq_getElem_cons hk]
  have : ss.getD k ByteArray.empty = ss[k] := by simp [List.getD, hk]
  rw [this] at h
  rw [List.any_cons, h]; rfl
theorem later_end {ss : List ByteArray} {k : Nat} {s : ByteArray} (hk : ss.length ≤ k) : laterB ss k s = false := by
  unfold laterB
  rw [List.drop_of_length_le hk]
  rfl

set_option maxHeartbeats 400000 in
theorem last_any (a : Option Addr) (cap : Nat) (ss : List ByteArray) (w : World) (hs : StrRow w a ss) (hl : ss.length ≤ 4096) (i : Nat) (hi : i < ss.length) :
    Calls Try.prog 9 #[.slice a ss.length cap, .int .i64 i] w fun e w' => e = .returned (.bool (!laterB ss (i + 1) (ss.getD i ByteArray.empty))) ∧ ∃ nq, w' = w.drewN nq := by
  obtain ⟨b, off, rfl, hlt, hc⟩ := hs i hi
  obtain ⟨s, hsi⟩ : ∃ s, s = ss.getD i ByteArray.empty := ⟨_, rfl⟩
  have hci := hc i hi
  rw [← hsi] at hci ⊢
  clear hsi
  obtain ⟨len, hlen⟩ : ∃ len, len = ss.length := ⟨_, rfl⟩
  have HL : Hid (len = ss.length) := hlen
  rw [← hlen] at hi hl hc ⊢
  clear hlen
  go_enter Try.func9, Try.ntmps9
  go_wp2
  go_loopw [5] (fun t wr => ∃ k : Nat, i + 1 ≤ k ∧ k ≤ len ∧ t = .int .i64 k ∧ Hid (laterB ss (i + 1) s = laterB ss k s) ∧ ∃ nq, wr = w.drewN nq)
    (fun t _ => len - (intOf t).toNat)
  case atStart => exact ⟨i + 1, by omega, by omega, by go_num, rfl, 0, rfl⟩
  case round =>
    obtain ⟨k, hik, hk, rfl, HE, nq, rfl⟩ := hrel
    by_cases hkl : k < len
    · have hck := hc k hkl
      obtain ⟨t, ht⟩ : ∃ t, t = ss.getD k ByteArray.empty := ⟨_, rfl⟩
      have HT : Hid (t = ss.getD k ByteArray.empty) := ht
      rw [← ht] at hck
      clear ht hc
      have b1 : (0 : Int) ≤ (k : Int) := by omega
      have b2 : (k : Int) < (len : Int) := by omega
      have b3 : (0 : Int) ≤ (i : Int) := by omega
      have b4 : (i : Int) < (len : Int) := by omega
      go_wp2
      go_quiet (fail)
      go_wp2
      · have he : (t.toList == s.toList) = true := by assumption
        have e1 : laterB ss (i + 1) s = true := by rw [HE.out]; exact later_hit (by rw [← HL.out]; exact hkl) (by rw [← HT.out]; exact he)
        go_ret
        exact ⟨by rw [e1]; rfl, _, World.drewN_drewN _ _ _⟩
      · have he : (t.toList == s.toList) = false := by assumption
        have e1 : laterB ss (i + 1) s = laterB ss (k + 1) s := by rw [HE.out]; exact later_miss (by rw [← HL.out]; exact hkl) (by rw [← HT.out]; exact he)
        go_roundw
        case rel => exact ⟨k + 1, by omega, by omega, by go_num, e1, _, rfl⟩
        case measure => simp [intOf]; omega
    · have e1 : laterB ss (i + 1) s = false := by rw [HE.out]; exact later_end (by rw [← HL.out]; omega)
      go_wp2
      go_ret
      exact ⟨by rw [e1]; rfl, _, rfl⟩

end Go.Proofs.Qxb6613607a
