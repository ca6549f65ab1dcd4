/-
  Seat b6613683a: the walks of (*CodeCheck).written (11), ZZwritten (6), zzSameText (8), zzSameRefusal (9).
-/
import Derived.Test.Qxb6613683aRows
import Derived.WalkKit
import Derived.Below
import Derived.Deep.QuietTactic
import Derived.BigQuiet
import Derived.Deep.RegionHeld3
namespace Go.Proofs.Qxb6613683a
open Go.RowKit
set_option linter.unusedVariables false

/-- A text written as a pointer to it: nil just if it is empty. -/
def PS (s : ByteArray) (p : Option Addr) (b o : Nat) : Prop := (s.toList.isEmpty = true ∧ p = none) ∨ (s.toList.isEmpty = false ∧ p = some ⟨b, o, none⟩)

theorem not_t {x : Bool} (h : (!x) = true) : x = false := by simpa using h
theorem not_f {x : Bool} (h : (!x) = false) : x = true := by simpa using h

set_option maxHeartbeats 1000000 in
theorem written_any (en c st r : ByteArray) (kb : Nat) (w : World) (c0 : w.cell? ⟨kb, 0, none⟩ = some (.string en)) (c1 : w.cell? ⟨kb, 1, none⟩ = some (.string c))
    (c2 : w.cell? ⟨kb, 2, none⟩ = some (.string st)) (c3 : w.cell? ⟨kb, 3, none⟩ = some (.string r)) :
    Calls Try.prog 11 #[.pointer (some ⟨kb, 0, none⟩)] w fun e w' => ∃ pc pr, e = .returned (.pointer (some ⟨w.heap.size, 0, none⟩)) ∧ PS c pc kb 1 ∧ PS r pr kb 3 ∧
      w'.cell? ⟨w.heap.size, 0, none⟩ = some (.string en) ∧ w'.cell? ⟨w.heap.size, 1, none⟩ = some (.pointer pc) ∧ w'.cell? ⟨w.heap.size, 2, none⟩ = some (.string st) ∧
      w'.cell? ⟨w.heap.size, 3, none⟩ = some (.pointer pr) ∧ Below w.heap.size w w' := by
  have hkb : kb < w.heap.size := by
    rcases Nat.lt_or_ge kb w.heap.size with h | h
    · exact h
    · simp [World.cell?, Array.getElem?_eq_none h] at c0
  have n0 := World.new_ne w _ c0
  have old : ∀ (cs : Array Value) (o : Nat), (w.alloc (.cells cs 40)).cell? ⟨kb, o, none⟩ = w.cell? ⟨kb, o, none⟩ := fun cs o => World.cell?_alloc_lt _ _ ⟨kb, o, none⟩ hkb
  have hbl : ∀ (cs : Array Value), Below w.heap.size w (w.alloc (.cells cs 40)).drew := fun cs => ((Below.refl _ _).alloc (Nat.le_refl _) _).drew
  go_enter Try.func11, Try.ntmps11
  go_wp2
  go_region_held3 (fun w' => w'.cell? ⟨kb, 0, none⟩ = some (.string en) ∧ w'.cell? ⟨kb, 1, none⟩ = some (.string c) ∧ w'.cell? ⟨kb, 2, none⟩ = some (.string st) ∧ w'.cell? ⟨kb, 3, none⟩ = some (.string r)) (go_keep) (fail)
  all_goals go_wp2
  all_goals go_ret
  · exact ⟨some ⟨kb, 1, none⟩, some ⟨kb, 3, none⟩, rfl, .inr ⟨not_t ‹_›, rfl⟩, .inr ⟨not_t ‹(!r.toList.isEmpty) = true›, rfl⟩, by simp, by simp, by simp, by simp, hbl _⟩
  · exact ⟨some ⟨kb, 1, none⟩, none, rfl, .inr ⟨not_t ‹_›, rfl⟩, .inl ⟨not_f ‹(!r.toList.isEmpty) = false›, rfl⟩, by simp, by simp, by simp, by simp, hbl _⟩
  · exact ⟨none, some ⟨kb, 3, none⟩, rfl, .inl ⟨not_f ‹_›, rfl⟩, .inr ⟨not_t ‹(!r.toList.isEmpty) = true›, rfl⟩, by simp, by simp, by simp, by simp, hbl _⟩
  · exact ⟨none, none, rfl, .inl ⟨not_f ‹_›, rfl⟩, .inl ⟨not_f ‹(!r.toList.isEmpty) = false›, rfl⟩, by simp, by simp, by simp, by simp, hbl _⟩

theorem zz_nil (w : World) : Calls Try.prog 6 #[.pointer none] w fun e w' => e = .returned (.tuple #[.bool true, .string ⟨#[]⟩, .pointer none, .string ⟨#[]⟩, .pointer none]) ∧ w' = w := by
  go_enter Try.func6, Try.ntmps6
  go_wp2
  exact bodyPost_ret (v := .tuple #[.bool true, .string ⟨#[]⟩, .pointer none, .string ⟨#[]⟩, .pointer none]) (by simp [results, Try.results6, go_sem]) rfl ⟨rfl, rfl⟩

set_option maxHeartbeats 1000000 in
set_option maxRecDepth 100000 in
theorem zz_any (en c st r : ByteArray) (kb : Nat) (w : World) (c0 : w.cell? ⟨kb, 0, none⟩ = some (.string en)) (c1 : w.cell? ⟨kb, 1, none⟩ = some (.string c))
    (c2 : w.cell? ⟨kb, 2, none⟩ = some (.string st)) (c3 : w.cell? ⟨kb, 3, none⟩ = some (.string r)) :
    Calls Try.prog 6 #[.pointer (some ⟨kb, 0, none⟩)] w fun e w' => ∃ pc pr, e = .returned (.tuple #[.bool false, .string en, .pointer pc, .string st, .pointer pr]) ∧ PS c pc kb 1 ∧ PS r pr kb 3 ∧ Below w.heap.size w w' := by
  have hw := written_any en c st r kb w c0 c1 c2 c3
  clear c0 c1 c2 c3
  go_enter Try.func6, Try.ntmps6
  go_wp2_with (first
    | (go_at_call 11; refine hw.mono ?_; rintro e w1 ⟨pc, pr, rfl, hpc, hpr, d0, d1, d2, d3, hb⟩; clear hw)
    | go_in)
  go_quiet (fail)
  go_wp2
  exact bodyPost_ret (v := .tuple #[.bool false, .string en, .pointer pc, .string st, .pointer pr]) (by simp [results, Try.results6, go_sem]) rfl ⟨pc, pr, rfl, hpc, hpr, hb.trans ⟨rfl, rfl, rfl, Nat.le_refl _, fun _ _ => rfl⟩⟩

end Go.Proofs.Qxb6613683a
