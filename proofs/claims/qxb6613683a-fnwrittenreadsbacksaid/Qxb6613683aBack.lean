/-
  Seat b6613683a: the walk of zzReadBack (7).
-/
import Derived.Test.Qxb6613683aSep
namespace Go.Proofs.Qxb6613683a
open Go.RowKit
set_option linter.unusedVariables false

theorem empty_of {s : ByteArray} (h : s.toList.isEmpty = true) : s = ⟨#[]⟩ := by
  rw [ByteArray.toList_eq] at h
  apply ByteArray.ext
  simpa using h

set_option maxHeartbeats 1000000 in
set_option maxRecDepth 100000 in
theorem back_any (en c st r : ByteArray) (pc pr : Option Addr) (w : World) (hc : PC w c pc) (hr : PC w r pr) :
    Calls Try.prog 7 #[.string en, .pointer pc, .string st, .pointer pr] w fun e w' => e = .returned (.tuple #[.agg #[.string en, .string c, .string st, .string r], .bool true]) ∧ Below w.heap.size w w' := by
  rcases hc with ⟨hc, rfl⟩ | ⟨hc, bc, oc, rfl, hlc, cc⟩ <;> rcases hr with ⟨hr, rfl⟩ | ⟨hr, br, or_, rfl, hlr, cr⟩
  · obtain rfl := empty_of hc
    obtain rfl := empty_of hr
    clear hc hr
    go_enter Try.func7, Try.ntmps7
    go_wp2
    exact bodyPost_ret (v := .tuple #[.agg #[.string en, .string ⟨#[]⟩, .string st, .string ⟨#[]⟩], .bool true]) (by simp [results, Try.results7, go_sem]) rfl ⟨rfl, ((Below.refl _ _).alloc (Nat.le_refl _) _).alloc (by simp) _⟩
  · obtain rfl := empty_of hc
    clear hc
    have oldr : ∀ (cs cs' : Array Value), ((w.alloc (.cells cs 30)).alloc (.cells cs' 30)).cell? ⟨br, or_, none⟩ = w.cell? ⟨br, or_, none⟩ := fun cs cs' => by
      rw [World.cell?_alloc_lt _ _ ⟨br, or_, none⟩ (by simp; omega), World.cell?_alloc_lt _ _ ⟨br, or_, none⟩ hlr]
    go_enter Try.func7, Try.ntmps7
    go_wp2
    exact bodyPost_ret (v := .tuple #[.agg #[.string en, .string ⟨#[]⟩, .string st, .string r], .bool true]) (by simp [results, Try.results7, go_sem]) rfl ⟨rfl, ((Below.refl _ _).alloc (Nat.le_refl _) _).alloc (by simp) _⟩
  · obtain rfl := empty_of hr
    clear hr
    have oldc : ∀ (cs cs' : Array Value), ((w.alloc (.cells cs 30)).alloc (.cells cs' 30)).cell? ⟨bc, oc, none⟩ = w.cell? ⟨bc, oc, none⟩ := fun cs cs' => by
      rw [World.cell?_alloc_lt _ _ ⟨bc, oc, none⟩ (by simp; omega), World.cell?_alloc_lt _ _ ⟨bc, oc, none⟩ hlc]
    go_enter Try.func7, Try.ntmps7
    go_wp2
    exact bodyPost_ret (v := .tuple #[.agg #[.string en, .string c, .string st, .string ⟨#[]⟩], .bool true]) (by simp [results, Try.results7, go_sem]) rfl ⟨rfl, ((Below.refl _ _).alloc (Nat.le_refl _) _).alloc (by simp) _⟩
  · have oldc : ∀ (cs cs' : Array Value), ((w.alloc (.cells cs 30)).alloc (.cells cs' 30)).cell? ⟨bc, oc, none⟩ = w.cell? ⟨bc, oc, none⟩ := fun cs cs' => by
      rw [World.cell?_alloc_lt _ _ ⟨bc, oc, none⟩ (by simp; omega), World.cell?_alloc_lt _ _ ⟨bc, oc, none⟩ hlc]
    have oldr : ∀ (cs cs' : Array Value), ((w.alloc (.cells cs 30)).alloc (.cells cs' 30)).cell? ⟨br, or_, none⟩ = w.cell? ⟨br, or_, none⟩ := fun cs cs' => by
      rw [World.cell?_alloc_lt _ _ ⟨br, or_, none⟩ (by simp; omega), World.cell?_alloc_lt _ _ ⟨br, or_, none⟩ hlr]
    go_enter Try.func7, Try.ntmps7
    go_wp2
    exact bodyPost_ret (v := .tuple #[.agg #[.string en, .string c, .string st, .string r], .bool true]) (by simp [results, Try.results7, go_sem]) rfl ⟨rfl, ((Below.refl _ _).alloc (Nat.le_refl _) _).alloc (by simp) _⟩

end Go.Proofs.Qxb6613683a
