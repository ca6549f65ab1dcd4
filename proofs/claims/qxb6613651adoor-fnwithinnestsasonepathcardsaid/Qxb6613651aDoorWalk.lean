/-
  Seat b6613651aD: the walk of FnWithinNestsAsOnePath (5).
-/
import Derived.Test.Qxb6613651aDoorWithin
namespace Go.Proofs.Qxb6613651aDoor
open Go.RowKit
set_option linter.unusedVariables false

set_option maxHeartbeats 2000000 in
set_option maxRecDepth 100000 in
theorem walk_in (sub reason k1 k2 : ByteArray) (w : World) (hg : Handle w) (h0 : sub.size ≤ maxLen) (h1 : reason.size ≤ maxLen) (h2 : k1.size ≤ maxLen) (h3 : k2.size ≤ maxLen)
    (hs : sub.size + reason.size + k1.size + k2.size ≤ 1048576) :
    Calls Tryd.prog 5 #[.string sub, .string reason, .string k1, .string k2] w fun e w' => e = .returned (.bool true) ∧ Below w.heap.size w w' := by
  have hby := bytes_any sub reason k1 k2 w h0 h1 h2 h3
  have s1 := J_size k1 sub
  have s2 := J_size k2 k1
  have v1 : ∀ W, Handle W → _ := fun W hW => value_any sub reason k1 W hW (by omega) (by omega)
  have v2 : ∀ W, Handle W → _ := fun W hW => value_any (J k1 sub) reason k2 W hW (by omega) (by omega)
  have v3 : ∀ W, Handle W → _ := fun W hW => value_any k1 ⟨#[]⟩ k2 W hW (by omega) (by omega)
  have v4 : ∀ W, Handle W → _ := fun W hW => value_any sub reason (J k2 k1) W hW (by omega) (by omega)
  have v5 := fun W => join_any k2 k1 sub W (by omega) (by omega) (by omega)
  rw [J_assoc] at v2
  clear s1 s2 h0 h1 h2 h3
  generalize J (J k2 k1) sub = j3 at v2 v4 v5
  generalize J k2 k1 = j2 at v3 v4
  generalize J k1 sub = j1 at v1 v2
  go_enter Tryd.func5, Tryd.ntmps5
  go_wp2_with (first
    | (go_at_call 14; refine hby.mono ?_; rintro e w' ⟨⟨r, rfl⟩, rfl⟩; cases r)
    | (go_at_call 15; refine (v4 _ hg3).mono ?_; rintro e w4 ⟨rfl, hb4⟩)
    | (go_at_call 15; refine (v3 _ hg2).mono ?_; rintro e w3 ⟨rfl, hb3⟩; have hg3 := hg2.below hb3)
    | (go_at_call 15; refine (v2 _ hg1).mono ?_; rintro e w2 ⟨rfl, hb2⟩; have hg2 := hg1.below hb2)
    | (go_at_call 15; refine (v1 _ hg).mono ?_; rintro e w1 ⟨rfl, hb1⟩; have hg1 := hg.below hb1)
    | (go_at_call 16; refine (v5 _).mono ?_; rintro e w5 ⟨rfl, rfl⟩)
    | go_in)
  · go_ret; exact ⟨rfl, Below.refl _ _⟩
  · go_ret
    have c2 := hb1.size
    have c3 := hb2.size
    have c4 := hb3.size
    exact ⟨rfl, ((hb1.trans (hb2.mono c2)).trans (hb3.mono (Nat.le_trans c2 c3))).trans (hb4.mono (Nat.le_trans c2 (Nat.le_trans c3 c4)))⟩

set_option maxHeartbeats 2000000 in
set_option maxRecDepth 100000 in
theorem walk_out (sub reason k1 k2 : ByteArray) (w : World) (h0 : sub.size ≤ maxLen) (h1 : reason.size ≤ maxLen) (h2 : k1.size ≤ maxLen) (h3 : k2.size ≤ maxLen)
    (hs : ¬ sub.size + reason.size + k1.size + k2.size ≤ 1048576) :
    Calls Tryd.prog 5 #[.string sub, .string reason, .string k1, .string k2] w fun e w' => e = .returned (.bool true) ∧ Below w.heap.size w w' := by
  have hby := bytes_any sub reason k1 k2 w h0 h1 h2 h3
  unfold maxLen at h0 h1 h2 h3
  go_enter Tryd.func5, Tryd.ntmps5
  go_wp2_with (first
    | (go_at_call 14; refine hby.mono ?_; rintro e w' ⟨⟨r, rfl⟩, rfl⟩; cases r)
    | go_in)
  all_goals (go_ret; exact ⟨rfl, Below.refl _ _⟩)

theorem walk_any (sub reason k1 k2 : ByteArray) (w : World) (hg : Handle w) (h0 : sub.size ≤ maxLen) (h1 : reason.size ≤ maxLen) (h2 : k1.size ≤ maxLen) (h3 : k2.size ≤ maxLen) :
    Calls Tryd.prog 5 #[.string sub, .string reason, .string k1, .string k2] w fun e w' => e = .returned (.bool true) ∧ Below w.heap.size w w' := by
  by_cases hs : sub.size + reason.size + k1.size + k2.size ≤ 1048576
  · exact walk_in sub reason k1 k2 w hg h0 h1 h2 h3 hs
  · exact walk_out sub reason k1 k2 w h0 h1 h2 h3 hs

end Go.Proofs.Qxb6613651aDoor
