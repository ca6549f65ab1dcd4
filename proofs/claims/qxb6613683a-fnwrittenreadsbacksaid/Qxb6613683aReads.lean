/-
  Seat b6613683a: the walk of FnWrittenReadsBack (3).
-/
import Derived.Test.Qxb6613683aBack
namespace Go.Proofs.Qxb6613683a
open Go.RowKit
set_option linter.unusedVariables false

set_option maxHeartbeats 4000000 in
set_option maxRecDepth 100000 in
theorem reads_no (a1 a2 a3 a4 : ByteArray) (w : World) (ha : a1.size ≤ maxLen) (hb : a2.size ≤ maxLen) (hc : a3.size ≤ maxLen) (hd : a4.size ≤ maxLen) :
    Calls Try.prog 3 #[.bool false, .string a1, .string a2, .string a3, .string a4] w fun e w' => e = .returned (.bool true) ∧ Below w.heap.size w w' := by
  have hby := bytes5 false a1 a2 a3 a4 w ha hb hc hd
  clear ha hb hc hd
  go_enter Try.func3, Try.ntmps3
  go_wp2_with (first
    | (go_at_call 5; refine hby.mono ?_; rintro e w' ⟨⟨r, rfl⟩, rfl⟩; cases r)
    | (go_at_call 6; refine (zz_nil _).mono ?_; rintro e w1 ⟨rfl, rfl⟩)
    | go_in)
  all_goals (go_ret; exact ⟨rfl, Below.refl _ _⟩)

theorem CK.new2 (w : World) (a1 a2 a3 a4 : ByteArray) : CK ((w.alloc (.cells #[.string a1, .string a2, .string a3, .string a4] 30)).alloc (.cells #[.string a1, .string a2, .string a3, .string a4] 30)) (w.heap.size + 1) a1 a2 a3 a4 := by
  have := CK.new (w.alloc (.cells #[.string a1, .string a2, .string a3, .string a4] 30)) a1 a2 a3 a4
  rw [show (w.alloc (.cells #[.string a1, .string a2, .string a3, .string a4] 30)).heap.size = w.heap.size + 1 by simp] at this
  exact this
theorem below2 (w : World) (cs cs' : Array Value) : Below w.heap.size w ((w.alloc (.cells cs 30)).alloc (.cells cs' 30)) := ((Below.refl _ _).alloc (Nat.le_refl _) _).alloc (by simp) _

set_option maxHeartbeats 4000000 in
set_option maxRecDepth 100000 in
theorem reads_yes (a1 a2 a3 a4 : ByteArray) (w : World) (ha : a1.size ≤ maxLen) (hb : a2.size ≤ maxLen) (hc : a3.size ≤ maxLen) (hd : a4.size ≤ maxLen) :
    Calls Try.prog 3 #[.bool true, .string a1, .string a2, .string a3, .string a4] w fun e w' => e = .returned (.bool true) ∧ Below w.heap.size w w' := by
  have hby := bytes5 true a1 a2 a3 a4 w ha hb hc hd
  clear ha hb hc hd
  have hkB := CK.new2 w a1 a2 a3 a4
  have hb2 := below2 w #[.string a1, .string a2, .string a3, .string a4] #[.string a1, .string a2, .string a3, .string a4]
  have hkA : CK ((w.alloc (.cells #[.string a1, .string a2, .string a3, .string a4] 30)).alloc (.cells #[.string a1, .string a2, .string a3, .string a4] 30)) w.heap.size a1 a2 a3 a4 := (CK.new w a1 a2 a3 a4).below ((Below.refl _ _).alloc (Nat.le_refl _) _)
  go_enter Try.func3, Try.ntmps3
  go_wp2_with (first
    | (go_at_call 5; refine hby.mono ?_; rintro e w' ⟨⟨r, rfl⟩, rfl⟩; cases r)
    | (go_at_call 6; refine (zz_ck hkC).mono ?_; rintro e w4 ⟨pc', pr', rfl, hpc', hpr', hg4⟩; have hpc4 := hpc2.below (hbC.trans (hg4.mono hbC.size)); have hpr4 := hpr2.below (hbC.trans (hg4.mono hbC.size)); have hbF := hbE.trans (hg4.mono hbE.size))
    | (go_at_call 6; refine (zz_ck hkB).mono ?_; rintro e w1 ⟨pc, pr, rfl, hpc, hpr, hg1⟩; have ec := hpc.isNone; have er := hpr.isNone; have hkA2 := hkA.below hg1)
    | (go_at_call 7; refine (back_any _ a2 _ a4 _ _ _ hpc hpr).mono ?_; rintro e w2 ⟨rfl, hg2⟩; obtain ⟨hl, e0, e1, e2, e3⟩ := hkA2.below hg2; have hpc2 := hpc.below hg2; have hpr2 := hpr.below hg2; have hkC := CK.new2 w2 a1 a2 a3 a4; have hbC := below2 w2 #[.string a1, .string a2, .string a3, .string a4] #[.string a1, .string a2, .string a3, .string a4]; have hbD := (hb2.trans (hg1.mono hb2.size)).trans (hg2.mono (Nat.le_trans hb2.size hg1.size)); have hbE := hbD.trans (hbC.mono hbD.size); have old : ∀ (cs : Array Value) (o : Nat), (w2.alloc (.cells cs 30)).cell? ⟨w'.heap.size, o, none⟩ = w2.cell? ⟨w'.heap.size, o, none⟩ := fun cs o => World.cell?_alloc_lt _ _ ⟨w'.heap.size, o, none⟩ hl)
    | (go_at_call 8; refine (same8 a2 a2 _ _ _ hpc' hpc4).mono ?_; rintro e w3 ⟨rfl, nq, rfl⟩)
    | (go_at_call 9; refine (same9 a4 a4 _ _ _ (hpr'.drewN _) (hpr4.drewN _)).mono ?_; rintro e w4 ⟨rfl, nq2, rfl⟩)
    | go_in)
  all_goals go_ret
  all_goals first
    | exact ⟨rfl, Below.refl _ _⟩
    | exact ⟨rfl, hbF⟩
    | exact ⟨rfl, drewN_below hbF _⟩
    | exact ⟨rfl, drewN_below (drewN_below hbF _) _⟩

theorem reads_any (x : Bool) (a1 a2 a3 a4 : ByteArray) (w : World) (ha : a1.size ≤ maxLen) (hb : a2.size ≤ maxLen) (hc : a3.size ≤ maxLen) (hd : a4.size ≤ maxLen) :
    Calls Try.prog 3 #[.bool x, .string a1, .string a2, .string a3, .string a4] w fun e w' => e = .returned (.bool true) ∧ Below w.heap.size w w' := by
  cases x
  · exact reads_no a1 a2 a3 a4 w ha hb hc hd
  · exact reads_yes a1 a2 a3 a4 w ha hb hc hd

end Go.Proofs.Qxb6613683a
