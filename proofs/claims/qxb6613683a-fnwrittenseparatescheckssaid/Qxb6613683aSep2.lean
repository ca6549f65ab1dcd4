/-
  Seat b6613683a: the walk of FnWrittenSeparatesChecks (4) where one of the two checks, or both, are nil.
-/
import Derived.Test.Qxb6613683aSep
namespace Go.Proofs.Qxb6613683a
open Go.RowKit
set_option linter.unusedVariables false

set_option maxHeartbeats 4000000 in
set_option maxRecDepth 100000 in
theorem sep_pn (a1 a2 a3 a4 b1 b2 b3 b4 : ByteArray) (w : World) (ha : a1.size ≤ maxLen) (hb : a2.size ≤ maxLen) (hc : a3.size ≤ maxLen) (hd : a4.size ≤ maxLen) (ha' : b1.size ≤ maxLen) (hb' : b2.size ≤ maxLen) (hc' : b3.size ≤ maxLen) (hd' : b4.size ≤ maxLen) :
    Calls Try.prog 4 #[.bool true, .string a1, .string a2, .string a3, .string a4, .bool false, .string b1, .string b2, .string b3, .string b4] w fun e w' => e = .returned (.bool true) ∧ Below w.heap.size w w' := by
  have hby := bytes10 true false a1 a2 a3 a4 b1 b2 b3 b4 w ha hb hc hd ha' hb' hc' hd'
  clear ha hb hc hd ha' hb' hc' hd'
  have hb2 : Below w.heap.size w (w.alloc (.cells #[.string a1, .string a2, .string a3, .string a4] 30)) := (Below.refl _ _).alloc (Nat.le_refl _) _
  have hkA := CK.new w a1 a2 a3 a4
  go_enter Try.func4, Try.ntmps4
  go_wp2_with (first
    | (go_at_call 10; refine hby.mono ?_; rintro e w' ⟨⟨r, rfl⟩, rfl⟩; cases r)
    | (go_at_call 6; have hm2 := hm1; clear hm2; refine (zz_nil _).mono ?_; rintro e w1 ⟨rfl, rfl⟩)
    | (go_at_call 6; refine (zz_ck hkA).mono ?_; rintro e w1 ⟨pca, pra, rfl, hpca, hpra, hg1⟩; have eca := hpca.isNone; have era := hpra.isNone; have hball := hb2.trans (hg1.mono hb2.size); have hm1 : Hid True := True.intro)
    | go_in)
  all_goals go_ret
  all_goals first
    | exact ⟨rfl, Below.refl _ _⟩
    | exact ⟨rfl, hball⟩

set_option maxHeartbeats 4000000 in
set_option maxRecDepth 100000 in
theorem sep_np (a1 a2 a3 a4 b1 b2 b3 b4 : ByteArray) (w : World) (ha : a1.size ≤ maxLen) (hb : a2.size ≤ maxLen) (hc : a3.size ≤ maxLen) (hd : a4.size ≤ maxLen) (ha' : b1.size ≤ maxLen) (hb' : b2.size ≤ maxLen) (hc' : b3.size ≤ maxLen) (hd' : b4.size ≤ maxLen) :
    Calls Try.prog 4 #[.bool false, .string a1, .string a2, .string a3, .string a4, .bool true, .string b1, .string b2, .string b3, .string b4] w fun e w' => e = .returned (.bool true) ∧ Below w.heap.size w w' := by
  have hby := bytes10 false true a1 a2 a3 a4 b1 b2 b3 b4 w ha hb hc hd ha' hb' hc' hd'
  clear ha hb hc hd ha' hb' hc' hd'
  have hb2 : Below w.heap.size w (w.alloc (.cells #[.string b1, .string b2, .string b3, .string b4] 30)) := (Below.refl _ _).alloc (Nat.le_refl _) _
  have hkB := CK.new w b1 b2 b3 b4
  go_enter Try.func4, Try.ntmps4
  go_wp2_with (first
    | (go_at_call 10; refine hby.mono ?_; rintro e w' ⟨⟨r, rfl⟩, rfl⟩; cases r)
    | (go_at_call 6; have hm2 := hm1; clear hm2; refine (zz_ck hkB).mono ?_; rintro e w1 ⟨pcb, prb, rfl, hpcb, hprb, hg1⟩; have ecb := hpcb.isNone; have erb := hprb.isNone; have hball := hb2.trans (hg1.mono hb2.size))
    | (go_at_call 6; refine (zz_nil _).mono ?_; rintro e w1 ⟨rfl, rfl⟩; have hm1 : Hid True := True.intro)
    | go_in)
  all_goals go_ret
  all_goals first
    | exact ⟨rfl, Below.refl _ _⟩
    | exact ⟨rfl, hball⟩

set_option maxHeartbeats 4000000 in
set_option maxRecDepth 100000 in
theorem sep_nn (a1 a2 a3 a4 b1 b2 b3 b4 : ByteArray) (w : World) (ha : a1.size ≤ maxLen) (hb : a2.size ≤ maxLen) (hc : a3.size ≤ maxLen) (hd : a4.size ≤ maxLen) (ha' : b1.size ≤ maxLen) (hb' : b2.size ≤ maxLen) (hc' : b3.size ≤ maxLen) (hd' : b4.size ≤ maxLen) :
    Calls Try.prog 4 #[.bool false, .string a1, .string a2, .string a3, .string a4, .bool false, .string b1, .string b2, .string b3, .string b4] w fun e w' => e = .returned (.bool true) ∧ Below w.heap.size w w' := by
  have hby := bytes10 false false a1 a2 a3 a4 b1 b2 b3 b4 w ha hb hc hd ha' hb' hc' hd'
  clear ha hb hc hd ha' hb' hc' hd'
  go_enter Try.func4, Try.ntmps4
  go_wp2_with (first
    | (go_at_call 10; refine hby.mono ?_; rintro e w' ⟨⟨r, rfl⟩, rfl⟩; cases r)
    | (go_at_call 6; refine (zz_nil _).mono ?_; rintro e w1 ⟨rfl, rfl⟩)
    | (go_at_call 8; refine (same8 ⟨#[]⟩ ⟨#[]⟩ _ _ _ (PC.nil _) (PC.nil _)).mono ?_; rintro e w3 ⟨rfl, nq, rfl⟩)
    | (go_at_call 9; refine (same9 ⟨#[]⟩ ⟨#[]⟩ _ _ _ (PC.nil _) (PC.nil _)).mono ?_; rintro e w4 ⟨rfl, nq2, rfl⟩)
    | go_in)
  all_goals go_ret
  all_goals first
    | exact ⟨rfl, Below.refl _ _⟩
    | exact ⟨rfl, drewN_below (Below.refl _ _) _⟩
    | exact ⟨rfl, drewN_below (drewN_below (Below.refl _ _) _) _⟩

theorem sep_any (x y : Bool) (a1 a2 a3 a4 b1 b2 b3 b4 : ByteArray) (w : World) (ha : a1.size ≤ maxLen) (hb : a2.size ≤ maxLen) (hc : a3.size ≤ maxLen) (hd : a4.size ≤ maxLen) (ha' : b1.size ≤ maxLen) (hb' : b2.size ≤ maxLen) (hc' : b3.size ≤ maxLen) (hd' : b4.size ≤ maxLen) :
    Calls Try.prog 4 #[.bool x, .string a1, .string a2, .string a3, .string a4, .bool y, .string b1, .string b2, .string b3, .string b4] w fun e w' => e = .returned (.bool true) ∧ Below w.heap.size w w' := by
  cases x <;> cases y
  · exact sep_nn a1 a2 a3 a4 b1 b2 b3 b4 w ha hb hc hd ha' hb' hc' hd'
  · exact sep_np a1 a2 a3 a4 b1 b2 b3 b4 w ha hb hc hd ha' hb' hc' hd'
  · exact sep_pn a1 a2 a3 a4 b1 b2 b3 b4 w ha hb hc hd ha' hb' hc' hd'
  · exact sep_pp a1 a2 a3 a4 b1 b2 b3 b4 w ha hb hc hd ha' hb' hc' hd'

end Go.Proofs.Qxb6613683a
