/-
  Seat b6613683a: the walk of FnWrittenSeparatesChecks (4).
-/
import Derived.Test.Qxb6613683aSame
namespace Go.Proofs.Qxb6613683a
open Go.RowKit
set_option linter.unusedVariables false

/-- A check in memory: its four texts in block b. -/
def CK (w : World) (b : Nat) (en c st r : ByteArray) : Prop :=
  b < w.heap.size ∧ w.cell? ⟨b, 0, none⟩ = some (.string en) ∧ w.cell? ⟨b, 1, none⟩ = some (.string c) ∧ w.cell? ⟨b, 2, none⟩ = some (.string st) ∧ w.cell? ⟨b, 3, none⟩ = some (.string r)
theorem CK.below {w w' : World} {b : Nat} {en c st r : ByteArray} (h : CK w b en c st r) (hb : Below w.heap.size w w') : CK w' b en c st r := by
  obtain ⟨h0, h1, h2, h3, h4⟩ := h
  exact ⟨Nat.lt_of_lt_of_le h0 hb.size, (hb.cell (p := ⟨b, 0, none⟩) h0).trans h1, (hb.cell (p := ⟨b, 1, none⟩) h0).trans h2, (hb.cell (p := ⟨b, 2, none⟩) h0).trans h3, (hb.cell (p := ⟨b, 3, none⟩) h0).trans h4⟩
theorem CK.new (w : World) (en c st r : ByteArray) : CK (w.alloc (.cells #[.string en, .string c, .string st, .string r] 30)) w.heap.size en c st r :=
  ⟨by simp, by simp, by simp, by simp, by simp⟩
theorem PC.isNone {w : World} {s : ByteArray} {p : Option Addr} (h : PC w s p) : p.isNone = s.toList.isEmpty := by
  rcases h with ⟨h1, rfl⟩ | ⟨h1, b, o, rfl, _⟩
  · rw [h1]; rfl
  · rw [h1]; rfl
theorem drewN_below {B : Nat} {a w : World} (h : Below B a w) (q : Nat) : Below B a (w.drewN q) := h.trans ⟨rfl, rfl, rfl, Nat.le_refl _, fun _ _ => rfl⟩

/-- ZZwritten of a check: its two pointers lead to its code and its reason. -/
theorem zz_ck {w : World} {b : Nat} {en c st r : ByteArray} (h : CK w b en c st r) :
    Calls Try.prog 6 #[.pointer (some ⟨b, 0, none⟩)] w fun e w' => ∃ pc pr, e = .returned (.tuple #[.bool false, .string en, .pointer pc, .string st, .pointer pr]) ∧ PC w' c pc ∧ PC w' r pr ∧ Below w.heap.size w w' := by
  refine (zz_any en c st r b w h.2.1 h.2.2.1 h.2.2.2.1 h.2.2.2.2).mono ?_
  rintro e w' ⟨pc, pr, rfl, h1, h2, hb⟩
  have h' := h.below hb
  exact ⟨pc, pr, rfl, .of h1 h'.1 h'.2.2.1, .of h2 h'.1 h'.2.2.2.2, hb⟩

set_option maxHeartbeats 4000000 in
set_option maxRecDepth 100000 in
theorem sep_pp (a1 a2 a3 a4 b1 b2 b3 b4 : ByteArray) (w : World) (ha : a1.size ≤ maxLen) (hb : a2.size ≤ maxLen) (hc : a3.size ≤ maxLen) (hd : a4.size ≤ maxLen) (ha' : b1.size ≤ maxLen) (hb' : b2.size ≤ maxLen) (hc' : b3.size ≤ maxLen) (hd' : b4.size ≤ maxLen) :
    Calls Try.prog 4 #[.bool true, .string a1, .string a2, .string a3, .string a4, .bool true, .string b1, .string b2, .string b3, .string b4] w fun e w' => e = .returned (.bool true) ∧ Below w.heap.size w w' := by
  have hby := bytes10 true true a1 a2 a3 a4 b1 b2 b3 b4 w ha hb hc hd ha' hb' hc' hd'
  clear ha hb hc hd ha' hb' hc' hd'
  have hbA : Below w.heap.size w (w.alloc (.cells #[.string a1, .string a2, .string a3, .string a4] 30)) := (Below.refl _ _).alloc (Nat.le_refl _) _
  have hbB : Below (w.heap.size + 1) (w.alloc (.cells #[.string a1, .string a2, .string a3, .string a4] 30)) ((w.alloc (.cells #[.string a1, .string a2, .string a3, .string a4] 30)).alloc (.cells #[.string b1, .string b2, .string b3, .string b4] 30)) := (Below.refl _ _).alloc (by simp) _
  have hkA : CK ((w.alloc (.cells #[.string a1, .string a2, .string a3, .string a4] 30)).alloc (.cells #[.string b1, .string b2, .string b3, .string b4] 30)) w.heap.size a1 a2 a3 a4 := (CK.new w a1 a2 a3 a4).below (hbB.mono (by simp))
  have hkB : CK ((w.alloc (.cells #[.string a1, .string a2, .string a3, .string a4] 30)).alloc (.cells #[.string b1, .string b2, .string b3, .string b4] 30)) (w.heap.size + 1) b1 b2 b3 b4 := by
    have := CK.new (w.alloc (.cells #[.string a1, .string a2, .string a3, .string a4] 30)) b1 b2 b3 b4
    simpa using this
  have hb2 := hbA.trans (hbB.mono (Nat.le_succ _))
  clear hbA hbB
  go_enter Try.func4, Try.ntmps4
  go_wp2_with (first
    | (go_at_call 10; refine hby.mono ?_; rintro e w' ⟨⟨r, rfl⟩, rfl⟩; cases r)
    | (go_at_call 6; refine (zz_ck hkB1).mono ?_; rintro e w2 ⟨pcb, prb, rfl, hpcb, hprb, hg2⟩; have hpca2 := hpca.below hg2; have hpra2 := hpra.below hg2; have ecb := hpcb.isNone; have erb := hprb.isNone; have hball := (hb2.trans (hg1.mono hb2.size)).trans (hg2.mono (Nat.le_trans hb2.size hg1.size)))
    | (go_at_call 6; refine (zz_ck hkA).mono ?_; rintro e w1 ⟨pca, pra, rfl, hpca, hpra, hg1⟩; have hkB1 := hkB.below hg1; have eca := hpca.isNone; have era := hpra.isNone)
    | (go_at_call 8; refine (same8 a2 b2 _ _ _ hpca2 hpcb).mono ?_; rintro e w3 ⟨rfl, nq, rfl⟩)
    | (go_at_call 9; refine (same9 a4 b4 _ _ _ (hpra2.drewN _) (hprb.drewN _)).mono ?_; rintro e w4 ⟨rfl, nq2, rfl⟩)
    | go_in)
  all_goals go_ret
  all_goals first
    | exact ⟨rfl, Below.refl _ _⟩
    | exact ⟨rfl, hball⟩
    | exact ⟨rfl, drewN_below hball _⟩
    | exact ⟨rfl, drewN_below (drewN_below hball _) _⟩

end Go.Proofs.Qxb6613683a
