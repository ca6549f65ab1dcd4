/-
  Seat b6613651aD: the walks of Within (21), zzUnpackB1 (19), ZZWithinValueB1 (15), zzJoin3B1 (16), zzBytes (14).
-/
import Derived.Test.Qxb6613651aDoorAs
import Derived.Test.Qxb6613651aDoorPlain
import Derived.Deep.QuietTactic
import Derived.BigQuiet
namespace Go.Proofs.Qxb6613651aDoor
open Go.RowKit
set_option linter.unusedVariables false

/-- What the listed variable's cell holds (errors.errorType: the handle of 'error'). -/
def Handle (w : World) : Prop := w.cell? ⟨0, 0, none⟩ = some (.iface 78 (.agg #[.pointer (some ⟨7, 43, none⟩)]))

theorem Handle.lt {w : World} (h : Handle w) : 0 < w.heap.size := by
  rcases Nat.eq_zero_or_pos w.heap.size with h0 | hp
  · simp [Handle, World.cell?, h0] at h
  · exact hp
theorem Handle.below {w w' : World} (h : Handle w) (hb : Below w.heap.size w w') : Handle w' := (hb.cell (p := ⟨0, 0, none⟩) h.lt).trans h

theorem gtrans {a b c : World} {row : Option Nat} (h : a.grownBy b row) (k : b.grownBy c row) : a.grownBy c row :=
  ⟨k.os.trans h.os, k.tape.trans h.tape, k.output.trans h.output, Nat.le_trans h.size k.size, fun i hi hne => (k.block i (Nat.lt_of_lt_of_le hi h.size) hne).trans (h.block i hi hne)⟩
theorem setCell_grown (w : World) (a : Addr) (u : Value) : w.grownBy (w.setCell a u) (some a.block) :=
  ⟨rfl, rfl, rfl, by simp [World.setCell], fun k _ hk => Below.heap_setCell _ _ _ _ (fun e => hk (by rw [e]))⟩

/-- errors.As, the target a variable that is nil: it is set; nothing else that was there turns. -/
theorem as_any (eb tb : Nat) (w : World) (hg : Handle w) (ht : w.cell? ⟨tb, 0, none⟩ = some (.pointer none)) (hf : w.frozen? ⟨tb, 0, none⟩ = false) :
    Calls Tryd.prog 28 #[.iface 47 (.pointer (some ⟨eb, 0, none⟩)), .iface 57 (.pointer (some ⟨tb, 0, none⟩))] w fun ev w' =>
      ev = .returned (.bool true) ∧ w'.cell? ⟨tb, 0, none⟩ = some (.pointer (some ⟨eb, 0, none⟩)) ∧ w.grownBy w' (some tb) := by
  refine (as_hit ⟨eb, 0, none⟩ ⟨tb, 0, none⟩ (.pointer none) w hg ht hf).mono ?_
  rintro ev w' ⟨rfl, rfl⟩
  have htl : tb < w.heap.size := by
    rcases Nat.lt_or_ge tb w.heap.size with h | h
    · exact h
    · simp [World.cell?, Array.getElem?_eq_none h] at ht
  refine ⟨rfl, ?_, ?_⟩
  · obtain ⟨v, hv⟩ : ∃ v, ((((w.alloc (.cells #[.pointer (some ⟨tb, 0, none⟩)] 57)).alloc (.cells #[.pointer (some ⟨7, 57, none⟩), .pointer (some ⟨w.heap.size, 0, none⟩), .int .u64 150] 63)).alloc (.cells #[.pointer (some ⟨7, 57, none⟩), .pointer (some ⟨w.heap.size, 0, none⟩), .int .u64 150] 63)).alloc (.cells #[.pointer (some ⟨eb, 0, none⟩)] 47)).cell? ⟨tb, 0, none⟩ = some v := by
      refine ⟨.pointer none, ?_⟩
      rw [World.cell?_alloc_lt _ _ ⟨tb, 0, none⟩ (by simp; omega), World.cell?_alloc_lt _ _ ⟨tb, 0, none⟩ (by simp; omega), World.cell?_alloc_lt _ _ ⟨tb, 0, none⟩ (by simp; omega), World.cell?_alloc_lt _ _ ⟨tb, 0, none⟩ htl]; exact ht
    exact World.cell?_setCell_same' _ _ _ (by rw [hv]; rfl)
  · exact gtrans (gtrans (gtrans (gtrans (World.grownBy_alloc w _ _) (World.grownBy_alloc _ _ _)) (World.grownBy_alloc _ _ _)) (World.grownBy_alloc _ _ _)) (setCell_grown _ ⟨tb, 0, none⟩ _)

set_option maxHeartbeats 1000000 in
theorem within_any (sub reason key : ByteArray) (eb : Nat) (w : World) (hg : Handle w) (c0 : w.cell? ⟨eb, 0, none⟩ = some (.string sub)) (c1 : w.cell? ⟨eb, 1, none⟩ = some (.string reason))
    (hs : sub.size ≤ 4194304) (hk : key.size ≤ 4194304) :
    Calls Tryd.prog 21 #[.iface 47 (.pointer (some ⟨eb, 0, none⟩)), .string key] w fun e w' => ∃ b, e = .returned (.iface 47 (.pointer (some ⟨b, 0, none⟩))) ∧
      w'.cell? ⟨b, 0, none⟩ = some (.string (J key sub)) ∧ w'.cell? ⟨b, 1, none⟩ = some (.string reason) ∧ Below w.heap.size w w' := by
  have hb0 : Below w.heap.size w (w.alloc (.cells #[.pointer none] 47)) := (Below.refl _ _).alloc (Nat.le_refl _) _
  have hel : eb < w.heap.size := by
    rcases Nat.lt_or_ge eb w.heap.size with h | h
    · exact h
    · simp [World.cell?, Array.getElem?_eq_none h] at c0
  have hg1 := hg.below hb0
  have ht : (w.alloc (.cells #[.pointer none] 47)).cell? ⟨w.heap.size, 0, none⟩ = some (.pointer none) := by simp
  have hf : (w.alloc (.cells #[.pointer none] 47)).frozen? ⟨w.heap.size, 0, none⟩ = false := by simp
  have has := as_any eb w.heap.size _ hg1 ht hf
  go_enter Tryd.func21, Tryd.ntmps21
  go_wp2_with (first
    | (go_at_call 28; refine has.mono ?_; rintro e w1 ⟨rfl, ct, hgr⟩; have hb1 : Below w.heap.size w w1 := hb0.grown hgr (by simp) (fun j hj => by cases hj; exact Nat.le_refl _); have d0 := (hb1.cell (p := ⟨eb, 0, none⟩) hel).trans c0; have d1 := (hb1.cell (p := ⟨eb, 1, none⟩) hel).trans c1; clear has ht hf hg1 hb0)
    | go_in)
  all_goals go_ret
  · exact ⟨w1.heap.size, rfl, by rw [J_1 ‹_›]; simp, by simp, hb1.alloc hb1.size _⟩
  · exact ⟨w1.heap.size, rfl, by rw [J_2 ‹_› ‹_›]; simp, by simp, hb1.alloc hb1.size _⟩
  · exact ⟨w1.heap.size, rfl, by rw [J_3 ‹_› ‹_›]; simp, by simp, hb1.alloc hb1.size _⟩

theorem assert47 (v : Value) (w : World) : (Instr.typeAssert (.iface 47 v) 43 47 true).run Tryd.prog w = .ok (.tuple #[v, .bool true]) w := by kernel_rfl

set_option maxRecDepth 100000 in
theorem unpack_any (sub reason : ByteArray) (b : Nat) (w : World) (c0 : w.cell? ⟨b, 0, none⟩ = some (.string sub)) (c1 : w.cell? ⟨b, 1, none⟩ = some (.string reason)) :
    Calls Tryd.prog 19 #[.iface 47 (.pointer (some ⟨b, 0, none⟩))] w fun e w' => e = .returned (.tuple #[.bool true, .bool true, .string sub, .string reason]) ∧ ∃ nq, w' = w.drewN nq := by
  have hta := assert47
  go_enter Tryd.func19, Tryd.ntmps19
  go_wp2
  go_quiet (fail)
  go_wp2
  exact bodyPost_ret (v := .tuple #[.bool true, .bool true, .string sub, .string reason]) (by simp [results, Tryd.results19, go_sem]) rfl ⟨rfl, _, rfl⟩

set_option maxHeartbeats 1000000 in
theorem value_any (sub reason key : ByteArray) (w : World) (hg : Handle w) (hs : sub.size ≤ 4194304) (hk : key.size ≤ 4194304) :
    Calls Tryd.prog 15 #[.string sub, .string reason, .string key] w fun e w' => e = .returned (.tuple #[.bool true, .bool true, .string (J key sub), .string reason]) ∧ Below w.heap.size w w' := by
  have hb0 : Below w.heap.size w (w.alloc (.cells #[.string sub, .string reason] 49)) := (Below.refl _ _).alloc (Nat.le_refl _) _
  have hwi := within_any sub reason key w.heap.size (w.alloc (.cells #[.string sub, .string reason] 49)) (hg.below hb0) (by simp) (by simp) hs hk
  go_enter Tryd.func15, Tryd.ntmps15
  go_wp2_with (first
    | (go_at_call 21; refine hwi.mono ?_; rintro e w1 ⟨b, rfl, d0, d1, hb1⟩)
    | (go_at_call 19; refine (unpack_any _ _ _ _ d0 d1).mono ?_; rintro e w2 ⟨rfl, nq, rfl⟩)
    | go_in)
  exact bodyPost_ret (v := .tuple #[.bool true, .bool true, .string (J key sub), .string reason]) (by simp [results, Tryd.results15, go_sem]) rfl
    ⟨rfl, (hb0.trans (hb1.mono (by simp))).trans ⟨rfl, rfl, rfl, Nat.le_refl _, fun _ _ => rfl⟩⟩

theorem ret_str {a b : ByteArray} (h : a = b) : Ending.returned (.string a) = .returned (.string b) := by rw [h]

set_option maxHeartbeats 1000000 in
theorem join_any (a b c : ByteArray) (w : World) (ha : a.size ≤ 1048576) (hb : b.size ≤ 1048576) (hc : c.size ≤ 1048576) :
    Calls Tryd.prog 16 #[.string a, .string b, .string c] w fun e w' => e = .returned (.string (J (J a b) c)) ∧ w' = w := by
  go_enter Tryd.func16, Tryd.ntmps16
  go_wp2
  all_goals go_ret
  · exact ⟨ret_str (outer1 (step1 (by assumption) (by assumption)) (by assumption) (by assumption)), rfl⟩
  · exact ⟨ret_str (outer2 (step1 (by assumption) (by assumption)) (by assumption) (by assumption)), rfl⟩
  · exact ⟨ret_str (outer3 (step1 (by assumption) (by assumption)) (by assumption)), rfl⟩
  · exact ⟨ret_str (outer1 (step2 (by assumption) (by assumption)) (by assumption) (by assumption)), rfl⟩
  · exact ⟨ret_str (outer2 (step2 (by assumption) (by assumption)) (by assumption) (by assumption)), rfl⟩
  · exact ⟨ret_str (outer3 (step2 (by assumption) (by assumption)) (by assumption)), rfl⟩
  · exact ⟨ret_str (outer1 (step3 (by assumption)) (by assumption) (by assumption)), rfl⟩
  · exact ⟨ret_str (outer2 (step3 (by assumption)) (by assumption) (by assumption)), rfl⟩
  · exact ⟨ret_str (outer3 (step3 (by assumption)) (by assumption)), rfl⟩

/-- Some bool is returned. -/
def RetB (e : Ending) : Prop := ∃ r, e = .returned (.bool r)

set_option maxHeartbeats 1000000 in
theorem bytes_any (a b c d : ByteArray) (w : World) (ha : a.size ≤ maxLen) (hb : b.size ≤ maxLen) (hc : c.size ≤ maxLen) (hd : d.size ≤ maxLen) :
    Calls Tryd.prog 14 #[.string a, .string b, .string c, .string d] w fun e w' => RetB e ∧ w' = w := by
  unfold maxLen at ha hb hc hd
  go_enter Tryd.func14, Tryd.ntmps14
  go_wp2
  all_goals (go_ret; exact ⟨⟨_, rfl⟩, rfl⟩)


end Go.Proofs.Qxb6613651aDoor
