/-
  Seat b6613607a: THE PROOF OF 'Rows.FnSweepLeavesNoTraceAfterALifetimeSaid': the walk (its cases put together), lifted into the row by the guide's own frame.
-/
import Derived.Test.Qxb6613607aWalkE
import Derived.Test.Qxb6613607aWalkF
import Derived.Test.Qxb6613607aWalkG
import Derived.Test.Qxb6613607aWalkH
import Derived.ProofKit
import Derived.OpenShut
import Derived.ShutString
import Derived.ChangeOld
import Derived.Below
import Derived.SliceStrings
namespace Go.Proofs.Qxb6613607a.fnSweepLeavesNoTraceAfterALifetime
open Go.ChangeShapes Go.WideShapes Go.ChangeAt Go.RowKit
open Go.ChangeMaps (open_string shut_string)
set_option linter.unusedVariables false

theorem own : ownKnob Try.prog.godebug = none := by kernel_rfl
theorem laidOut : laidOutB Try.prog = true := by kernel_rfl

theorem add_at (b off i : Nat) : (⟨b, off, none⟩ : Addr).add i = ⟨b, off + i, none⟩ := by
  unfold Addr.add
  split
  · simp_all
  · rfl

/-- The cases of the walk put together. -/
theorem walk (a1 a2 : Option Addr) (cap1 cap2 : Nat) (ss : List ByteArray) (zs : List Int) (life next t1 t2 : Int) (w : World) (hs : StrRow w a1 ss) (hz : IntRow w a2 zs)
    (hl1 : ss.length ≤ maxLen) (hl2 : zs.length ≤ maxLen) (hsz : ∀ s ∈ ss, s.size ≤ maxLen) (hlife : life ≤ 9223372036854775807) (ht2 : t2 ≤ 9223372036854775807) :
    Calls Try.prog 4 #[.int .i64 life, .int .i64 next, .slice a1 ss.length cap1, .slice a2 zs.length cap2, .int .i64 t1, .int .i64 t2] w fun e w' => e = .returned (.bool true) ∧ Below w.heap.size w w' := by
  by_cases hg : ss.length ≤ 4096 ∧ ss.length = zs.length ∧ 0 < life ∧ 0 ≤ t1 ∧ t1 ≤ t2 ∧ life ≤ t2 - t1
  · obtain ⟨h4, g1, g2, g3, g4, g5⟩ := hg
    by_cases c1 : next ≤ t1
    · exact walk4_first a1 a2 cap1 cap2 ss zs life next t1 t2 w hs hz hl1 hl2 hsz hlife ht2 h4 g1 g2 g3 g4 g5 c1
    · by_cases c2 : next ≤ t2
      · exact walk4_second a1 a2 cap1 cap2 ss zs life next t1 t2 w hs hz hl1 hl2 hsz hlife ht2 h4 g1 g2 g3 g4 g5 (by omega) c2
      · exact walk4_none a1 a2 cap1 cap2 ss zs life next t1 t2 w hs hz hl1 hl2 hsz hlife ht2 h4 g1 g2 g3 g4 g5 (by omega) (by omega)
  · exact walk4_early a1 a2 cap1 cap2 ss zs life next t1 t2 w hs hz hl1 hl2 hsz hlife ht2 hg

set_option maxRecDepth 100000 in
theorem lifted (os : Os) (started : os.Started) (H : Type) (enc : TypeId × Value → H) :
    ReturnsInHanded {} Try.checked os 4 .any (Rows.fnSweepLeavesNoTraceAfterALifetimeSpec.pre6 enc Try.prog Try.f4 Rows.fnSweepLeavesNoTraceAfterALifetimeRow.domain false) (Rows.fnSweepLeavesNoTraceAfterALifetimeSpec.post enc Try.prog Try.f4 false true false false) := by
  refine returnsInHanded_of_change (C := Try.checked) own started (by kernel_rfl) Try.func4
    (ChangeSpec.witness6 (enc := enc) (C := Try.checked) false ⟨#[], #[.int .i64 0, .int .i64 0, .slice none 0 0, .slice none 0 0, .int .i64 0, .int .i64 0], []⟩ 8 (by kernel_rfl) (by kernel_rfl) (by kernel_rfl) (by kernel_rfl)) ?_
  intro W base args ds gs before hval0 hW hcnd _
  have hval : ∀ (j : Nat) t v, Try.f4.params[j]? = some t → args[j]? = some v → Value.okWide Try.prog W .any base t v := hval0
  have hW' := hW
  obtain ⟨p, q, hA0, hV, rfl, hfz, hnd⟩ := hW
  have hA : DataW.TrodAll enc Try.prog W 0 (fun _ => true) true Try.f4.params.toList args.toList ds p := hA0
  rw [Try.params4] at hA hval
  obtain ⟨v0, vs0, d0, ds0, p0, q0, hargs, rfl, rfl, h0, r0⟩ := trodAll_cons hA
  obtain ⟨v1, vs1, d1, ds1, p1, q1, rfl, rfl, rfl, h1, r1⟩ := trodAll_cons r0
  obtain ⟨v2, vs2, d2, ds2, p2, q2, rfl, rfl, rfl, h2, r2⟩ := trodAll_cons r1
  obtain ⟨v3, vs3, d3, ds3, p3, q3, rfl, rfl, rfl, h3, r3⟩ := trodAll_cons r2
  obtain ⟨v4, vs4, d4, ds4, p4, q4, rfl, rfl, rfl, h4, r4⟩ := trodAll_cons r3
  obtain ⟨v5, vs5, d5, ds5, p5, q5, rfl, rfl, rfl, h5, r5⟩ := trodAll_cons r4
  obtain ⟨rfl, rfl, rfl⟩ := trodAll_nil r5
  obtain rfl : args = #[v0, v1, v2, v3, v4, v5] := by cases args; simp_all
  obtain ⟨rfl, rfl⟩ := trodVars_none hV
  obtain ⟨a0, rfl, rfl, rfl, w0⟩ := open_int Try.underlying2 (hval 0 2 v0 rfl rfl) h0
  obtain ⟨a1, rfl, rfl, rfl, w1⟩ := open_int Try.underlying2 (hval 1 2 v1 rfl rfl) h1
  obtain ⟨a2, len2, cap2, rfl⟩ := okWide_slice Try.underlying22 (hval 2 22 v2 rfl rfl)
  have k2 := h2
  have lt2 : ∀ x ∈ p2, x.block < W.heap.size := by obtain ⟨m, hm⟩ := k2; exact DataW.trod_lt m _ _ _ hm
  obtain ⟨ss, rfl, sl, srow, ssz⟩ : ∃ ss : List ByteArray, len2 = ss.length ∧ ss.length ≤ maxLen ∧ StrRow W a2 ss ∧ (∀ s ∈ ss, s.size ≤ maxLen) := by
    obtain ⟨fuel, hf⟩ := h2
    rcases open_strings Try.underlying22 Try.underlying9 (by kernel_rfl) hf with ⟨hcs, _⟩ | ⟨x, l, c, ss, hcs, _, hl, hm, hz, _, hcell, hws⟩
    · simp [Value.cells] at hcs
      obtain ⟨rfl, rfl, rfl⟩ := hcs
      exact ⟨[], rfl, Nat.zero_le _, fun j hj => by simp at hj, fun s hs => by simp at hs⟩
    · simp [Value.cells] at hcs
      obtain ⟨rfl, rfl, rfl⟩ := hcs
      have hz' : ss.length = cap2 := by simpa using hz
      have hlen : (ss.take len2).length = len2 := by rw [List.length_take]; omega
      refine ⟨ss.take len2, hlen.symm, by rw [hlen]; omega, fun j hj => ?_, fun s hs => hws s (List.mem_of_mem_take hs)⟩
      rw [hlen] at hj ⊢
      obtain ⟨b, off, spot⟩ := x
      have hspot : spot = none := by simpa [Addr.add] using World.cell?_spot (hcell 0 (by omega))
      subst hspot
      have hc := hcell j (by omega)
      rw [add_at] at hc
      refine ⟨b, off, rfl, ?_, fun i hi => ?_⟩
      · exact block_lt_of_cell hc
      · have := hcell i (by omega)
        rw [show (ss.take len2).getD i ByteArray.empty = ss.getD i ByteArray.empty by simp [List.getD, hi]]
        rw [add_at] at this
        exact this
  obtain ⟨a3, len3, cap3, rfl⟩ := okWide_slice Try.underlying23 (hval 3 23 v3 rfl rfl)
  have k3 := h3
  have lt3 : ∀ x ∈ p3, x.block < W.heap.size := by obtain ⟨m, hm⟩ := k3; exact DataW.trod_lt m _ _ _ hm
  obtain ⟨zs, rfl, zl, zrow⟩ : ∃ zs : List Int, len3 = zs.length ∧ zs.length ≤ maxLen ∧ IntRow W a3 zs := by
    obtain ⟨fuel, hf⟩ := h3
    rcases open_ints Try.underlying23 Try.underlying2 (by kernel_rfl) hf with ⟨hcs, _⟩ | ⟨x, l, c, zs, hcs, _, hl, hm, hz, _, hcell, hwz⟩
    · simp [Value.cells] at hcs
      obtain ⟨rfl, rfl, rfl⟩ := hcs
      exact ⟨[], rfl, Nat.zero_le _, fun j hj => by simp at hj⟩
    · simp [Value.cells] at hcs
      obtain ⟨rfl, rfl, rfl⟩ := hcs
      have hz' : zs.length = cap3 := by simpa using hz
      have hlen : (zs.take len3).length = len3 := by rw [List.length_take]; omega
      refine ⟨zs.take len3, hlen.symm, by rw [hlen]; omega, fun j hj => ?_⟩
      rw [hlen] at hj ⊢
      obtain ⟨b, off, spot⟩ := x
      have hspot : spot = none := by simpa [Addr.add] using World.cell?_spot (hcell 0 (by omega))
      subst hspot
      have hc := hcell j (by omega)
      rw [add_at] at hc
      refine ⟨b, off, rfl, ?_, fun i hi => ?_⟩
      · exact block_lt_of_cell hc
      · have := hcell i (by omega)
        rw [show (zs.take len3).getD i 0 = zs.getD i 0 by simp [List.getD, hi]]
        rw [add_at] at this
        exact this
  obtain ⟨a4, rfl, rfl, rfl, w4⟩ := open_int Try.underlying2 (hval 4 2 v4 rfl rfl) h4
  obtain ⟨a5, rfl, rfl, rfl, w5⟩ := open_int Try.underlying2 (hval 5 2 v5 rfl rfl) h5
  clear hA0 hval0
  refine (walk a2 a3 cap2 cap3 ss zs a0 a1 a4 a5 W srow zrow sl zl ssz (bounds_i64 w0).2 (bounds_i64 w5).2).mono fun e W' ⟨he, bel⟩ => ?_
  subst he
  exact ⟨_, rfl, _, _, _, [], _, [], hW', trodAll_mk1 (shut_bool Try.underlying4 _), (trodAll_cons_mk (shut_int Try.underlying2 w0) (trodAll_cons_mk (shut_int Try.underlying2 w1) (trodAll_cons_mk (Below.trod laidOut (by kernel_rfl) (of_decide_eq_true (by kernel_rfl)) k2 bel lt2) (trodAll_cons_mk (Below.trod laidOut (by kernel_rfl) (of_decide_eq_true (by kernel_rfl)) k3 bel lt3) (trodAll_cons_mk (shut_int Try.underlying2 w4) (trodAll_cons_mk (shut_int Try.underlying2 w5) trodAll_mk0)))))), rfl, bel.frame _, fun h => by cases h⟩

theorem over : Rows.fnSweepLeavesNoTraceAfterALifetimeRow.holds Try.pinned (OpenSpec.ofChange Rows.fnSweepLeavesNoTraceAfterALifetimeSpec) :=
  OpenClaim.holds_of_wide 4 Try.f4 rfl rfl rfl rfl rfl rfl rfl ⟨rfl, rfl, rfl, rfl, rfl⟩ rfl rfl rfl rfl rfl (by kernel_rfl) Try.func4 (by kernel_rfl)
    (of_decide_eq_true (by kernel_rfl)) (by unfold Func.isWrapper; first | (rw [if_pos (by decide +kernel)]; kernel_rfl) | (rw [if_neg (by decide +kernel)]; exact ⟨rfl, rfl⟩))
    (fun os started H enc _ => lifted os started H enc)

/-- THE STATEMENT -/
theorem proved : Rows.FnSweepLeavesNoTraceAfterALifetimeSaid := over
#print axioms proved
end Go.Proofs.Qxb6613607a.fnSweepLeavesNoTraceAfterALifetime
