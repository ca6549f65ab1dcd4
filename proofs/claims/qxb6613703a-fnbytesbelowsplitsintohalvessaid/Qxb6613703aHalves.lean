/-
  Seat b6613703a: FnBytesBelowSplitsIntoHalves (4) at every input.
-/
import Derived.Test.Qxb6613703aWalks
namespace Go.Proofs.Qxb6613703a
open Go.RowKit
set_option linter.unusedVariables false

theorem halves_all (x n : Int) (h0 : (Lit.int .u64 x).wf = true) (h1 : (Lit.int .u8 n).wf = true) (w : World) :
    Calls Try.prog 4 #[.int .u64 x, .int .u8 n] w fun e w' => e = .returned (.bool true) ∧ Below w.heap.size w w' := by
  obtain ⟨hx0, hx⟩ := bounds_u64 h0
  obtain ⟨hn0, hn2⟩ := bounds_u8 h1
  by_cases hn : n ≤ 128
  · exact (splits_any x n hx0 hx hn0 hn w).mono fun e w' ⟨h, hw⟩ => ⟨h, by rw [hw]; exact Below.refl _ _⟩
  · go_enter Try.func4, Try.ntmps4
    go_wp2
    go_ret
    exact ⟨rfl, Below.refl _ _⟩

end Go.Proofs.Qxb6613703a
