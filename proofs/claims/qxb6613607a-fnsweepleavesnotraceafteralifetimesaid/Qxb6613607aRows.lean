/-
  No cell of these rows narrows 'for every input' (looked for: loops, veiled, ifaces, maps, wideKeys, modest, calm, conditions, laid).
  DERIVED. THE GIVEN ROWS OF THIS SEAT. 2 by the template 'for every input the law returns true; each argument reads behind the call as it read before'; 0 by the template 'total and deterministic' (their statements: Qxb6613607aTotals.lean).
  GIVEN WITH THE SEED: the statements are not yours to turn. If you find one false, say at which input.
  Laid BY PROGRAM, IN A SANDBOX (cutbox-rows.mjs): the forced cells as the released guide's own fill.sh prints them over the translation 15ac2b1ca4e8d5cf… (all of the seat's roots in one cut). By AI agents, Wed Nov 11 2026. No macro, syntax, notation, axiom, sorry.
-/
import Derived.Test.Qxb6613607aChecked
import GoSem.Claim
import GoSem.ClaimJoined
import GoSem.ClaimMapViews
import Derived.JoinedTies
import Derived.KernelRfl
namespace Go.Proofs.Qxb6613607a
/- THE CELL 'sum', in the pinned program and in every row, IS THE sha256 OF THE DUMP (.gsa) THAT Qxb6613607aProg.lean LOADS. Nothing in Lean hashes anything: it is a label: what it is worth is what the hold of that sum in a sandbox is worth. -/
noncomputable def Try.pinned : Pinned := { name := "qxb6613607a", sum := "15ac2b1ca4e8d5cf97b1a8cd55dd5e71fff2c68c86d77330d42cee852a335f82", checked := Try.checked }
namespace Rows
def none {H : Type} : Left H := { results := [], args := [] }

/-- 'zzlaws_pkg_digest_b1.FnSweepForgetsAtMostOncePerLifetime': WHATEVER THE INPUT: true; the input reads as it did. -/
def fnSweepForgetsAtMostOncePerLifetimeSpec : ChangeSpec := { name := "fnSweepForgetsAtMostOncePerLifetime", fn := fun _ => fun
  | [d1, d2, d3, d4, d5, d6] => { results := [.lit (.bool true)], args := [d1, d2, d3, d4, d5, d6] }
  | _ => none }
def fnSweepForgetsAtMostOncePerLifetimeRow : OpenClaim := { program := "qxb6613607a", sum := "15ac2b1ca4e8d5cf97b1a8cd55dd5e71fff2c68c86d77330d42cee852a335f82", func := "example.com/slim-roster/slim-roster/zzlaws_pkg_digest_b1.FnSweepForgetsAtMostOncePerLifetime", spec := "fnSweepForgetsAtMostOncePerLifetime", apart := false }
def FnSweepForgetsAtMostOncePerLifetimeSaid : Prop := fnSweepForgetsAtMostOncePerLifetimeRow.holds Try.pinned (OpenSpec.ofChange fnSweepForgetsAtMostOncePerLifetimeSpec)

/-- ITS FALSE NEIGHBOUR: 'it returns false'. Refute it at one input. -/
def fnSweepForgetsAtMostOncePerLifetimeWrong : ChangeSpec := { name := "fnSweepForgetsAtMostOncePerLifetime", fn := fun _ => fun
  | [d1, d2, d3, d4, d5, d6] => { results := [.lit (.bool false)], args := [d1, d2, d3, d4, d5, d6] }
  | _ => none }
def FnSweepForgetsAtMostOncePerLifetimeWrongFalsely : Prop := fnSweepForgetsAtMostOncePerLifetimeRow.holds Try.pinned (OpenSpec.ofChange fnSweepForgetsAtMostOncePerLifetimeWrong)

/-- 'zzlaws_pkg_digest_b1.FnSweepLeavesNoTraceAfterALifetime': WHATEVER THE INPUT: true; the input reads as it did. -/
def fnSweepLeavesNoTraceAfterALifetimeSpec : ChangeSpec := { name := "fnSweepLeavesNoTraceAfterALifetime", fn := fun _ => fun
  | [d1, d2, d3, d4, d5, d6] => { results := [.lit (.bool true)], args := [d1, d2, d3, d4, d5, d6] }
  | _ => none }
def fnSweepLeavesNoTraceAfterALifetimeRow : OpenClaim := { program := "qxb6613607a", sum := "15ac2b1ca4e8d5cf97b1a8cd55dd5e71fff2c68c86d77330d42cee852a335f82", func := "example.com/slim-roster/slim-roster/zzlaws_pkg_digest_b1.FnSweepLeavesNoTraceAfterALifetime", spec := "fnSweepLeavesNoTraceAfterALifetime", apart := false }
def FnSweepLeavesNoTraceAfterALifetimeSaid : Prop := fnSweepLeavesNoTraceAfterALifetimeRow.holds Try.pinned (OpenSpec.ofChange fnSweepLeavesNoTraceAfterALifetimeSpec)

/-- ITS FALSE NEIGHBOUR: 'it returns false'. Refute it at one input. -/
def fnSweepLeavesNoTraceAfterALifetimeWrong : ChangeSpec := { name := "fnSweepLeavesNoTraceAfterALifetime", fn := fun _ => fun
  | [d1, d2, d3, d4, d5, d6] => { results := [.lit (.bool false)], args := [d1, d2, d3, d4, d5, d6] }
  | _ => none }
def FnSweepLeavesNoTraceAfterALifetimeWrongFalsely : Prop := fnSweepLeavesNoTraceAfterALifetimeRow.holds Try.pinned (OpenSpec.ofChange fnSweepLeavesNoTraceAfterALifetimeWrong)

end Rows
end Go.Proofs.Qxb6613607a
