/-
  No cell of these rows narrows 'for every input' (looked for: loops, veiled, ifaces, maps, wideKeys, modest, calm, conditions, laid).
  DERIVED. THE GIVEN ROWS OF THIS SEAT. 2 by the template 'for every input the law returns true; each argument reads behind the call as it read before'; 0 by the template 'total and deterministic' (their statements: Qxb6613683aTotals.lean).
  GIVEN WITH THE SEED: the statements are not yours to turn. If you find one false, say at which input.
  Laid BY PROGRAM, IN A SANDBOX (cutbox-rows.mjs): the forced cells as the released guide's own fill.sh prints them over the translation c88943d4e07ac64c… (all of the seat's roots in one cut). By AI agents, Wed Nov 11 2026. No macro, syntax, notation, axiom, sorry.
-/
import Derived.Test.Qxb6613683aChecked
import GoSem.Claim
import GoSem.ClaimJoined
import GoSem.ClaimMapViews
import Derived.JoinedTies
import Derived.KernelRfl
namespace Go.Proofs.Qxb6613683a
/- THE CELL 'sum', in the pinned program and in every row, IS THE sha256 OF THE DUMP (.gsa) THAT Qxb6613683aProg.lean LOADS. Nothing in Lean hashes anything: it is a label: what it is worth is what the hold of that sum in a sandbox is worth. -/
noncomputable def Try.pinned : Pinned := { name := "qxb6613683a", sum := "c88943d4e07ac64c0deecadb3d9809a17db6059e28d09fbaca4db99d613110d0", checked := Try.checked }
namespace Rows
def none {H : Type} : Left H := { results := [], args := [] }

/-- 'zzlaws_pricing_b1.FnWrittenReadsBack': WHATEVER THE INPUT: true; the input reads as it did. -/
def fnWrittenReadsBackSpec : ChangeSpec := { name := "fnWrittenReadsBack", fn := fun _ => fun
  | [d1, d2, d3, d4, d5] => { results := [.lit (.bool true)], args := [d1, d2, d3, d4, d5] }
  | _ => none }
def fnWrittenReadsBackRow : OpenClaim := { program := "qxb6613683a", sum := "c88943d4e07ac64c0deecadb3d9809a17db6059e28d09fbaca4db99d613110d0", func := "example.com/perkwise/perkwise/zzlaws_pricing_b1.FnWrittenReadsBack", spec := "fnWrittenReadsBack", apart := false }
def FnWrittenReadsBackSaid : Prop := fnWrittenReadsBackRow.holds Try.pinned (OpenSpec.ofChange fnWrittenReadsBackSpec)

/-- ITS FALSE NEIGHBOUR: 'it returns false'. Refute it at one input. -/
def fnWrittenReadsBackWrong : ChangeSpec := { name := "fnWrittenReadsBack", fn := fun _ => fun
  | [d1, d2, d3, d4, d5] => { results := [.lit (.bool false)], args := [d1, d2, d3, d4, d5] }
  | _ => none }
def FnWrittenReadsBackWrongFalsely : Prop := fnWrittenReadsBackRow.holds Try.pinned (OpenSpec.ofChange fnWrittenReadsBackWrong)

/-- 'zzlaws_pricing_b1.FnWrittenSeparatesChecks': WHATEVER THE INPUT: true; the input reads as it did. -/
def fnWrittenSeparatesChecksSpec : ChangeSpec := { name := "fnWrittenSeparatesChecks", fn := fun _ => fun
  | [d1, d2, d3, d4, d5, d6, d7, d8, d9, d10] => { results := [.lit (.bool true)], args := [d1, d2, d3, d4, d5, d6, d7, d8, d9, d10] }
  | _ => none }
def fnWrittenSeparatesChecksRow : OpenClaim := { program := "qxb6613683a", sum := "c88943d4e07ac64c0deecadb3d9809a17db6059e28d09fbaca4db99d613110d0", func := "example.com/perkwise/perkwise/zzlaws_pricing_b1.FnWrittenSeparatesChecks", spec := "fnWrittenSeparatesChecks", apart := false }
def FnWrittenSeparatesChecksSaid : Prop := fnWrittenSeparatesChecksRow.holds Try.pinned (OpenSpec.ofChange fnWrittenSeparatesChecksSpec)

/-- ITS FALSE NEIGHBOUR: 'it returns false'. Refute it at one input. -/
def fnWrittenSeparatesChecksWrong : ChangeSpec := { name := "fnWrittenSeparatesChecks", fn := fun _ => fun
  | [d1, d2, d3, d4, d5, d6, d7, d8, d9, d10] => { results := [.lit (.bool false)], args := [d1, d2, d3, d4, d5, d6, d7, d8, d9, d10] }
  | _ => none }
def FnWrittenSeparatesChecksWrongFalsely : Prop := fnWrittenSeparatesChecksRow.holds Try.pinned (OpenSpec.ofChange fnWrittenSeparatesChecksWrong)

end Rows
end Go.Proofs.Qxb6613683a
