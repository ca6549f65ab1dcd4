/-
  No cell of these rows narrows 'for every input' (looked for: loops, veiled, ifaces, maps, wideKeys, modest, calm, conditions, laid).
  DERIVED. THE GIVEN ROWS OF THIS SEAT. 3 by the template 'for every input the law returns true; each argument reads behind the call as it read before'; 0 by the template 'total and deterministic' (their statements: Qxb6613703aTotals.lean).
  GIVEN WITH THE SEED: the statements are not yours to turn. If you find one false, say at which input.
  Laid BY PROGRAM, IN A SANDBOX (cutbox-rows.mjs): the forced cells as the released guide's own fill.sh prints them over the translation 76846bff7b0920e6… (all of the seat's roots in one cut). By AI agents, Wed Nov 11 2026. No macro, syntax, notation, axiom, sorry.
-/
import Derived.Test.Qxb6613703aChecked
import GoSem.Claim
import GoSem.ClaimJoined
import GoSem.ClaimMapViews
import Derived.JoinedTies
import Derived.KernelRfl
namespace Go.Proofs.Qxb6613703a
/- THE CELL 'sum', in the pinned program and in every row, IS THE sha256 OF THE DUMP (.gsa) THAT Qxb6613703aProg.lean LOADS. Nothing in Lean hashes anything: it is a label: what it is worth is what the hold of that sum in a sandbox is worth. -/
noncomputable def Try.pinned : Pinned := { name := "qxb6613703a", sum := "76846bff7b0920e62732b7fd6b10ae9a50b5f73c06cc0f48b0fe7d9e365e5766", checked := Try.checked }
namespace Rows
def none {H : Type} : Left H := { results := [], args := [] }

/-- 'zzlaws_internal_strictjson_b1.FnBytesBelowFlagsTheFirstByteBelow': WHATEVER THE INPUT: true; the input reads as it did. -/
def fnBytesBelowFlagsTheFirstByteBelowSpec : ChangeSpec := { name := "fnBytesBelowFlagsTheFirstByteBelow", fn := fun _ => fun
  | [d1, d2] => { results := [.lit (.bool true)], args := [d1, d2] }
  | _ => none }
def fnBytesBelowFlagsTheFirstByteBelowRow : OpenClaim := { program := "qxb6613703a", sum := "76846bff7b0920e62732b7fd6b10ae9a50b5f73c06cc0f48b0fe7d9e365e5766", func := "example.com/ledgerd/ledgerd/zzlaws_internal_strictjson_b1.FnBytesBelowFlagsTheFirstByteBelow", spec := "fnBytesBelowFlagsTheFirstByteBelow", apart := false }
def FnBytesBelowFlagsTheFirstByteBelowSaid : Prop := fnBytesBelowFlagsTheFirstByteBelowRow.holds Try.pinned (OpenSpec.ofChange fnBytesBelowFlagsTheFirstByteBelowSpec)

/-- ITS FALSE NEIGHBOUR: 'it returns false'. Refute it at one input. -/
def fnBytesBelowFlagsTheFirstByteBelowWrong : ChangeSpec := { name := "fnBytesBelowFlagsTheFirstByteBelow", fn := fun _ => fun
  | [d1, d2] => { results := [.lit (.bool false)], args := [d1, d2] }
  | _ => none }
def FnBytesBelowFlagsTheFirstByteBelowWrongFalsely : Prop := fnBytesBelowFlagsTheFirstByteBelowRow.holds Try.pinned (OpenSpec.ofChange fnBytesBelowFlagsTheFirstByteBelowWrong)

/-- 'zzlaws_internal_strictjson_b1.FnBytesBelowSplitsIntoHalves': WHATEVER THE INPUT: true; the input reads as it did. -/
def fnBytesBelowSplitsIntoHalvesSpec : ChangeSpec := { name := "fnBytesBelowSplitsIntoHalves", fn := fun _ => fun
  | [d1, d2] => { results := [.lit (.bool true)], args := [d1, d2] }
  | _ => none }
def fnBytesBelowSplitsIntoHalvesRow : OpenClaim := { program := "qxb6613703a", sum := "76846bff7b0920e62732b7fd6b10ae9a50b5f73c06cc0f48b0fe7d9e365e5766", func := "example.com/ledgerd/ledgerd/zzlaws_internal_strictjson_b1.FnBytesBelowSplitsIntoHalves", spec := "fnBytesBelowSplitsIntoHalves", apart := false }
def FnBytesBelowSplitsIntoHalvesSaid : Prop := fnBytesBelowSplitsIntoHalvesRow.holds Try.pinned (OpenSpec.ofChange fnBytesBelowSplitsIntoHalvesSpec)

/-- ITS FALSE NEIGHBOUR: 'it returns false'. Refute it at one input. -/
def fnBytesBelowSplitsIntoHalvesWrong : ChangeSpec := { name := "fnBytesBelowSplitsIntoHalves", fn := fun _ => fun
  | [d1, d2] => { results := [.lit (.bool false)], args := [d1, d2] }
  | _ => none }
def FnBytesBelowSplitsIntoHalvesWrongFalsely : Prop := fnBytesBelowSplitsIntoHalvesRow.holds Try.pinned (OpenSpec.ofChange fnBytesBelowSplitsIntoHalvesWrong)

/-- 'zzlaws_internal_strictjson_b1.FnKindIsReadOffTheByteAtThePlace': WHATEVER THE INPUT: true; the input reads as it did. -/
def fnKindIsReadOffTheByteAtThePlaceSpec : ChangeSpec := { name := "fnKindIsReadOffTheByteAtThePlace", fn := fun _ => fun
  | [d1, d2] => { results := [.lit (.bool true)], args := [d1, d2] }
  | _ => none }
def fnKindIsReadOffTheByteAtThePlaceRow : OpenClaim := { program := "qxb6613703a", sum := "76846bff7b0920e62732b7fd6b10ae9a50b5f73c06cc0f48b0fe7d9e365e5766", func := "example.com/ledgerd/ledgerd/zzlaws_internal_strictjson_b1.FnKindIsReadOffTheByteAtThePlace", spec := "fnKindIsReadOffTheByteAtThePlace", apart := false }
def FnKindIsReadOffTheByteAtThePlaceSaid : Prop := fnKindIsReadOffTheByteAtThePlaceRow.holds Try.pinned (OpenSpec.ofChange fnKindIsReadOffTheByteAtThePlaceSpec)

/-- ITS FALSE NEIGHBOUR: 'it returns false'. Refute it at one input. -/
def fnKindIsReadOffTheByteAtThePlaceWrong : ChangeSpec := { name := "fnKindIsReadOffTheByteAtThePlace", fn := fun _ => fun
  | [d1, d2] => { results := [.lit (.bool false)], args := [d1, d2] }
  | _ => none }
def FnKindIsReadOffTheByteAtThePlaceWrongFalsely : Prop := fnKindIsReadOffTheByteAtThePlaceRow.holds Try.pinned (OpenSpec.ofChange fnKindIsReadOffTheByteAtThePlaceWrong)

end Rows
end Go.Proofs.Qxb6613703a
