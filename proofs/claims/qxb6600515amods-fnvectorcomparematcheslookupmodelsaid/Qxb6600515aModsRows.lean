/-
  No cell of these rows narrows 'for every input' (looked for: loops, veiled, ifaces, maps, wideKeys, modest, calm, conditions, laid).
  DERIVED. THE GIVEN ROWS OF THIS SEAT. 3 by the template 'for every input the law returns true; each argument reads behind the call as it read before'; 0 by the template 'total and deterministic' (their statements: Qxb6600515aModsTotals.lean).
  GIVEN WITH THE SEED: the statements are not yours to turn. If you find one false, say at which input.
  Laid BY PROGRAM, IN A SANDBOX (cutbox-rows.mjs): the forced cells as the released guide's own fill.sh prints them over the translation 0472585bf0f6f0e5… (all of the seat's roots in one cut). By AI agents, Wed Nov 11 2026. No macro, syntax, notation, axiom, sorry.
-/
import Derived.Test.Qxb6600515aModsChecked
import GoSem.Claim
import GoSem.ClaimJoined
import GoSem.ClaimMapViews
import Derived.JoinedTies
import Derived.KernelRfl
namespace Go.Proofs.Qxb6600515aMods
/- THE CELL 'sum', in the pinned program and in every row, IS THE sha256 OF THE DUMP (.gsa) THAT Qxb6600515aModsProg.lean LOADS. Nothing in Lean hashes anything: it is a label: what it is worth is what the hold of that sum in a sandbox is worth. -/
noncomputable def Trym.pinned : Pinned := { name := "qxb6600515amods", sum := "0472585bf0f6f0e53606d0bd44f1b3b0b83609291fdc1a57dcaafba9af830d06", checked := Trym.checked }
namespace Rows
def none {H : Type} : Left H := { results := [], args := [] }

/-- 'zzlaws_pkg_protocol_b1.FnVectorCompareMatchesLookupModel': WHATEVER THE INPUT: true; the input reads as it did. -/
def fnVectorCompareMatchesLookupModelSpec : ChangeSpec := { name := "fnVectorCompareMatchesLookupModel", fn := fun _ => fun
  | [d1, d2, d3, d4] => { results := [.lit (.bool true)], args := [d1, d2, d3, d4] }
  | _ => none }
def fnVectorCompareMatchesLookupModelRow : OpenClaim := { program := "qxb6600515amods", sum := "0472585bf0f6f0e53606d0bd44f1b3b0b83609291fdc1a57dcaafba9af830d06", func := "example.com/peerfold/peerfold/zzlaws_pkg_protocol_b1.FnVectorCompareMatchesLookupModel", spec := "fnVectorCompareMatchesLookupModel", make := .lifted ["publicsums"], apart := false }
def FnVectorCompareMatchesLookupModelSaid : Prop := fnVectorCompareMatchesLookupModelRow.holds Trym.pinned (OpenSpec.ofChange fnVectorCompareMatchesLookupModelSpec)

/-- ITS FALSE NEIGHBOUR: 'it returns false'. Refute it at one input. -/
def fnVectorCompareMatchesLookupModelWrong : ChangeSpec := { name := "fnVectorCompareMatchesLookupModel", fn := fun _ => fun
  | [d1, d2, d3, d4] => { results := [.lit (.bool false)], args := [d1, d2, d3, d4] }
  | _ => none }
def FnVectorCompareMatchesLookupModelWrongFalsely : Prop := fnVectorCompareMatchesLookupModelRow.holds Trym.pinned (OpenSpec.ofChange fnVectorCompareMatchesLookupModelWrong)

/-- 'zzlaws_pkg_protocol_b1.FnVectorCompareMirrors': WHATEVER THE INPUT: true; the input reads as it did. -/
def fnVectorCompareMirrorsSpec : ChangeSpec := { name := "fnVectorCompareMirrors", fn := fun _ => fun
  | [d1, d2, d3, d4] => { results := [.lit (.bool true)], args := [d1, d2, d3, d4] }
  | _ => none }
def fnVectorCompareMirrorsRow : OpenClaim := { program := "qxb6600515amods", sum := "0472585bf0f6f0e53606d0bd44f1b3b0b83609291fdc1a57dcaafba9af830d06", func := "example.com/peerfold/peerfold/zzlaws_pkg_protocol_b1.FnVectorCompareMirrors", spec := "fnVectorCompareMirrors", make := .lifted ["publicsums"], apart := false }
def FnVectorCompareMirrorsSaid : Prop := fnVectorCompareMirrorsRow.holds Trym.pinned (OpenSpec.ofChange fnVectorCompareMirrorsSpec)

/-- ITS FALSE NEIGHBOUR: 'it returns false'. Refute it at one input. -/
def fnVectorCompareMirrorsWrong : ChangeSpec := { name := "fnVectorCompareMirrors", fn := fun _ => fun
  | [d1, d2, d3, d4] => { results := [.lit (.bool false)], args := [d1, d2, d3, d4] }
  | _ => none }
def FnVectorCompareMirrorsWrongFalsely : Prop := fnVectorCompareMirrorsRow.holds Trym.pinned (OpenSpec.ofChange fnVectorCompareMirrorsWrong)

/-- 'zzlaws_pkg_protocol_b1.FnVectorCompareIgnoresZeroCounters': WHATEVER THE INPUT: true; the input reads as it did. -/
def fnVectorCompareIgnoresZeroCountersSpec : ChangeSpec := { name := "fnVectorCompareIgnoresZeroCounters", fn := fun _ => fun
  | [d1, d2, d3, d4] => { results := [.lit (.bool true)], args := [d1, d2, d3, d4] }
  | _ => none }
def fnVectorCompareIgnoresZeroCountersRow : OpenClaim := { program := "qxb6600515amods", sum := "0472585bf0f6f0e53606d0bd44f1b3b0b83609291fdc1a57dcaafba9af830d06", func := "example.com/peerfold/peerfold/zzlaws_pkg_protocol_b1.FnVectorCompareIgnoresZeroCounters", spec := "fnVectorCompareIgnoresZeroCounters", make := .lifted ["publicsums"], apart := false }
def FnVectorCompareIgnoresZeroCountersSaid : Prop := fnVectorCompareIgnoresZeroCountersRow.holds Trym.pinned (OpenSpec.ofChange fnVectorCompareIgnoresZeroCountersSpec)

/-- ITS FALSE NEIGHBOUR: 'it returns false'. Refute it at one input. -/
def fnVectorCompareIgnoresZeroCountersWrong : ChangeSpec := { name := "fnVectorCompareIgnoresZeroCounters", fn := fun _ => fun
  | [d1, d2, d3, d4] => { results := [.lit (.bool false)], args := [d1, d2, d3, d4] }
  | _ => none }
def FnVectorCompareIgnoresZeroCountersWrongFalsely : Prop := fnVectorCompareIgnoresZeroCountersRow.holds Trym.pinned (OpenSpec.ofChange fnVectorCompareIgnoresZeroCountersWrong)

end Rows
end Go.Proofs.Qxb6600515aMods
