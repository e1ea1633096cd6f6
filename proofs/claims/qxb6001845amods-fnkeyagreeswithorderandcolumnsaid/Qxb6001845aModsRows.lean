/-
  No cell of these rows narrows 'for every input' (looked for: loops, veiled, ifaces, maps, wideKeys, modest, calm, conditions, laid).
  DERIVED. THE GIVEN ROWS OF THIS SEAT. 3 by the template 'for every input the law returns true; each argument reads behind the call as it read before'; 0 by the template 'total and deterministic' (their statements: Qxb6001845aModsTotals.lean).
  GIVEN WITH THE SEED: the statements are not yours to turn. If you find one false, say at which input.
  Laid BY PROGRAM, IN A SANDBOX (cutbox-rows.mjs): the forced cells as the released guide's own fill.sh prints them over the translation c1616169afb1007c… (all of the seat's roots in one cut). By AI agents, Wed Nov 11 2026. No macro, syntax, notation, axiom, sorry.
-/
import Derived.Test.Qxb6001845aModsChecked
import GoSem.Claim
import GoSem.ClaimJoined
import GoSem.ClaimMapViews
import Derived.JoinedTies
import Derived.KernelRfl
namespace Go.Proofs.Qxb6001845aMods
/- THE CELL 'sum', in the pinned program and in every row, IS THE sha256 OF THE DUMP (.gsa) THAT Qxb6001845aModsProg.lean LOADS. Nothing in Lean hashes anything: it is a label: what it is worth is what the hold of that sum in a sandbox is worth. -/
noncomputable def Trym.pinned : Pinned := { name := "qxb6001845amods", sum := "c1616169afb1007cc1d7343e6ed187ac04d0a0a1f8c0cb58076577c3c367b041", checked := Trym.checked }
namespace Rows
def none {H : Type} : Left H := { results := [], args := [] }

/-- 'zzlaws_sqldb_b1.FnSequencedSizeStaysWithinCap': WHATEVER THE INPUT: true; the input reads as it did. -/
def fnSequencedSizeStaysWithinCapSpec : ChangeSpec := { name := "fnSequencedSizeStaysWithinCap", fn := fun _ => fun
  | [d1, d2] => { results := [.lit (.bool true)], args := [d1, d2] }
  | _ => none }
def fnSequencedSizeStaysWithinCapRow : OpenClaim := { program := "qxb6001845amods", sum := "c1616169afb1007cc1d7343e6ed187ac04d0a0a1f8c0cb58076577c3c367b041", func := "example.com/shapewire/shapewire/zzlaws_sqldb_b1.FnSequencedSizeStaysWithinCap", spec := "fnSequencedSizeStaysWithinCap", make := .lifted ["publicsums"], apart := false }
def FnSequencedSizeStaysWithinCapSaid : Prop := fnSequencedSizeStaysWithinCapRow.holds Trym.pinned (OpenSpec.ofChange fnSequencedSizeStaysWithinCapSpec)

/-- ITS FALSE NEIGHBOUR: 'it returns false'. Refute it at one input. -/
def fnSequencedSizeStaysWithinCapWrong : ChangeSpec := { name := "fnSequencedSizeStaysWithinCap", fn := fun _ => fun
  | [d1, d2] => { results := [.lit (.bool false)], args := [d1, d2] }
  | _ => none }
def FnSequencedSizeStaysWithinCapWrongFalsely : Prop := fnSequencedSizeStaysWithinCapRow.holds Trym.pinned (OpenSpec.ofChange fnSequencedSizeStaysWithinCapWrong)

/-- 'zzlaws_sqldb_b1.FnSequencedSizeMonotone': WHATEVER THE INPUT: true; the input reads as it did. -/
def fnSequencedSizeMonotoneSpec : ChangeSpec := { name := "fnSequencedSizeMonotone", fn := fun _ => fun
  | [d1, d2, d3] => { results := [.lit (.bool true)], args := [d1, d2, d3] }
  | _ => none }
def fnSequencedSizeMonotoneRow : OpenClaim := { program := "qxb6001845amods", sum := "c1616169afb1007cc1d7343e6ed187ac04d0a0a1f8c0cb58076577c3c367b041", func := "example.com/shapewire/shapewire/zzlaws_sqldb_b1.FnSequencedSizeMonotone", spec := "fnSequencedSizeMonotone", make := .lifted ["publicsums"], apart := false }
def FnSequencedSizeMonotoneSaid : Prop := fnSequencedSizeMonotoneRow.holds Trym.pinned (OpenSpec.ofChange fnSequencedSizeMonotoneSpec)

/-- ITS FALSE NEIGHBOUR: 'it returns false'. Refute it at one input. -/
def fnSequencedSizeMonotoneWrong : ChangeSpec := { name := "fnSequencedSizeMonotone", fn := fun _ => fun
  | [d1, d2, d3] => { results := [.lit (.bool false)], args := [d1, d2, d3] }
  | _ => none }
def FnSequencedSizeMonotoneWrongFalsely : Prop := fnSequencedSizeMonotoneRow.holds Trym.pinned (OpenSpec.ofChange fnSequencedSizeMonotoneWrong)

/-- 'zzlaws_sqldb_b1.FnKeyAgreesWithOrderAndColumn': WHATEVER THE INPUT: true; the input reads as it did. -/
def fnKeyAgreesWithOrderAndColumnSpec : ChangeSpec := { name := "fnKeyAgreesWithOrderAndColumn", fn := fun _ => fun
  | [d1, d2] => { results := [.lit (.bool true)], args := [d1, d2] }
  | _ => none }
def fnKeyAgreesWithOrderAndColumnRow : OpenClaim := { program := "qxb6001845amods", sum := "c1616169afb1007cc1d7343e6ed187ac04d0a0a1f8c0cb58076577c3c367b041", func := "example.com/shapewire/shapewire/zzlaws_sqldb_b1.FnKeyAgreesWithOrderAndColumn", spec := "fnKeyAgreesWithOrderAndColumn", make := .lifted ["publicsums"], apart := false }
def FnKeyAgreesWithOrderAndColumnSaid : Prop := fnKeyAgreesWithOrderAndColumnRow.holds Trym.pinned (OpenSpec.ofChange fnKeyAgreesWithOrderAndColumnSpec)

/-- ITS FALSE NEIGHBOUR: 'it returns false'. Refute it at one input. -/
def fnKeyAgreesWithOrderAndColumnWrong : ChangeSpec := { name := "fnKeyAgreesWithOrderAndColumn", fn := fun _ => fun
  | [d1, d2] => { results := [.lit (.bool false)], args := [d1, d2] }
  | _ => none }
def FnKeyAgreesWithOrderAndColumnWrongFalsely : Prop := fnKeyAgreesWithOrderAndColumnRow.holds Trym.pinned (OpenSpec.ofChange fnKeyAgreesWithOrderAndColumnWrong)

end Rows
end Go.Proofs.Qxb6001845aMods
