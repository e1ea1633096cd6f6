/-
  No cell of these rows narrows 'for every input' (looked for: loops, veiled, ifaces, maps, wideKeys, modest, calm, conditions, laid).
  DERIVED. THE GIVEN ROWS OF THIS SEAT. 4 by the template 'for every input the law returns true; each argument reads behind the call as it read before'; 0 by the template 'total and deterministic' (their statements: Qxb6001841aModsTotals.lean).
  GIVEN WITH THE SEED: the statements are not yours to turn. If you find one false, say at which input.
  Laid BY PROGRAM, IN A SANDBOX (cutbox-rows.mjs): the forced cells as the released guide's own fill.sh prints them over the translation 13d3987b16491e5c… (all of the seat's roots in one cut). By AI agents, Wed Nov 11 2026. No macro, syntax, notation, axiom, sorry.
-/
import Derived.Test.Qxb6001841aModsChecked
import GoSem.Claim
import GoSem.ClaimJoined
import GoSem.ClaimMapViews
import Derived.JoinedTies
import Derived.KernelRfl
namespace Go.Proofs.Qxb6001841aMods
/- THE CELL 'sum', in the pinned program and in every row, IS THE sha256 OF THE DUMP (.gsa) THAT Qxb6001841aModsProg.lean LOADS. Nothing in Lean hashes anything: it is a label: what it is worth is what the hold of that sum in a sandbox is worth. -/
noncomputable def Trym.pinned : Pinned := { name := "qxb6001841amods", sum := "13d3987b16491e5c1977ba8f310216f59cb3ab02b5b89ddeff98c08f05a508cc", checked := Trym.checked }
namespace Rows
def none {H : Type} : Left H := { results := [], args := [] }

/-- 'zzlaws_dbtest_b1.FnColumnNamesGiveBackNames': WHATEVER THE INPUT: true; the input reads as it did. -/
def fnColumnNamesGiveBackNamesSpec : ChangeSpec := { name := "fnColumnNamesGiveBackNames", fn := fun _ => fun
  | [d1, d2] => { results := [.lit (.bool true)], args := [d1, d2] }
  | _ => none }
def fnColumnNamesGiveBackNamesRow : OpenClaim := { program := "qxb6001841amods", sum := "13d3987b16491e5c1977ba8f310216f59cb3ab02b5b89ddeff98c08f05a508cc", func := "example.com/shapewire/shapewire/zzlaws_dbtest_b1.FnColumnNamesGiveBackNames", spec := "fnColumnNamesGiveBackNames", make := .lifted ["publicsums"], apart := false }
def FnColumnNamesGiveBackNamesSaid : Prop := fnColumnNamesGiveBackNamesRow.holds Trym.pinned (OpenSpec.ofChange fnColumnNamesGiveBackNamesSpec)

/-- ITS FALSE NEIGHBOUR: 'it returns false'. Refute it at one input. -/
def fnColumnNamesGiveBackNamesWrong : ChangeSpec := { name := "fnColumnNamesGiveBackNames", fn := fun _ => fun
  | [d1, d2] => { results := [.lit (.bool false)], args := [d1, d2] }
  | _ => none }
def FnColumnNamesGiveBackNamesWrongFalsely : Prop := fnColumnNamesGiveBackNamesRow.holds Trym.pinned (OpenSpec.ofChange fnColumnNamesGiveBackNamesWrong)

/-- 'zzlaws_dbtest_b1.FnColumnNamesFreshEachCall': WHATEVER THE INPUT: true; the input reads as it did. -/
def fnColumnNamesFreshEachCallSpec : ChangeSpec := { name := "fnColumnNamesFreshEachCall", fn := fun _ => fun
  | [d1, d2] => { results := [.lit (.bool true)], args := [d1, d2] }
  | _ => none }
def fnColumnNamesFreshEachCallRow : OpenClaim := { program := "qxb6001841amods", sum := "13d3987b16491e5c1977ba8f310216f59cb3ab02b5b89ddeff98c08f05a508cc", func := "example.com/shapewire/shapewire/zzlaws_dbtest_b1.FnColumnNamesFreshEachCall", spec := "fnColumnNamesFreshEachCall", make := .lifted ["publicsums"], apart := false }
def FnColumnNamesFreshEachCallSaid : Prop := fnColumnNamesFreshEachCallRow.holds Trym.pinned (OpenSpec.ofChange fnColumnNamesFreshEachCallSpec)

/-- ITS FALSE NEIGHBOUR: 'it returns false'. Refute it at one input. -/
def fnColumnNamesFreshEachCallWrong : ChangeSpec := { name := "fnColumnNamesFreshEachCall", fn := fun _ => fun
  | [d1, d2] => { results := [.lit (.bool false)], args := [d1, d2] }
  | _ => none }
def FnColumnNamesFreshEachCallWrongFalsely : Prop := fnColumnNamesFreshEachCallRow.holds Trym.pinned (OpenSpec.ofChange fnColumnNamesFreshEachCallWrong)

/-- 'zzlaws_dbtest_b1.FnSameNamesEquivalence': WHATEVER THE INPUT: true; the input reads as it did. -/
def fnSameNamesEquivalenceSpec : ChangeSpec := { name := "fnSameNamesEquivalence", fn := fun _ => fun
  | [d1, d2, d3] => { results := [.lit (.bool true)], args := [d1, d2, d3] }
  | _ => none }
def fnSameNamesEquivalenceRow : OpenClaim := { program := "qxb6001841amods", sum := "13d3987b16491e5c1977ba8f310216f59cb3ab02b5b89ddeff98c08f05a508cc", func := "example.com/shapewire/shapewire/zzlaws_dbtest_b1.FnSameNamesEquivalence", spec := "fnSameNamesEquivalence", make := .lifted ["publicsums"], apart := false }
def FnSameNamesEquivalenceSaid : Prop := fnSameNamesEquivalenceRow.holds Trym.pinned (OpenSpec.ofChange fnSameNamesEquivalenceSpec)

/-- ITS FALSE NEIGHBOUR: 'it returns false'. Refute it at one input. -/
def fnSameNamesEquivalenceWrong : ChangeSpec := { name := "fnSameNamesEquivalence", fn := fun _ => fun
  | [d1, d2, d3] => { results := [.lit (.bool false)], args := [d1, d2, d3] }
  | _ => none }
def FnSameNamesEquivalenceWrongFalsely : Prop := fnSameNamesEquivalenceRow.holds Trym.pinned (OpenSpec.ofChange fnSameNamesEquivalenceWrong)

/-- 'zzlaws_dbtest_b1.FnSameNamesSeesOneChange': WHATEVER THE INPUT: true; the input reads as it did. -/
def fnSameNamesSeesOneChangeSpec : ChangeSpec := { name := "fnSameNamesSeesOneChange", fn := fun _ => fun
  | [d1, d2, d3] => { results := [.lit (.bool true)], args := [d1, d2, d3] }
  | _ => none }
def fnSameNamesSeesOneChangeRow : OpenClaim := { program := "qxb6001841amods", sum := "13d3987b16491e5c1977ba8f310216f59cb3ab02b5b89ddeff98c08f05a508cc", func := "example.com/shapewire/shapewire/zzlaws_dbtest_b1.FnSameNamesSeesOneChange", spec := "fnSameNamesSeesOneChange", make := .lifted ["publicsums"], apart := false }
def FnSameNamesSeesOneChangeSaid : Prop := fnSameNamesSeesOneChangeRow.holds Trym.pinned (OpenSpec.ofChange fnSameNamesSeesOneChangeSpec)

/-- ITS FALSE NEIGHBOUR: 'it returns false'. Refute it at one input. -/
def fnSameNamesSeesOneChangeWrong : ChangeSpec := { name := "fnSameNamesSeesOneChange", fn := fun _ => fun
  | [d1, d2, d3] => { results := [.lit (.bool false)], args := [d1, d2, d3] }
  | _ => none }
def FnSameNamesSeesOneChangeWrongFalsely : Prop := fnSameNamesSeesOneChangeRow.holds Trym.pinned (OpenSpec.ofChange fnSameNamesSeesOneChangeWrong)

end Rows
end Go.Proofs.Qxb6001841aMods
