/-
  No cell of these rows narrows 'for every input' (looked for: loops, veiled, ifaces, maps, wideKeys, modest, calm, conditions, laid).
  DERIVED. THE GIVEN ROWS OF THIS SEAT. 6 by the template 'for every input the law returns true; each argument reads behind the call as it read before'; 0 by the template 'total and deterministic' (their statements: Qxb6601019aModsTotals.lean).
  GIVEN WITH THE SEED: the statements are not yours to turn. If you find one false, say at which input.
  Laid BY PROGRAM, IN A SANDBOX (cutbox-rows.mjs): the forced cells as the released guide's own fill.sh prints them over the translation 864974e6c6de9e81… (all of the seat's roots in one cut). By AI agents, Wed Nov 11 2026. No macro, syntax, notation, axiom, sorry.
-/
import Derived.Test.Qxb6601019aModsChecked
import GoSem.Claim
import GoSem.ClaimJoined
import GoSem.ClaimMapViews
import Derived.JoinedTies
import Derived.KernelRfl
namespace Go.Proofs.Qxb6601019aMods
/- THE CELL 'sum', in the pinned program and in every row, IS THE sha256 OF THE DUMP (.gsa) THAT Qxb6601019aModsProg.lean LOADS. Nothing in Lean hashes anything: it is a label: what it is worth is what the hold of that sum in a sandbox is worth. -/
noncomputable def Trym.pinned : Pinned := { name := "qxb6601019amods", sum := "864974e6c6de9e815c3f34148eda9b64eabc927ce4f79ac48bf5a44d5599d851", checked := Trym.checked }
namespace Rows
def none {H : Type} : Left H := { results := [], args := [] }

/-- 'zzlaws_root_b1.FnFitRequestIsLongestPrefixWithinBudget': WHATEVER THE INPUT: true; the input reads as it did. -/
def fnFitRequestIsLongestPrefixWithinBudgetSpec : ChangeSpec := { name := "fnFitRequestIsLongestPrefixWithinBudget", fn := fun _ => fun
  | [d] => { results := [.lit (.bool true)], args := [d] }
  | _ => none }
def fnFitRequestIsLongestPrefixWithinBudgetRow : OpenClaim := { program := "qxb6601019amods", sum := "864974e6c6de9e815c3f34148eda9b64eabc927ce4f79ac48bf5a44d5599d851", func := "example.com/quorumlog/quorumlog/zzlaws_root_b1.FnFitRequestIsLongestPrefixWithinBudget", spec := "fnFitRequestIsLongestPrefixWithinBudget", make := .lifted ["publicsums"], apart := false }
def FnFitRequestIsLongestPrefixWithinBudgetSaid : Prop := fnFitRequestIsLongestPrefixWithinBudgetRow.holds Trym.pinned (OpenSpec.ofChange fnFitRequestIsLongestPrefixWithinBudgetSpec)

/-- ITS FALSE NEIGHBOUR: 'it returns false'. Refute it at one input. -/
def fnFitRequestIsLongestPrefixWithinBudgetWrong : ChangeSpec := { name := "fnFitRequestIsLongestPrefixWithinBudget", fn := fun _ => fun
  | [d] => { results := [.lit (.bool false)], args := [d] }
  | _ => none }
def FnFitRequestIsLongestPrefixWithinBudgetWrongFalsely : Prop := fnFitRequestIsLongestPrefixWithinBudgetRow.holds Trym.pinned (OpenSpec.ofChange fnFitRequestIsLongestPrefixWithinBudgetWrong)

/-- 'zzlaws_root_b1.FnFitRequestIdempotent': WHATEVER THE INPUT: true; the input reads as it did. -/
def fnFitRequestIdempotentSpec : ChangeSpec := { name := "fnFitRequestIdempotent", fn := fun _ => fun
  | [d] => { results := [.lit (.bool true)], args := [d] }
  | _ => none }
def fnFitRequestIdempotentRow : OpenClaim := { program := "qxb6601019amods", sum := "864974e6c6de9e815c3f34148eda9b64eabc927ce4f79ac48bf5a44d5599d851", func := "example.com/quorumlog/quorumlog/zzlaws_root_b1.FnFitRequestIdempotent", spec := "fnFitRequestIdempotent", make := .lifted ["publicsums"], apart := false }
def FnFitRequestIdempotentSaid : Prop := fnFitRequestIdempotentRow.holds Trym.pinned (OpenSpec.ofChange fnFitRequestIdempotentSpec)

/-- ITS FALSE NEIGHBOUR: 'it returns false'. Refute it at one input. -/
def fnFitRequestIdempotentWrong : ChangeSpec := { name := "fnFitRequestIdempotent", fn := fun _ => fun
  | [d] => { results := [.lit (.bool false)], args := [d] }
  | _ => none }
def FnFitRequestIdempotentWrongFalsely : Prop := fnFitRequestIdempotentRow.holds Trym.pinned (OpenSpec.ofChange fnFitRequestIdempotentWrong)

/-- 'zzlaws_root_b1.FnFitRequestPrefixStable': WHATEVER THE INPUT: true; the input reads as it did. -/
def fnFitRequestPrefixStableSpec : ChangeSpec := { name := "fnFitRequestPrefixStable", fn := fun _ => fun
  | [d1, d2] => { results := [.lit (.bool true)], args := [d1, d2] }
  | _ => none }
def fnFitRequestPrefixStableRow : OpenClaim := { program := "qxb6601019amods", sum := "864974e6c6de9e815c3f34148eda9b64eabc927ce4f79ac48bf5a44d5599d851", func := "example.com/quorumlog/quorumlog/zzlaws_root_b1.FnFitRequestPrefixStable", spec := "fnFitRequestPrefixStable", make := .lifted ["publicsums"], apart := false }
def FnFitRequestPrefixStableSaid : Prop := fnFitRequestPrefixStableRow.holds Trym.pinned (OpenSpec.ofChange fnFitRequestPrefixStableSpec)

/-- ITS FALSE NEIGHBOUR: 'it returns false'. Refute it at one input. -/
def fnFitRequestPrefixStableWrong : ChangeSpec := { name := "fnFitRequestPrefixStable", fn := fun _ => fun
  | [d1, d2] => { results := [.lit (.bool false)], args := [d1, d2] }
  | _ => none }
def FnFitRequestPrefixStableWrongFalsely : Prop := fnFitRequestPrefixStableRow.holds Trym.pinned (OpenSpec.ofChange fnFitRequestPrefixStableWrong)

/-- 'zzlaws_root_b1.FnWithVoteLastWriteWinsAndCommutes': WHATEVER THE INPUT: true; the input reads as it did. -/
def fnWithVoteLastWriteWinsAndCommutesSpec : ChangeSpec := { name := "fnWithVoteLastWriteWinsAndCommutes", fn := fun _ => fun
  | [d1, d2, d3, d4, d5, d6, d7, d8] => { results := [.lit (.bool true)], args := [d1, d2, d3, d4, d5, d6, d7, d8] }
  | _ => none }
def fnWithVoteLastWriteWinsAndCommutesRow : OpenClaim := { program := "qxb6601019amods", sum := "864974e6c6de9e815c3f34148eda9b64eabc927ce4f79ac48bf5a44d5599d851", func := "example.com/quorumlog/quorumlog/zzlaws_root_b1.FnWithVoteLastWriteWinsAndCommutes", spec := "fnWithVoteLastWriteWinsAndCommutes", make := .lifted ["publicsums"], apart := false }
def FnWithVoteLastWriteWinsAndCommutesSaid : Prop := fnWithVoteLastWriteWinsAndCommutesRow.holds Trym.pinned (OpenSpec.ofChange fnWithVoteLastWriteWinsAndCommutesSpec)

/-- ITS FALSE NEIGHBOUR: 'it returns false'. Refute it at one input. -/
def fnWithVoteLastWriteWinsAndCommutesWrong : ChangeSpec := { name := "fnWithVoteLastWriteWinsAndCommutes", fn := fun _ => fun
  | [d1, d2, d3, d4, d5, d6, d7, d8] => { results := [.lit (.bool false)], args := [d1, d2, d3, d4, d5, d6, d7, d8] }
  | _ => none }
def FnWithVoteLastWriteWinsAndCommutesWrongFalsely : Prop := fnWithVoteLastWriteWinsAndCommutesRow.holds Trym.pinned (OpenSpec.ofChange fnWithVoteLastWriteWinsAndCommutesWrong)

/-- 'zzlaws_root_b1.FnWithVoteSetsExactlyTheNamedMembers': WHATEVER THE INPUT: true; the input reads as it did. -/
def fnWithVoteSetsExactlyTheNamedMembersSpec : ChangeSpec := { name := "fnWithVoteSetsExactlyTheNamedMembers", fn := fun _ => fun
  | [d1, d2, d3, d4, d5, d6] => { results := [.lit (.bool true)], args := [d1, d2, d3, d4, d5, d6] }
  | _ => none }
def fnWithVoteSetsExactlyTheNamedMembersRow : OpenClaim := { program := "qxb6601019amods", sum := "864974e6c6de9e815c3f34148eda9b64eabc927ce4f79ac48bf5a44d5599d851", func := "example.com/quorumlog/quorumlog/zzlaws_root_b1.FnWithVoteSetsExactlyTheNamedMembers", spec := "fnWithVoteSetsExactlyTheNamedMembers", make := .lifted ["publicsums"], apart := false }
def FnWithVoteSetsExactlyTheNamedMembersSaid : Prop := fnWithVoteSetsExactlyTheNamedMembersRow.holds Trym.pinned (OpenSpec.ofChange fnWithVoteSetsExactlyTheNamedMembersSpec)

/-- ITS FALSE NEIGHBOUR: 'it returns false'. Refute it at one input. -/
def fnWithVoteSetsExactlyTheNamedMembersWrong : ChangeSpec := { name := "fnWithVoteSetsExactlyTheNamedMembers", fn := fun _ => fun
  | [d1, d2, d3, d4, d5, d6] => { results := [.lit (.bool false)], args := [d1, d2, d3, d4, d5, d6] }
  | _ => none }
def FnWithVoteSetsExactlyTheNamedMembersWrongFalsely : Prop := fnWithVoteSetsExactlyTheNamedMembersRow.holds Trym.pinned (OpenSpec.ofChange fnWithVoteSetsExactlyTheNamedMembersWrong)

/-- 'zzlaws_root_b1.FnWithVoteVoterCount': WHATEVER THE INPUT: true; the input reads as it did. -/
def fnWithVoteVoterCountSpec : ChangeSpec := { name := "fnWithVoteVoterCount", fn := fun _ => fun
  | [d1, d2, d3, d4, d5] => { results := [.lit (.bool true)], args := [d1, d2, d3, d4, d5] }
  | _ => none }
def fnWithVoteVoterCountRow : OpenClaim := { program := "qxb6601019amods", sum := "864974e6c6de9e815c3f34148eda9b64eabc927ce4f79ac48bf5a44d5599d851", func := "example.com/quorumlog/quorumlog/zzlaws_root_b1.FnWithVoteVoterCount", spec := "fnWithVoteVoterCount", make := .lifted ["publicsums"], apart := false }
def FnWithVoteVoterCountSaid : Prop := fnWithVoteVoterCountRow.holds Trym.pinned (OpenSpec.ofChange fnWithVoteVoterCountSpec)

/-- ITS FALSE NEIGHBOUR: 'it returns false'. Refute it at one input. -/
def fnWithVoteVoterCountWrong : ChangeSpec := { name := "fnWithVoteVoterCount", fn := fun _ => fun
  | [d1, d2, d3, d4, d5] => { results := [.lit (.bool false)], args := [d1, d2, d3, d4, d5] }
  | _ => none }
def FnWithVoteVoterCountWrongFalsely : Prop := fnWithVoteVoterCountRow.holds Trym.pinned (OpenSpec.ofChange fnWithVoteVoterCountWrong)

end Rows
end Go.Proofs.Qxb6601019aMods
