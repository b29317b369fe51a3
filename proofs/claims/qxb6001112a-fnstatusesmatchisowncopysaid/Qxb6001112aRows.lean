/-
  No cell of these rows narrows 'for every input' (looked for: loops, veiled, ifaces, maps, wideKeys, modest, calm, conditions, laid).
  DERIVED. THE GIVEN ROWS OF THIS SEAT. 6 by the template 'for every input the law returns true; each argument reads behind the call as it read before'; 0 by the template 'total and deterministic' (their statements: Qxb6001112aTotals.lean).
  GIVEN WITH THE SEED: the statements are not yours to turn. If you find one false, say at which input.
  Laid BY PROGRAM, IN A SANDBOX (cutbox-rows.mjs): the forced cells as the released guide's own fill.sh prints them over the translation 5cd83e8b697d86d7… (all of the seat's roots in one cut). By AI agents, Wed Nov 11 2026. No macro, syntax, notation, axiom, sorry.
-/
import Derived.Test.Qxb6001112aChecked
import GoSem.Claim
import GoSem.ClaimJoined
import GoSem.ClaimMapViews
import Derived.JoinedTies
import Derived.KernelRfl
namespace Go.Proofs.Qxb6001112a
/- THE CELL 'sum', in the pinned program and in every row, IS THE sha256 OF THE DUMP (.gsa) THAT Qxb6001112aProg.lean LOADS. Nothing in Lean hashes anything: it is a label: what it is worth is what the hold of that sum in a sandbox is worth. -/
noncomputable def Try.pinned : Pinned := { name := "qxb6001112a", sum := "5cd83e8b697d86d7589fcc7a42c4844110616a1bc46eb68efdba9086e17b0560", checked := Try.checked }
namespace Rows
def none {H : Type} : Left H := { results := [], args := [] }

/-- 'zzlaws_root_b1.FnStatusesRoundTrip': WHATEVER THE INPUT: true; the input reads as it did. -/
def fnStatusesRoundTripSpec : ChangeSpec := { name := "fnStatusesRoundTrip", fn := fun _ => fun
  | [d1, d2, d3, d4, d5] => { results := [.lit (.bool true)], args := [d1, d2, d3, d4, d5] }
  | _ => none }
def fnStatusesRoundTripRow : OpenClaim := { program := "qxb6001112a", sum := "5cd83e8b697d86d7589fcc7a42c4844110616a1bc46eb68efdba9086e17b0560", func := "example.com/quorumlog/quorumlog/zzlaws_root_b1.FnStatusesRoundTrip", spec := "fnStatusesRoundTrip", apart := false }
def FnStatusesRoundTripSaid : Prop := fnStatusesRoundTripRow.holds Try.pinned (OpenSpec.ofChange fnStatusesRoundTripSpec)

/-- ITS FALSE NEIGHBOUR: 'it returns false'. Refute it at one input. -/
def fnStatusesRoundTripWrong : ChangeSpec := { name := "fnStatusesRoundTrip", fn := fun _ => fun
  | [d1, d2, d3, d4, d5] => { results := [.lit (.bool false)], args := [d1, d2, d3, d4, d5] }
  | _ => none }
def FnStatusesRoundTripWrongFalsely : Prop := fnStatusesRoundTripRow.holds Try.pinned (OpenSpec.ofChange fnStatusesRoundTripWrong)

/-- 'zzlaws_root_b1.FnStatusesReportMembers': WHATEVER THE INPUT: true; the input reads as it did. -/
def fnStatusesReportMembersSpec : ChangeSpec := { name := "fnStatusesReportMembers", fn := fun _ => fun
  | [d1, d2, d3, d4] => { results := [.lit (.bool true)], args := [d1, d2, d3, d4] }
  | _ => none }
def fnStatusesReportMembersRow : OpenClaim := { program := "qxb6001112a", sum := "5cd83e8b697d86d7589fcc7a42c4844110616a1bc46eb68efdba9086e17b0560", func := "example.com/quorumlog/quorumlog/zzlaws_root_b1.FnStatusesReportMembers", spec := "fnStatusesReportMembers", apart := false }
def FnStatusesReportMembersSaid : Prop := fnStatusesReportMembersRow.holds Try.pinned (OpenSpec.ofChange fnStatusesReportMembersSpec)

/-- ITS FALSE NEIGHBOUR: 'it returns false'. Refute it at one input. -/
def fnStatusesReportMembersWrong : ChangeSpec := { name := "fnStatusesReportMembers", fn := fun _ => fun
  | [d1, d2, d3, d4] => { results := [.lit (.bool false)], args := [d1, d2, d3, d4] }
  | _ => none }
def FnStatusesReportMembersWrongFalsely : Prop := fnStatusesReportMembersRow.holds Try.pinned (OpenSpec.ofChange fnStatusesReportMembersWrong)

/-- 'zzlaws_root_b1.FnStatusesMatchIsOwnCopy': WHATEVER THE INPUT: true; the input reads as it did. -/
def fnStatusesMatchIsOwnCopySpec : ChangeSpec := { name := "fnStatusesMatchIsOwnCopy", fn := fun _ => fun
  | [d1, d2, d3, d4, d5] => { results := [.lit (.bool true)], args := [d1, d2, d3, d4, d5] }
  | _ => none }
def fnStatusesMatchIsOwnCopyRow : OpenClaim := { program := "qxb6001112a", sum := "5cd83e8b697d86d7589fcc7a42c4844110616a1bc46eb68efdba9086e17b0560", func := "example.com/quorumlog/quorumlog/zzlaws_root_b1.FnStatusesMatchIsOwnCopy", spec := "fnStatusesMatchIsOwnCopy", apart := false }
def FnStatusesMatchIsOwnCopySaid : Prop := fnStatusesMatchIsOwnCopyRow.holds Try.pinned (OpenSpec.ofChange fnStatusesMatchIsOwnCopySpec)

/-- ITS FALSE NEIGHBOUR: 'it returns false'. Refute it at one input. -/
def fnStatusesMatchIsOwnCopyWrong : ChangeSpec := { name := "fnStatusesMatchIsOwnCopy", fn := fun _ => fun
  | [d1, d2, d3, d4, d5] => { results := [.lit (.bool false)], args := [d1, d2, d3, d4, d5] }
  | _ => none }
def FnStatusesMatchIsOwnCopyWrongFalsely : Prop := fnStatusesMatchIsOwnCopyRow.holds Try.pinned (OpenSpec.ofChange fnStatusesMatchIsOwnCopyWrong)

/-- 'zzlaws_root_b1.FnConfigurationOfStableUnderStatuses': WHATEVER THE INPUT: true; the input reads as it did. -/
def fnConfigurationOfStableUnderStatusesSpec : ChangeSpec := { name := "fnConfigurationOfStableUnderStatuses", fn := fun _ => fun
  | [d1, d2, d3, d4, d5] => { results := [.lit (.bool true)], args := [d1, d2, d3, d4, d5] }
  | _ => none }
def fnConfigurationOfStableUnderStatusesRow : OpenClaim := { program := "qxb6001112a", sum := "5cd83e8b697d86d7589fcc7a42c4844110616a1bc46eb68efdba9086e17b0560", func := "example.com/quorumlog/quorumlog/zzlaws_root_b1.FnConfigurationOfStableUnderStatuses", spec := "fnConfigurationOfStableUnderStatuses", apart := false }
def FnConfigurationOfStableUnderStatusesSaid : Prop := fnConfigurationOfStableUnderStatusesRow.holds Try.pinned (OpenSpec.ofChange fnConfigurationOfStableUnderStatusesSpec)

/-- ITS FALSE NEIGHBOUR: 'it returns false'. Refute it at one input. -/
def fnConfigurationOfStableUnderStatusesWrong : ChangeSpec := { name := "fnConfigurationOfStableUnderStatuses", fn := fun _ => fun
  | [d1, d2, d3, d4, d5] => { results := [.lit (.bool false)], args := [d1, d2, d3, d4, d5] }
  | _ => none }
def FnConfigurationOfStableUnderStatusesWrongFalsely : Prop := fnConfigurationOfStableUnderStatusesRow.holds Try.pinned (OpenSpec.ofChange fnConfigurationOfStableUnderStatusesWrong)

/-- 'zzlaws_root_b1.FnCompletedIsNotJointAndIdempotent': WHATEVER THE INPUT: true; the input reads as it did. -/
def fnCompletedIsNotJointAndIdempotentSpec : ChangeSpec := { name := "fnCompletedIsNotJointAndIdempotent", fn := fun _ => fun
  | [d1, d2, d3] => { results := [.lit (.bool true)], args := [d1, d2, d3] }
  | _ => none }
def fnCompletedIsNotJointAndIdempotentRow : OpenClaim := { program := "qxb6001112a", sum := "5cd83e8b697d86d7589fcc7a42c4844110616a1bc46eb68efdba9086e17b0560", func := "example.com/quorumlog/quorumlog/zzlaws_root_b1.FnCompletedIsNotJointAndIdempotent", spec := "fnCompletedIsNotJointAndIdempotent", apart := false }
def FnCompletedIsNotJointAndIdempotentSaid : Prop := fnCompletedIsNotJointAndIdempotentRow.holds Try.pinned (OpenSpec.ofChange fnCompletedIsNotJointAndIdempotentSpec)

/-- ITS FALSE NEIGHBOUR: 'it returns false'. Refute it at one input. -/
def fnCompletedIsNotJointAndIdempotentWrong : ChangeSpec := { name := "fnCompletedIsNotJointAndIdempotent", fn := fun _ => fun
  | [d1, d2, d3] => { results := [.lit (.bool false)], args := [d1, d2, d3] }
  | _ => none }
def FnCompletedIsNotJointAndIdempotentWrongFalsely : Prop := fnCompletedIsNotJointAndIdempotentRow.holds Try.pinned (OpenSpec.ofChange fnCompletedIsNotJointAndIdempotentWrong)

/-- 'zzlaws_root_b1.FnCompletedKeepsNewVotersDropsOld': WHATEVER THE INPUT: true; the input reads as it did. -/
def fnCompletedKeepsNewVotersDropsOldSpec : ChangeSpec := { name := "fnCompletedKeepsNewVotersDropsOld", fn := fun _ => fun
  | [d1, d2, d3] => { results := [.lit (.bool true)], args := [d1, d2, d3] }
  | _ => none }
def fnCompletedKeepsNewVotersDropsOldRow : OpenClaim := { program := "qxb6001112a", sum := "5cd83e8b697d86d7589fcc7a42c4844110616a1bc46eb68efdba9086e17b0560", func := "example.com/quorumlog/quorumlog/zzlaws_root_b1.FnCompletedKeepsNewVotersDropsOld", spec := "fnCompletedKeepsNewVotersDropsOld", apart := false }
def FnCompletedKeepsNewVotersDropsOldSaid : Prop := fnCompletedKeepsNewVotersDropsOldRow.holds Try.pinned (OpenSpec.ofChange fnCompletedKeepsNewVotersDropsOldSpec)

/-- ITS FALSE NEIGHBOUR: 'it returns false'. Refute it at one input. -/
def fnCompletedKeepsNewVotersDropsOldWrong : ChangeSpec := { name := "fnCompletedKeepsNewVotersDropsOld", fn := fun _ => fun
  | [d1, d2, d3] => { results := [.lit (.bool false)], args := [d1, d2, d3] }
  | _ => none }
def FnCompletedKeepsNewVotersDropsOldWrongFalsely : Prop := fnCompletedKeepsNewVotersDropsOldRow.holds Try.pinned (OpenSpec.ofChange fnCompletedKeepsNewVotersDropsOldWrong)

end Rows
end Go.Proofs.Qxb6001112a
