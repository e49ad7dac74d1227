/-
  No cell of these rows narrows 'for every input' (looked for: loops, veiled, ifaces, maps, wideKeys, modest, calm, conditions, laid).
  DERIVED. THE GIVEN ROWS OF THIS SEAT. 2 by the template 'for every input the law returns true; each argument reads behind the call as it read before'; 0 by the template 'total and deterministic' (their statements: Qxb6615073aTotals.lean).
  GIVEN WITH THE SEED: the statements are not yours to turn. If you find one false, say at which input.
  Laid BY PROGRAM, IN A SANDBOX (cutbox-rows.mjs): the forced cells as the released guide's own fill.sh prints them over the translation c591df37e4578197… (all of the seat's roots in one cut). By AI agents, Wed Nov 11 2026. No macro, syntax, notation, axiom, sorry.
-/
import Derived.Test.Qxb6615073aChecked
import GoSem.Claim
import GoSem.ClaimJoined
import GoSem.ClaimMapViews
import Derived.JoinedTies
import Derived.KernelRfl
namespace Go.Proofs.Qxb6615073a
/- THE CELL 'sum', in the pinned program and in every row, IS THE sha256 OF THE DUMP (.gsa) THAT Qxb6615073aProg.lean LOADS. Nothing in Lean hashes anything: it is a label: what it is worth is what the hold of that sum in a sandbox is worth. -/
noncomputable def Try.pinned : Pinned := { name := "qxb6615073a", sum := "c591df37e4578197d054ed60c5bd24e5a264c89334e8b195fd05e3796eac32b8", checked := Try.checked }
namespace Rows
def none {H : Type} : Left H := { results := [], args := [] }

/-- 'zzlaws_internal_cluster_b1.FnRoleHeldInAgreesWithLeaseState': WHATEVER THE INPUT: true; the input reads as it did. -/
def fnRoleHeldInAgreesWithLeaseStateSpec : ChangeSpec := { name := "fnRoleHeldInAgreesWithLeaseState", fn := fun _ => fun
  | [d1, d2, d3, d4, d5, d6, d7] => { results := [.lit (.bool true)], args := [d1, d2, d3, d4, d5, d6, d7] }
  | _ => none }
def fnRoleHeldInAgreesWithLeaseStateRow : OpenClaim := { program := "qxb6615073a", sum := "c591df37e4578197d054ed60c5bd24e5a264c89334e8b195fd05e3796eac32b8", func := "example.com/leasehold/leasehold/zzlaws_internal_cluster_b1.FnRoleHeldInAgreesWithLeaseState", spec := "fnRoleHeldInAgreesWithLeaseState", apart := false }
def FnRoleHeldInAgreesWithLeaseStateSaid : Prop := fnRoleHeldInAgreesWithLeaseStateRow.holds Try.pinned (OpenSpec.ofChange fnRoleHeldInAgreesWithLeaseStateSpec)

/-- ITS FALSE NEIGHBOUR: 'it returns false'. Refute it at one input. -/
def fnRoleHeldInAgreesWithLeaseStateWrong : ChangeSpec := { name := "fnRoleHeldInAgreesWithLeaseState", fn := fun _ => fun
  | [d1, d2, d3, d4, d5, d6, d7] => { results := [.lit (.bool false)], args := [d1, d2, d3, d4, d5, d6, d7] }
  | _ => none }
def FnRoleHeldInAgreesWithLeaseStateWrongFalsely : Prop := fnRoleHeldInAgreesWithLeaseStateRow.holds Try.pinned (OpenSpec.ofChange fnRoleHeldInAgreesWithLeaseStateWrong)

/-- 'zzlaws_internal_cluster_b1.FnVerdictJudgesWatchesOrForgetsLoneMember': WHATEVER THE INPUT: true; the input reads as it did. -/
def fnVerdictJudgesWatchesOrForgetsLoneMemberSpec : ChangeSpec := { name := "fnVerdictJudgesWatchesOrForgetsLoneMember", fn := fun _ => fun
  | [d1, d2, d3, d4, d5, d6, d7, d8, d9, d10, d11] => { results := [.lit (.bool true)], args := [d1, d2, d3, d4, d5, d6, d7, d8, d9, d10, d11] }
  | _ => none }
def fnVerdictJudgesWatchesOrForgetsLoneMemberRow : OpenClaim := { program := "qxb6615073a", sum := "c591df37e4578197d054ed60c5bd24e5a264c89334e8b195fd05e3796eac32b8", func := "example.com/leasehold/leasehold/zzlaws_internal_cluster_b1.FnVerdictJudgesWatchesOrForgetsLoneMember", spec := "fnVerdictJudgesWatchesOrForgetsLoneMember", unfollowed := true, recurses := true, apart := false }
def FnVerdictJudgesWatchesOrForgetsLoneMemberSaid : Prop := fnVerdictJudgesWatchesOrForgetsLoneMemberRow.holds Try.pinned (OpenSpec.ofChange fnVerdictJudgesWatchesOrForgetsLoneMemberSpec)

/-- ITS FALSE NEIGHBOUR: 'it returns false'. Refute it at one input. -/
def fnVerdictJudgesWatchesOrForgetsLoneMemberWrong : ChangeSpec := { name := "fnVerdictJudgesWatchesOrForgetsLoneMember", fn := fun _ => fun
  | [d1, d2, d3, d4, d5, d6, d7, d8, d9, d10, d11] => { results := [.lit (.bool false)], args := [d1, d2, d3, d4, d5, d6, d7, d8, d9, d10, d11] }
  | _ => none }
def FnVerdictJudgesWatchesOrForgetsLoneMemberWrongFalsely : Prop := fnVerdictJudgesWatchesOrForgetsLoneMemberRow.holds Try.pinned (OpenSpec.ofChange fnVerdictJudgesWatchesOrForgetsLoneMemberWrong)

end Rows
end Go.Proofs.Qxb6615073a
