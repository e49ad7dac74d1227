/-
  No cell of these rows narrows 'for every input' (looked for: loops, veiled, ifaces, maps, wideKeys, modest, calm, conditions, laid).
  DERIVED. THE GIVEN ROWS OF THIS SEAT. 3 by the template 'for every input the law returns true; each argument reads behind the call as it read before'; 0 by the template 'total and deterministic' (their statements: Qxb6608676aTotals.lean).
  GIVEN WITH THE SEED: the statements are not yours to turn. If you find one false, say at which input.
  Laid BY PROGRAM, IN A SANDBOX (cutbox-rows.mjs): the forced cells as the released guide's own fill.sh prints them over the translation ce68ab8a9dbb1993… (all of the seat's roots in one cut). By AI agents, Wed Nov 11 2026. No macro, syntax, notation, axiom, sorry.
-/
import Derived.Test.Qxb6608676aChecked
import GoSem.Claim
import GoSem.ClaimJoined
import GoSem.ClaimMapViews
import Derived.JoinedTies
import Derived.KernelRfl
namespace Go.Proofs.Qxb6608676a
/- THE CELL 'sum', in the pinned program and in every row, IS THE sha256 OF THE DUMP (.gsa) THAT Qxb6608676aProg.lean LOADS. Nothing in Lean hashes anything: it is a label: what it is worth is what the hold of that sum in a sandbox is worth. -/
noncomputable def Try.pinned : Pinned := { name := "qxb6608676a", sum := "ce68ab8a9dbb1993c76df48b9cc9e3f499b28c00f784b6ec46f42eacfa88a2d6", checked := Try.checked }
namespace Rows
def none {H : Type} : Left H := { results := [], args := [] }

/-- 'zzlaws_internal_tokens_b1.FnScopeCoversTotalOrder': WHATEVER THE INPUT: true; the input reads as it did. -/
def fnScopeCoversTotalOrderSpec : ChangeSpec := { name := "fnScopeCoversTotalOrder", fn := fun _ => fun
  | [d1, d2] => { results := [.lit (.bool true)], args := [d1, d2] }
  | _ => none }
def fnScopeCoversTotalOrderRow : OpenClaim := { program := "qxb6608676a", sum := "ce68ab8a9dbb1993c76df48b9cc9e3f499b28c00f784b6ec46f42eacfa88a2d6", func := "example.com/chunkwell/chunkwell/zzlaws_internal_tokens_b1.FnScopeCoversTotalOrder", spec := "fnScopeCoversTotalOrder", apart := false }
def FnScopeCoversTotalOrderSaid : Prop := fnScopeCoversTotalOrderRow.holds Try.pinned (OpenSpec.ofChange fnScopeCoversTotalOrderSpec)

/-- ITS FALSE NEIGHBOUR: 'it returns false'. Refute it at one input. -/
def fnScopeCoversTotalOrderWrong : ChangeSpec := { name := "fnScopeCoversTotalOrder", fn := fun _ => fun
  | [d1, d2] => { results := [.lit (.bool false)], args := [d1, d2] }
  | _ => none }
def FnScopeCoversTotalOrderWrongFalsely : Prop := fnScopeCoversTotalOrderRow.holds Try.pinned (OpenSpec.ofChange fnScopeCoversTotalOrderWrong)

/-- 'zzlaws_internal_tokens_b1.FnScopeCoversReflexiveTransitive': WHATEVER THE INPUT: true; the input reads as it did. -/
def fnScopeCoversReflexiveTransitiveSpec : ChangeSpec := { name := "fnScopeCoversReflexiveTransitive", fn := fun _ => fun
  | [d1, d2, d3] => { results := [.lit (.bool true)], args := [d1, d2, d3] }
  | _ => none }
def fnScopeCoversReflexiveTransitiveRow : OpenClaim := { program := "qxb6608676a", sum := "ce68ab8a9dbb1993c76df48b9cc9e3f499b28c00f784b6ec46f42eacfa88a2d6", func := "example.com/chunkwell/chunkwell/zzlaws_internal_tokens_b1.FnScopeCoversReflexiveTransitive", spec := "fnScopeCoversReflexiveTransitive", apart := false }
def FnScopeCoversReflexiveTransitiveSaid : Prop := fnScopeCoversReflexiveTransitiveRow.holds Try.pinned (OpenSpec.ofChange fnScopeCoversReflexiveTransitiveSpec)

/-- ITS FALSE NEIGHBOUR: 'it returns false'. Refute it at one input. -/
def fnScopeCoversReflexiveTransitiveWrong : ChangeSpec := { name := "fnScopeCoversReflexiveTransitive", fn := fun _ => fun
  | [d1, d2, d3] => { results := [.lit (.bool false)], args := [d1, d2, d3] }
  | _ => none }
def FnScopeCoversReflexiveTransitiveWrongFalsely : Prop := fnScopeCoversReflexiveTransitiveRow.holds Try.pinned (OpenSpec.ofChange fnScopeCoversReflexiveTransitiveWrong)

/-- 'zzlaws_internal_tokens_b1.FnTenantNameCut': WHATEVER THE INPUT: true; the input reads as it did. -/
def fnTenantNameCutSpec : ChangeSpec := { name := "fnTenantNameCut", fn := fun _ => fun
  | [d1, d2] => { results := [.lit (.bool true)], args := [d1, d2] }
  | _ => none }
def fnTenantNameCutRow : OpenClaim := { program := "qxb6608676a", sum := "ce68ab8a9dbb1993c76df48b9cc9e3f499b28c00f784b6ec46f42eacfa88a2d6", func := "example.com/chunkwell/chunkwell/zzlaws_internal_tokens_b1.FnTenantNameCut", spec := "fnTenantNameCut", apart := false }
def FnTenantNameCutSaid : Prop := fnTenantNameCutRow.holds Try.pinned (OpenSpec.ofChange fnTenantNameCutSpec)

/-- ITS FALSE NEIGHBOUR: 'it returns false'. Refute it at one input. -/
def fnTenantNameCutWrong : ChangeSpec := { name := "fnTenantNameCut", fn := fun _ => fun
  | [d1, d2] => { results := [.lit (.bool false)], args := [d1, d2] }
  | _ => none }
def FnTenantNameCutWrongFalsely : Prop := fnTenantNameCutRow.holds Try.pinned (OpenSpec.ofChange fnTenantNameCutWrong)

end Rows
end Go.Proofs.Qxb6608676a
