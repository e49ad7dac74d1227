/-
  No cell of these rows narrows 'for every input' (looked for: loops, veiled, ifaces, maps, wideKeys, modest, calm, conditions, laid).
  DERIVED. THE GIVEN ROWS OF THIS SEAT. 3 by the template 'for every input the law returns true; each argument reads behind the call as it read before'; 0 by the template 'total and deterministic' (their statements: Qxb6614963aTotals.lean).
  GIVEN WITH THE SEED: the statements are not yours to turn. If you find one false, say at which input.
  Laid BY PROGRAM, IN A SANDBOX (cutbox-rows.mjs): the forced cells as the released guide's own fill.sh prints them over the translation b46d5ff23a52b7bc… (all of the seat's roots in one cut). By AI agents, Wed Nov 11 2026. No macro, syntax, notation, axiom, sorry.
-/
import Derived.Test.Qxb6614963aChecked
import GoSem.Claim
import GoSem.ClaimJoined
import GoSem.ClaimMapViews
import Derived.JoinedTies
import Derived.KernelRfl
namespace Go.Proofs.Qxb6614963a
/- THE CELL 'sum', in the pinned program and in every row, IS THE sha256 OF THE DUMP (.gsa) THAT Qxb6614963aProg.lean LOADS. Nothing in Lean hashes anything: it is a label: what it is worth is what the hold of that sum in a sandbox is worth. -/
noncomputable def Try.pinned : Pinned := { name := "qxb6614963a", sum := "b46d5ff23a52b7bcfce6b5c56a8b70ae556c0e6c1bac4bed73df8253820206c2", checked := Try.checked }
namespace Rows
def none {H : Type} : Left H := { results := [], args := [] }

/-- 'zzlaws_changelog_b1.FnIsLetterCaseSwapCounted': WHATEVER THE INPUT: true; the input reads as it did. -/
def fnIsLetterCaseSwapCountedSpec : ChangeSpec := { name := "fnIsLetterCaseSwapCounted", fn := fun _ => fun
  | [d] => { results := [.lit (.bool true)], args := [d] }
  | _ => none }
def fnIsLetterCaseSwapCountedRow : OpenClaim := { program := "qxb6614963a", sum := "b46d5ff23a52b7bcfce6b5c56a8b70ae556c0e6c1bac4bed73df8253820206c2", func := "example.com/annalist/annalist/zzlaws_changelog_b1.FnIsLetterCaseSwapCounted", spec := "fnIsLetterCaseSwapCounted", apart := false }
def FnIsLetterCaseSwapCountedSaid : Prop := fnIsLetterCaseSwapCountedRow.holds Try.pinned (OpenSpec.ofChange fnIsLetterCaseSwapCountedSpec)

/-- ITS FALSE NEIGHBOUR: 'it returns false'. Refute it at one input. -/
def fnIsLetterCaseSwapCountedWrong : ChangeSpec := { name := "fnIsLetterCaseSwapCounted", fn := fun _ => fun
  | [d] => { results := [.lit (.bool false)], args := [d] }
  | _ => none }
def FnIsLetterCaseSwapCountedWrongFalsely : Prop := fnIsLetterCaseSwapCountedRow.holds Try.pinned (OpenSpec.ofChange fnIsLetterCaseSwapCountedWrong)

/-- 'zzlaws_changelog_b1.FnIsLetterDigitSisters': WHATEVER THE INPUT: true; the input reads as it did. -/
def fnIsLetterDigitSistersSpec : ChangeSpec := { name := "fnIsLetterDigitSisters", fn := fun _ => fun
  | [d] => { results := [.lit (.bool true)], args := [d] }
  | _ => none }
def fnIsLetterDigitSistersRow : OpenClaim := { program := "qxb6614963a", sum := "b46d5ff23a52b7bcfce6b5c56a8b70ae556c0e6c1bac4bed73df8253820206c2", func := "example.com/annalist/annalist/zzlaws_changelog_b1.FnIsLetterDigitSisters", spec := "fnIsLetterDigitSisters", apart := false }
def FnIsLetterDigitSistersSaid : Prop := fnIsLetterDigitSistersRow.holds Try.pinned (OpenSpec.ofChange fnIsLetterDigitSistersSpec)

/-- ITS FALSE NEIGHBOUR: 'it returns false'. Refute it at one input. -/
def fnIsLetterDigitSistersWrong : ChangeSpec := { name := "fnIsLetterDigitSisters", fn := fun _ => fun
  | [d] => { results := [.lit (.bool false)], args := [d] }
  | _ => none }
def FnIsLetterDigitSistersWrongFalsely : Prop := fnIsLetterDigitSistersRow.holds Try.pinned (OpenSpec.ofChange fnIsLetterDigitSistersWrong)

/-- 'zzlaws_changelog_b1.FnFirstAtAnyCut': WHATEVER THE INPUT: true; the input reads as it did. -/
def fnFirstAtAnyCutSpec : ChangeSpec := { name := "fnFirstAtAnyCut", fn := fun _ => fun
  | [d1, d2] => { results := [.lit (.bool true)], args := [d1, d2] }
  | _ => none }
def fnFirstAtAnyCutRow : OpenClaim := { program := "qxb6614963a", sum := "b46d5ff23a52b7bcfce6b5c56a8b70ae556c0e6c1bac4bed73df8253820206c2", func := "example.com/annalist/annalist/zzlaws_changelog_b1.FnFirstAtAnyCut", spec := "fnFirstAtAnyCut", unfollowed := true, recurses := true, apart := false }
def FnFirstAtAnyCutSaid : Prop := fnFirstAtAnyCutRow.holds Try.pinned (OpenSpec.ofChange fnFirstAtAnyCutSpec)

/-- ITS FALSE NEIGHBOUR: 'it returns false'. Refute it at one input. -/
def fnFirstAtAnyCutWrong : ChangeSpec := { name := "fnFirstAtAnyCut", fn := fun _ => fun
  | [d1, d2] => { results := [.lit (.bool false)], args := [d1, d2] }
  | _ => none }
def FnFirstAtAnyCutWrongFalsely : Prop := fnFirstAtAnyCutRow.holds Try.pinned (OpenSpec.ofChange fnFirstAtAnyCutWrong)

end Rows
end Go.Proofs.Qxb6614963a
