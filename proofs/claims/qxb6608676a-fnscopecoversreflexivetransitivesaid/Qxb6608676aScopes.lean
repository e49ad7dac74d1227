/-
  CONTRACTS: Scope.Covers (6).
-/
import Derived.Test.Qxb6608676aRows
import Derived.WalkKit
import Derived.WalkSpells
namespace Go.Proofs.Qxb6608676a
open Go.RowKit
theorem covers_yes (a b : Int) (w : World) (h : b ≤ a) :
    Calls Try.prog 6 #[.int .i64 a, .int .i64 b] w fun e w' => e = .returned (.bool true) ∧ w' = w := by
  have hd : decide (b ≤ a) = true := by simpa using h
  go_enter Try.func6, Try.ntmps6
  go_wp2
  go_ret
  exact ⟨rfl, rfl⟩
theorem covers_no (a b : Int) (w : World) (h : ¬ b ≤ a) :
    Calls Try.prog 6 #[.int .i64 a, .int .i64 b] w fun e w' => e = .returned (.bool false) ∧ w' = w := by
  have hd : decide (b ≤ a) = false := by simpa using h
  go_enter Try.func6, Try.ntmps6
  go_wp2
  go_ret
  exact ⟨rfl, rfl⟩
end Go.Proofs.Qxb6608676a
