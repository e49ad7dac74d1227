/-
  FnFirstAtAnyCut: the contract of the bound on lengths (function 8).
-/
import Derived.Test.Qxb6614963aRows
import Derived.WalkKit
import Derived.WalkSpells
namespace Go.Proofs.Qxb6614963a.Cut
open Go.RowKit

set_option maxRecDepth 100000 in
set_option maxHeartbeats 1000000 in
theorem zzBytes_any (a : Option Addr) (len cap : Nat) (cut : Int) (ss : Nat → ByteArray) (w : World)
    (hA : len = 0 ∨ ∃ vb voff, a = some ⟨vb, voff, none⟩ ∧ ∀ j, j < len → w.cell? ⟨vb, voff + j, none⟩ = some (.string (ss j))) :
    Calls Try.prog 8 #[.slice a len cap, .int .i64 cut] w fun e w' => (e = .returned (.bool false) ∧ w' = w) ∨ (e = .returned (.bool true) ∧ w' = w ∧ len ≤ 1048576) := by
  by_cases hl : (len : Int) ≤ 1048576
  · go_enter Try.func8, Try.ntmps8
    go_wp2
    go_loop [5, 6] (fun n i => ∃ k : Nat, k ≤ len ∧ i = .int .i64 k ∧ ∃ t : Int, n = .int .i64 t) (fun _ i => len - (intOf i).toNat)
    case atStart => exact ⟨0, by omega, rfl, _, rfl⟩
    case round =>
      obtain ⟨k, hk, rfl, t, rfl⟩ := hrel
      by_cases hlt : k < len
      · rcases hA with h0 | ⟨vb, voff, rfl, hc⟩
        · omega
        · have hck := hc k hlt
          clear hc
          go_wp2
          · go_ret
            exact .inl ⟨rfl, rfl⟩
          · go_ret
            exact .inl ⟨rfl, rfl⟩
          · go_round
            case rel => exact ⟨k + 1, by omega, by go_num, _, rfl⟩
            case measure => simp [intOf]; omega
      · go_wp2
        go_ret
        exact .inr ⟨rfl, rfl, by omega⟩
  · have hl' : (1048576 : Int) < (len : Int) := by omega
    go_enter Try.func8, Try.ntmps8
    go_wp2
    go_ret
    exact .inl ⟨rfl, rfl⟩
end Go.Proofs.Qxb6614963a.Cut
