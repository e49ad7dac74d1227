/-
  CONTRACTS: ZZnewRole (5), ZZleaseState (6), role.heldIn (18), ZZheldIn (7), ZZfencedAt (8).
-/
import Derived.Test.Qxb6615073aLease
namespace Go.Proofs.Qxb6615073a
open Go.RowKit

set_option maxRecDepth 100000 in
theorem zzFenced_any (L D la fl : Int) (w : World) :
    Calls Try.prog 8 #[.int .i64 L, .int .i64 D, .int .i64 la, .int .i64 fl] w fun e w' => e = .returned (.int .i64 (fencedI L D la fl)) ∧ Below w.heap.size w w' := by
  go_enter Try.func8, Try.ntmps8
  go_wp2_with fail
  refine (fenced_any L D 0 la fl false _).mono ?_
  rintro e w1 ⟨rfl, hb⟩
  go_wp2
  go_ret
  exact ⟨rfl, hb⟩

set_option maxRecDepth 100000 in
theorem zzState_left (L D la fl now : Int) (w : World) :
    Calls Try.prog 6 #[.int .i64 L, .int .i64 D, .int .i64 la, .int .i64 fl, .bool true, .int .i64 now] w fun e w' => e = .returned (.int .i64 3) ∧ Below w.heap.size w w' := by
  go_enter Try.func6, Try.ntmps6
  go_wp2_with fail
  refine (state_left L D 0 la fl now _).mono ?_
  rintro e w1 ⟨rfl, hb⟩
  go_wp2
  go_ret
  exact ⟨rfl, hb⟩
set_option maxRecDepth 100000 in
theorem zzState_fenced (L D la fl now : Int) (h : fencedI L D la fl ≤ now) (w : World) :
    Calls Try.prog 6 #[.int .i64 L, .int .i64 D, .int .i64 la, .int .i64 fl, .bool false, .int .i64 now] w fun e w' => e = .returned (.int .i64 2) ∧ Below w.heap.size w w' := by
  go_enter Try.func6, Try.ntmps6
  go_wp2_with fail
  refine (state_fenced L D 0 la fl now h _).mono ?_
  rintro e w1 ⟨rfl, hb⟩
  go_wp2
  go_ret
  exact ⟨rfl, hb⟩
set_option maxRecDepth 100000 in
theorem zzState_held (L D la fl now : Int) (h : ¬ fencedI L D la fl ≤ now) (w : World) :
    Calls Try.prog 6 #[.int .i64 L, .int .i64 D, .int .i64 la, .int .i64 fl, .bool false, .int .i64 now] w fun e w' => (e = .returned (.int .i64 1) ∨ e = .returned (.int .i64 0)) ∧ Below w.heap.size w w' := by
  go_enter Try.func6, Try.ntmps6
  go_wp2_with fail
  refine (state_held L D 0 la fl now (by omega) _).mono ?_
  rintro e w1 ⟨rfl | rfl, hb⟩
  · go_wp2
    go_ret
    exact ⟨.inl rfl, hb⟩
  · go_wp2
    go_ret
    exact ⟨.inr rfl, hb⟩

set_option maxRecDepth 100000 in
/-- not over: held -/
theorem heldIn_open (p : Option Addr) (s now : Int) (hs : (s == 2 || s == 3) = false) (w : World) :
    Calls Try.prog 18 #[.pointer p, .int .i64 s, .int .i64 now] w fun e w' => e = .returned (.bool true) ∧ w' = w := by
  go_enter Try.func18, Try.ntmps18
  go_wp2_with fail
  refine (over_any s w).mono ?_
  rintro e w' ⟨rfl, rfl⟩
  rw [hs]
  clear hs
  go_wp2
  go_ret
  exact ⟨rfl, rfl⟩
set_option maxRecDepth 100000 in
theorem heldIn_fenced (p : Option Addr) (now : Int) (w : World) :
    Calls Try.prog 18 #[.pointer p, .int .i64 2, .int .i64 now] w fun e w' => e = .returned (.bool false) ∧ w' = w := by
  go_enter Try.func18, Try.ntmps18
  go_wp2_with fail
  refine (over_any 2 w).mono ?_
  rintro e w' ⟨rfl, rfl⟩
  go_wp2
  go_ret
  exact ⟨rfl, rfl⟩
set_option maxRecDepth 100000 in
theorem heldIn_left (b : Nat) (now u : Int) (w : World) (hc : w.cell? ⟨b, 3, none⟩ = some (.int .i64 u)) :
    Calls Try.prog 18 #[.pointer (some ⟨b, 0, none⟩), .int .i64 3, .int .i64 now] w fun e w' => e = .returned (.bool (decide (now < u))) ∧ w' = w := by
  go_enter Try.func18, Try.ntmps18
  go_wp2_with fail
  refine (over_any 3 w).mono ?_
  rintro e w' ⟨rfl, rfl⟩
  go_wp2
  go_ret
  exact ⟨rfl, rfl⟩
end Go.Proofs.Qxb6615073a
