/-
  CONTRACTS: isLetter (10), isDigit (11), ZZIsLetter (6), ZZIsDigit (7): each answers the plain predicate, and the world stands.
-/
import Derived.Test.Qxb6614963aRows
import Derived.Test.Qxb6614963aPlain
import Derived.WalkKit
import Derived.WalkSpells
import Derived.Laws.BitsAllLaws
namespace Go.Proofs.Qxb6614963a
open Go.RowKit

theorem isL_true {c : Int} (h : (97 ≤ c ∧ c ≤ 122) ∨ (65 ≤ c ∧ c ≤ 90)) : Plain.isL c = true := by simp [Plain.isL, h]
theorem isL_false {c : Int} (h : ¬ ((97 ≤ c ∧ c ≤ 122) ∨ (65 ≤ c ∧ c ≤ 90))) : Plain.isL c = false := by simp only [Plain.isL, decide_eq_false_iff_not]; exact h
theorem isD_true {c : Int} (h : 48 ≤ c ∧ c ≤ 57) : Plain.isD c = true := by simp [Plain.isD, h]
theorem isD_false {c : Int} (h : ¬ (48 ≤ c ∧ c ≤ 57)) : Plain.isD c = false := by simp only [Plain.isD, decide_eq_false_iff_not]; exact h

theorem isLetter_any (c : Int) (w : World) :
    Calls Try.prog 10 #[.int .u8 c] w fun e w' => e = .returned (.bool (Plain.isL c)) ∧ w' = w := by
  by_cases h1 : 97 ≤ c
  · by_cases h2 : c ≤ 122
    · rw [isL_true (Or.inl ⟨h1, h2⟩)]
      go_enter Try.func10, Try.ntmps10
      go_wp2
      go_ret
      exact ⟨rfl, rfl⟩
    · have h3 : 65 ≤ c := by omega
      have h4 : ¬ c ≤ 90 := by omega
      rw [isL_false (by omega)]
      go_enter Try.func10, Try.ntmps10
      go_wp2
      go_ret
      exact ⟨rfl, rfl⟩
  · by_cases h3 : 65 ≤ c
    · by_cases h4 : c ≤ 90
      · rw [isL_true (Or.inr ⟨h3, h4⟩)]
        go_enter Try.func10, Try.ntmps10
        go_wp2
        go_ret
        exact ⟨rfl, rfl⟩
      · rw [isL_false (by omega)]
        go_enter Try.func10, Try.ntmps10
        go_wp2
        go_ret
        exact ⟨rfl, rfl⟩
    · rw [isL_false (by omega)]
      go_enter Try.func10, Try.ntmps10
      go_wp2
      go_ret
      exact ⟨rfl, rfl⟩

theorem isDigit_any (c : Int) (w : World) :
    Calls Try.prog 11 #[.int .u8 c] w fun e w' => e = .returned (.bool (Plain.isD c)) ∧ w' = w := by
  by_cases h1 : 48 ≤ c
  · by_cases h2 : c ≤ 57
    · rw [isD_true ⟨h1, h2⟩]
      go_enter Try.func11, Try.ntmps11
      go_wp2
      go_ret
      exact ⟨rfl, rfl⟩
    · rw [isD_false (by omega)]
      go_enter Try.func11, Try.ntmps11
      go_wp2
      go_ret
      exact ⟨rfl, rfl⟩
  · rw [isD_false (by omega)]
    go_enter Try.func11, Try.ntmps11
    go_wp2
    go_ret
    exact ⟨rfl, rfl⟩

theorem zzIsLetter_any (c : Int) (w : World) :
    Calls Try.prog 6 #[.int .u8 c] w fun e w' => e = .returned (.bool (Plain.isL c)) ∧ w' = w := by
  go_enter Try.func6, Try.ntmps6
  go_wp2_with (go_at_call 10; refine (isLetter_any _ _).mono ?_; rintro e w' ⟨rfl, rfl⟩)
  go_ret
  exact ⟨rfl, rfl⟩

theorem zzIsDigit_any (c : Int) (w : World) :
    Calls Try.prog 7 #[.int .u8 c] w fun e w' => e = .returned (.bool (Plain.isD c)) ∧ w' = w := by
  go_enter Try.func7, Try.ntmps7
  go_wp2_with (go_at_call 11; refine (isDigit_any _ _).mono ?_; rintro e w' ⟨rfl, rfl⟩)
  go_ret
  exact ⟨rfl, rfl⟩

/-! the steps of the counts, in the walk's own forms -/
theorem flip_u8 (k : Nat) (hk : k < 256) : Plain.isL (bits .xor .u8 (k : Int) 32) = Plain.isL (k : Int) := by
  rw [show (32 : Int) = ((32 : Nat) : Int) from rfl, u8_xor_nat k 32 hk (by omega)]; exact Plain.flip_law k hk
theorem and_u8 (k : Nat) (hk : k < 256) : (bits .and .u8 (k : Int) 32 != 0) = (k &&& 32 != 0) := by
  rw [show (32 : Int) = ((32 : Nat) : Int) from rfl, u8_and_nat k 32 hk (by omega), Bool.eq_iff_iff]
  simp only [bne_iff_ne, ne_eq]; omega
theorem step_low (k : Nat) (hk : k < 256) (h1 : Plain.isL (k : Int) = true) (h2 : (bits .and .u8 (k : Int) 32 != 0) = true) :
    Plain.lowN (k + 1) = Plain.lowN k + 1 ∧ Plain.upN (k + 1) = Plain.upN k := by
  rw [and_u8 k hk] at h2; simp [Plain.lowN, Plain.upN, h1, h2]
theorem step_up (k : Nat) (hk : k < 256) (h1 : Plain.isL (k : Int) = true) (h2 : (bits .and .u8 (k : Int) 32 != 0) = false) :
    Plain.lowN (k + 1) = Plain.lowN k ∧ Plain.upN (k + 1) = Plain.upN k + 1 := by
  rw [and_u8 k hk] at h2; simp [Plain.lowN, Plain.upN, h1, h2]
theorem step_not (k : Nat) (h1 : Plain.isL (k : Int) = false) :
    Plain.lowN (k + 1) = Plain.lowN k ∧ Plain.upN (k + 1) = Plain.upN k := by
  simp [Plain.lowN, Plain.upN, h1]
theorem head_ways (c : Int) : (Plain.isL c = true ∧ Plain.isD c = false) ∨ Plain.isL c = false := by
  by_cases h : (97 ≤ c ∧ c ≤ 122) ∨ (65 ≤ c ∧ c ≤ 90)
  · exact Or.inl ⟨isL_true h, isD_false (by omega)⟩
  · exact Or.inr (isL_false h)
theorem round_ways (k : Nat) :
    (Plain.isL (k : Int) = true ∧ Plain.isD (k : Int) = false ∧ (k : Int) < 128 ∧ Plain.letN (k + 1) = Plain.letN k + 1 ∧ Plain.digN (k + 1) = Plain.digN k) ∨
    (Plain.isL (k : Int) = false ∧ Plain.isD (k : Int) = true ∧ (k : Int) < 128 ∧ Plain.letN (k + 1) = Plain.letN k ∧ Plain.digN (k + 1) = Plain.digN k + 1) ∨
    (Plain.isL (k : Int) = false ∧ Plain.isD (k : Int) = false ∧ Plain.letN (k + 1) = Plain.letN k ∧ Plain.digN (k + 1) = Plain.digN k) := by
  by_cases h : (97 ≤ (k : Int) ∧ (k : Int) ≤ 122) ∨ (65 ≤ (k : Int) ∧ (k : Int) ≤ 90)
  · have h1 := isL_true h
    have h2 := isD_false (c := (k : Int)) (by omega)
    exact Or.inl ⟨h1, h2, by omega, by simp [Plain.letN, h1], by simp [Plain.digN, h2]⟩
  · have h1 := isL_false h
    by_cases h' : 48 ≤ (k : Int) ∧ (k : Int) ≤ 57
    · have h2 := isD_true h'
      exact Or.inr (Or.inl ⟨h1, h2, by omega, by simp [Plain.letN, h1], by simp [Plain.digN, h2]⟩)
    · have h2 := isD_false h'
      exact Or.inr (Or.inr ⟨h1, h2, by simp [Plain.letN, h1], by simp [Plain.digN, h2]⟩)
theorem int_eq {a b : Int} (h : a = b) : Value.int .i64 a = Value.int .i64 b := by rw [h]
end Go.Proofs.Qxb6614963a
