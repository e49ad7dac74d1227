/-
  FnTenantNameCut: the plain law; zzOneByte (11), zzOneByteTenants (9), the bound on lengths (7), the law (5).
-/
import Derived.Test.Qxb6608676aTenant
import Derived.Laws.IdiomStrings
namespace Go.Proofs.Qxb6608676a.Tn
open Go.RowKit

/-! ### the plain law -/
def cnt : Nat → Nat
  | 0 => 0
  | k + 1 => cnt k + if validB ⟨#[UInt8.ofNat k]⟩ then 1 else 0
theorem cnt_all : cnt 256 = 36 := by decide +kernel
theorem cnt_le (k : Nat) : cnt k ≤ k := by
  induction k with
  | zero => simp [cnt]
  | succ k ih => unfold cnt; split <;> omega

theorem cut_law (a b : ByteArray) (ha : ¬ a.size = 0) : validB (a ++ b) = (decide (a.size + b.size ≤ 63) && validB a && validB (⟨#[48]⟩ ++ b)) := by
  have s1 : (a ++ b).size = a.size + b.size := by simp
  have s2 : ((⟨#[48]⟩ : ByteArray) ++ b).size = 1 + b.size := by simp; rfl
  have l1 : (a ++ b).data.toList = a.data.toList ++ b.data.toList := by simp
  have l2 : ((⟨#[48]⟩ : ByteArray) ++ b).data.toList = [48] ++ b.data.toList := by simp
  have la : 0 < a.data.toList.length := by have : a.data.toList.length = a.size := by simp
                                           omega
  have b1 : byteAt (a ++ b) 0 = byteAt a 0 := by
    unfold byteAt
    rw [l1, getD_at (by simp; omega), getD_at la, List.getElem_append_left la]
  have b2 : byteAt ((⟨#[48]⟩ : ByteArray) ++ b) 0 = 48 := by
    unfold byteAt
    rw [l2]
    rfl
  unfold validB
  rw [s1, s2, l1, l2, b1, b2, List.all_append, List.all_append]
  have k48 : ([48] : List UInt8).all (fun c => okB (c.toNat : Int)) = true := by decide
  rw [k48]
  generalize a.data.toList.all (fun c => okB (c.toNat : Int)) = p
  generalize b.data.toList.all (fun c => okB (c.toNat : Int)) = r
  generalize (byteAt a 0 == 45) = d
  by_cases h : a.size + b.size ≤ 63
  · have h1 : 1 ≤ a.size + b.size := by omega
    have h2 : 1 ≤ a.size := by omega
    have h3 : a.size ≤ 63 := by omega
    have h4 : 1 + b.size ≤ 63 := by omega
    simp only [h, h1, h2, h3, h4, decide_true]
    cases d <;> cases p <;> cases r <;> simp
  · simp [h]

set_option maxRecDepth 100000 in
theorem oneByte_any (k : Nat) (hk : k < 256) (w : World) :
    Calls Try.prog 11 #[.int .i64 (k : Int)] w fun e w' => e = .returned (.string ⟨#[UInt8.ofNat k]⟩) ∧ Below w.heap.size w w' := by
  have hcb := run_convert_bytes_back (P := Try.prog) (w.alloc (.cells #[.int .u8 (k : Int)] 5)) 30 9 5 ⟨w.heap.size, 0, none⟩ 1 [UInt8.ofNat k] Try.underlying30 Try.underlying5 Try.underlying9 (fun j hj => by
    have : j = 0 := by simp at hj; omega
    subst this
    simp [Addr.add]
    omega)
  simp only [List.length_cons, List.length_nil, Nat.zero_add] at hcb
  go_enter Try.func11, Try.ntmps11
  go_wp2
  go_ret
  exact ⟨rfl, (Below.refl _ _).alloc (Nat.le_refl _) _⟩

set_option maxRecDepth 100000 in
theorem zzBytes_any (a b : ByteArray) (w : World) :
    Calls Try.prog 7 #[.string a, .string b] w fun e w' => (e = .returned (.bool true) ∨ e = .returned (.bool false)) ∧ w' = w := by
  go_enter Try.func7, Try.ntmps7
  go_wp2
  all_goals go_ret
  all_goals first | exact ⟨.inl rfl, rfl⟩ | exact ⟨.inr rfl, rfl⟩

set_option maxRecDepth 100000 in
set_option maxHeartbeats 1000000 in
theorem tenants_any (w : World) :
    Calls Try.prog 9 #[] w fun e w' => e = .returned (.int .i64 36) ∧ Below w.heap.size w w' := by
  go_enter Try.func9, Try.ntmps9
  go_wp2
  go_loopw [1, 2] (fun n i wr => ∃ k : Nat, k ≤ 256 ∧ i = .int .i64 k ∧ n = .int .i64 (cnt k) ∧ Below w.heap.size w wr) (fun _ i _ => 256 - (intOf i).toNat)
  case atStart => exact ⟨0, by omega, rfl, rfl, Below.refl _ _⟩
  case round =>
    obtain ⟨k, hk, rfl, rfl, hb⟩ := hrel
    have hc := cnt_le k
    by_cases hlt : k < 256
    · have hz := hb.size
      cases hv : validB ⟨#[UInt8.ofNat k]⟩
      · have HC : Hid (cnt (k + 1) = cnt k) := by show cnt (k + 1) = cnt k; simp [cnt, hv]
        have HV : Hid (validB ⟨#[UInt8.ofNat k]⟩ = false) := hv
        clear hv
        go_wp2_with fail
        refine (oneByte_any k hlt wr).mono ?_
        rintro e w1 ⟨rfl, hb1⟩
        go_wp2_with fail
        refine (zzValid_any _ _).mono ?_
        rintro e w2 ⟨rfl, hb2⟩
        rw [HV.out]
        go_wp2
        go_roundw
        case rel => exact ⟨k + 1, by omega, by go_num, by rw [HC.out], (hb.trans (hb1.mono hz)).trans (hb2.mono (Nat.le_trans hz hb1.size))⟩
        case measure => simp [intOf]; omega
      · have HC : Hid (cnt (k + 1) = cnt k + 1) := by show cnt (k + 1) = cnt k + 1; simp [cnt, hv]
        have HV : Hid (validB ⟨#[UInt8.ofNat k]⟩ = true) := hv
        clear hv
        go_wp2_with fail
        refine (oneByte_any k hlt wr).mono ?_
        rintro e w1 ⟨rfl, hb1⟩
        go_wp2_with fail
        refine (zzValid_any _ _).mono ?_
        rintro e w2 ⟨rfl, hb2⟩
        rw [HV.out]
        go_wp2
        go_roundw
        case rel => exact ⟨k + 1, by omega, by go_num, by rw [HC.out]; go_num, (hb.trans (hb1.mono hz)).trans (hb2.mono (Nat.le_trans hz hb1.size))⟩
        case measure => simp [intOf]; omega
    · obtain rfl : k = 256 := by omega
      rw [cnt_all]
      go_wp2
      go_ret
      exact ⟨rfl, hb⟩

set_option maxRecDepth 100000 in
set_option maxHeartbeats 4000000 in
theorem law_long (a b : ByteArray) (w : World) (h1 : (a.size : Int) ≤ 65536) (h2 : (b.size : Int) ≤ 65536) (h0 : ¬ a.size = 0) (h3 : ¬ a.size + b.size ≤ 63) :
    Calls Try.prog 5 #[.string a, .string b] w fun e w' => e = .returned (.bool true) ∧ Below w.heap.size w w' := by
  have g1 : decide (65536 < (a.size : Int)) = false := by simp; omega
  have g2 : decide (65536 < (b.size : Int)) = false := by simp; omega
  have g3 : ((a.size : Int) == 0) = false := beq_eq_false_iff_ne.2 (by omega)
  have H1 : Hid (validB (a ++ b) = false) := by show validB (a ++ b) = false; rw [cut_law a b h0]; simp [h3]
  have g4 : decide ((a.size : Int) + (b.size : Int) ≤ 63) = false := by simp; omega
  clear h0 h3
  go_enter Try.func5, Try.ntmps5
  go_wp2_with fail
  refine (zzBytes_any a b w).mono ?_
  rintro e w0 ⟨he, hw0⟩
  obtain rfl : w = w0 := hw0.symm
  rcases he with rfl | rfl
  case inr =>
    go_wp2
    go_ret
    exact ⟨rfl, Below.refl _ _⟩
  go_wp2_with fail
  refine (zzValid_any _ _).mono ?_
  rintro e w1 ⟨rfl, hb1⟩
  rw [H1.out]

  go_wp2_with fail
  refine (tenants_any _).mono ?_
  rintro e w9 ⟨rfl, hb9⟩
  go_wp2
  go_ret
  exact ⟨rfl, hb1.trans (hb9.mono hb1.size)⟩

set_option maxRecDepth 100000 in
set_option maxHeartbeats 4000000 in
theorem law_bad (a b : ByteArray) (w : World) (h1 : (a.size : Int) ≤ 65536) (h2 : (b.size : Int) ≤ 65536) (h0 : ¬ a.size = 0) (h3 : a.size + b.size ≤ 63) (h4 : validB a = false) :
    Calls Try.prog 5 #[.string a, .string b] w fun e w' => e = .returned (.bool true) ∧ Below w.heap.size w w' := by
  have g1 : decide (65536 < (a.size : Int)) = false := by simp; omega
  have g2 : decide (65536 < (b.size : Int)) = false := by simp; omega
  have g3 : ((a.size : Int) == 0) = false := beq_eq_false_iff_ne.2 (by omega)
  have H1 : Hid (validB (a ++ b) = false) := by show validB (a ++ b) = false; rw [cut_law a b h0]; simp [h4]
  have H2 : Hid (validB a = false) := h4
  have g4 : decide ((a.size : Int) + (b.size : Int) ≤ 63) = true := by simp; omega
  clear h0 h3 h4
  go_enter Try.func5, Try.ntmps5
  go_wp2_with fail
  refine (zzBytes_any a b w).mono ?_
  rintro e w0 ⟨he, hw0⟩
  obtain rfl : w = w0 := hw0.symm
  rcases he with rfl | rfl
  case inr =>
    go_wp2
    go_ret
    exact ⟨rfl, Below.refl _ _⟩
  go_wp2_with fail
  refine (zzValid_any _ _).mono ?_
  rintro e w1 ⟨rfl, hb1⟩
  rw [H1.out]
  go_wp2_with fail
  refine (zzValid_any _ _).mono ?_
  rintro e w2 ⟨rfl, hb2⟩
  rw [H2.out]
  go_wp2_with fail
  refine (tenants_any _).mono ?_
  rintro e w9 ⟨rfl, hb9⟩
  go_wp2
  go_ret
  exact ⟨rfl, (hb1.trans (hb2.mono hb1.size)).trans (hb9.mono (Nat.le_trans hb1.size hb2.size))⟩

set_option maxRecDepth 100000 in
set_option maxHeartbeats 4000000 in
theorem law_good (a b : ByteArray) (w : World) (h1 : (a.size : Int) ≤ 65536) (h2 : (b.size : Int) ≤ 65536) (h0 : ¬ a.size = 0) (h3 : a.size + b.size ≤ 63) (h4 : validB a = true) (r : Bool) (h5 : validB (⟨#[48]⟩ ++ b) = r) :
    Calls Try.prog 5 #[.string a, .string b] w fun e w' => e = .returned (.bool true) ∧ Below w.heap.size w w' := by
  have g1 : decide (65536 < (a.size : Int)) = false := by simp; omega
  have g2 : decide (65536 < (b.size : Int)) = false := by simp; omega
  have g3 : ((a.size : Int) == 0) = false := beq_eq_false_iff_ne.2 (by omega)
  have H1 : Hid (validB (a ++ b) = r) := by show validB (a ++ b) = r; rw [cut_law a b h0, h4, h5]; simp [h3]
  have H2 : Hid (validB a = true) := h4
  have H3 : Hid (validB (⟨#[48]⟩ ++ b) = r) := h5
  have g4 : decide ((a.size : Int) + (b.size : Int) ≤ 63) = true := by simp; omega
  have g5 : (r == r) = true := by simp
  clear h0 h3 h4 h5
  go_enter Try.func5, Try.ntmps5
  go_wp2_with fail
  refine (zzBytes_any a b w).mono ?_
  rintro e w0 ⟨he, hw0⟩
  obtain rfl : w = w0 := hw0.symm
  rcases he with rfl | rfl
  case inr =>
    go_wp2
    go_ret
    exact ⟨rfl, Below.refl _ _⟩
  go_wp2_with fail
  refine (zzValid_any _ _).mono ?_
  rintro e w1 ⟨rfl, hb1⟩
  rw [H1.out]
  go_wp2_with fail
  refine (zzValid_any _ _).mono ?_
  rintro e w2 ⟨rfl, hb2⟩
  rw [H2.out]
  go_wp2_with fail
  refine (zzValid_any _ _).mono ?_
  rintro e w3 ⟨rfl, hb3⟩
  rw [H3.out]
  go_wp2_with fail
  refine (tenants_any _).mono ?_
  rintro e w9 ⟨rfl, hb9⟩
  go_wp2
  go_ret
  exact ⟨rfl, ((hb1.trans (hb2.mono hb1.size)).trans (hb3.mono (Nat.le_trans hb1.size hb2.size))).trans (hb9.mono (Nat.le_trans (Nat.le_trans hb1.size hb2.size) hb3.size))⟩

set_option maxRecDepth 100000 in
set_option maxHeartbeats 4000000 in
/-- the law's own guards -/
theorem law_guard (a b : ByteArray) (w : World) (h : ¬ (a.size : Int) ≤ 65536 ∨ ((a.size : Int) ≤ 65536 ∧ ¬ (b.size : Int) ≤ 65536) ∨ ((a.size : Int) ≤ 65536 ∧ (b.size : Int) ≤ 65536 ∧ a.size = 0)) :
    Calls Try.prog 5 #[.string a, .string b] w fun e w' => e = .returned (.bool true) ∧ Below w.heap.size w w' := by
  rcases h with h | ⟨h1, h⟩ | ⟨h1, h2, h⟩
  · have g1 : decide (65536 < (a.size : Int)) = true := by simp; omega
    clear h
    go_enter Try.func5, Try.ntmps5
    go_wp2_with fail
    refine (zzBytes_any a b w).mono ?_
    rintro e w0 ⟨rfl | rfl, rfl⟩
    all_goals
      go_wp2
      go_ret
      exact ⟨rfl, Below.refl _ _⟩
  · have g1 : decide (65536 < (a.size : Int)) = false := by simp; omega
    have g2 : decide (65536 < (b.size : Int)) = true := by simp; omega
    clear h h1
    go_enter Try.func5, Try.ntmps5
    go_wp2_with fail
    refine (zzBytes_any a b w).mono ?_
    rintro e w0 ⟨rfl | rfl, rfl⟩
    all_goals
      go_wp2
      go_ret
      exact ⟨rfl, Below.refl _ _⟩
  · have g1 : decide (65536 < (a.size : Int)) = false := by simp; omega
    have g2 : decide (65536 < (b.size : Int)) = false := by simp; omega
    have g3 : ((a.size : Int) == 0) = true := beq_iff_eq.2 (by omega)
    clear h h1 h2
    go_enter Try.func5, Try.ntmps5
    go_wp2_with fail
    refine (zzBytes_any a b w).mono ?_
    rintro e w0 ⟨rfl | rfl, rfl⟩
    all_goals
      go_wp2
      go_ret
      exact ⟨rfl, Below.refl _ _⟩

theorem law_all (a b : ByteArray) (w : World) :
    Calls Try.prog 5 #[.string a, .string b] w fun e w' => e = .returned (.bool true) ∧ Below w.heap.size w w' := by
  by_cases h1 : (a.size : Int) ≤ 65536
  case neg => exact law_guard a b w (.inl h1)
  by_cases h2 : (b.size : Int) ≤ 65536
  case neg => exact law_guard a b w (.inr (.inl ⟨h1, h2⟩))
  by_cases h0 : a.size = 0
  case pos => exact law_guard a b w (.inr (.inr ⟨h1, h2, h0⟩))
  by_cases h3 : a.size + b.size ≤ 63
  case neg => exact law_long a b w h1 h2 h0 h3
  cases h4 : validB a
  · exact law_bad a b w h1 h2 h0 h3 h4
  · exact law_good a b w h1 h2 h0 h3 h4 _ rfl
end Go.Proofs.Qxb6608676a.Tn
