/-
  FnTenantNameCut: validTenant (10), ZZvalidTenant (8).
-/
import Derived.Test.Qxb6608676aRows
import Derived.WalkKit
import Derived.WalkSpells
import Derived.Lib.ConvBytes
namespace Go.Proofs.Qxb6608676a.Tn
open Go.RowKit

/-- a byte that may stand in a tenant's name -/
def okB (c : Int) : Bool := decide ((97 ≤ c ∧ c ≤ 122) ∨ (48 ≤ c ∧ c ≤ 57) ∨ c = 45)
def byteAt (s : ByteArray) (j : Nat) : Int := ((s.data.toList.getD j 0).toNat : Int)
/-- what validTenant answers -/
def validB (s : ByteArray) : Bool := decide (1 ≤ s.size) && decide (s.size ≤ 63) && !(byteAt s 0 == 45) && s.data.toList.all (fun c => okB (c.toNat : Int))

theorem okB_true {c : Int} (h : (97 ≤ c ∧ c ≤ 122) ∨ (48 ≤ c ∧ c ≤ 57) ∨ c = 45) : okB c = true := by simp only [okB, decide_eq_true_eq]; exact h
theorem okB_false {c : Int} (h : ¬ ((97 ≤ c ∧ c ≤ 122) ∨ (48 ≤ c ∧ c ≤ 57) ∨ c = 45)) : okB c = false := by simp only [okB, decide_eq_false_iff_not]; exact h

theorem getD_at {l : List UInt8} {j : Nat} (h : j < l.length) : l.getD j 0 = l[j] := by simp [List.getD, h]
theorem byteAt_eq (s : ByteArray) (j : Nat) (h : j < s.size) : ((s[j]'h).toNat : Int) = byteAt s j := by
  have h' : j < s.data.toList.length := by simpa using h
  unfold byteAt
  rw [getD_at h']
  rfl

theorem all_of {s : ByteArray} (h : ∀ j, j < s.size → okB (byteAt s j) = true) : s.data.toList.all (fun c => okB (c.toNat : Int)) = true := by
  rw [List.all_eq_true]
  intro c hc
  obtain ⟨j, hj, rfl⟩ := List.getElem_of_mem hc
  have := h j (by simpa using hj)
  unfold byteAt at this
  rw [getD_at hj] at this
  exact this
theorem all_not {s : ByteArray} {j : Nat} (hj : j < s.size) (h : okB (byteAt s j) = false) : s.data.toList.all (fun c => okB (c.toNat : Int)) = false := by
  have hj' : j < s.data.toList.length := by simpa using hj
  cases e : s.data.toList.all (fun c => okB (c.toNat : Int))
  · rfl
  · rw [List.all_eq_true] at e
    have := e _ (List.getElem_mem hj')
    unfold byteAt at h
    rw [getD_at hj', this] at h
    cases h

theorem below_bytes (w : World) (s : ByteArray) : Below w.heap.size w (Lib.bytesWorld w 5 s) :=
  ⟨rfl, rfl, rfl, by rw [Lib.bytesWorld_size]; omega, fun k hk => Lib.bytesWorld_at_old w 5 s k hk⟩

set_option maxRecDepth 100000 in
set_option maxHeartbeats 1000000 in
theorem valid_short (s : ByteArray) (w : World) (h : ¬ 1 ≤ s.size) :
    Calls Try.prog 10 #[.string s] w fun e w' => e = .returned (.bool false) ∧ Below w.heap.size w w' := by
  have hd1 : decide ((s.size : Int) < 1) = true := by simp; omega
  clear h
  go_enter Try.func10, Try.ntmps10
  go_wp2
  go_ret
  exact ⟨rfl, Below.refl _ _⟩
set_option maxRecDepth 100000 in
set_option maxHeartbeats 1000000 in
theorem valid_long (s : ByteArray) (w : World) (h : ¬ s.size ≤ 63) :
    Calls Try.prog 10 #[.string s] w fun e w' => e = .returned (.bool false) ∧ Below w.heap.size w w' := by
  have hd1 : decide ((s.size : Int) < 1) = false := by simp; omega
  have hd2 : decide (63 < (s.size : Int)) = true := by simp; omega
  clear h
  go_enter Try.func10, Try.ntmps10
  go_wp2
  go_ret
  exact ⟨rfl, Below.refl _ _⟩
set_option maxRecDepth 100000 in
set_option maxHeartbeats 1000000 in
theorem valid_dash (s : ByteArray) (w : World) (h1 : 1 ≤ s.size) (h2 : s.size ≤ 63) (h0 : byteAt s 0 = 45) :
    Calls Try.prog 10 #[.string s] w fun e w' => e = .returned (.bool false) ∧ Below w.heap.size w w' := by
  have hd1 : decide ((s.size : Int) < 1) = false := by simp; omega
  have hd2 : decide (63 < (s.size : Int)) = false := by simp; omega
  have hp : 0 < s.size := by omega
  have hd3 : (((s[0]'hp).toNat : Int) == 45) = true := by rw [byteAt_eq s 0 hp, h0]; rfl
  clear h0 h1 h2
  go_enter Try.func10, Try.ntmps10
  go_wp2
  go_ret
  exact ⟨rfl, Below.refl _ _⟩

/-- how a byte comes to its answer -/
theorem ok_ways (c : Int) : (okB c = true ∧ 97 ≤ c ∧ c ≤ 122) ∨ (okB c = true ∧ 48 ≤ c ∧ c ≤ 57) ∨ (okB c = true ∧ c = 45) ∨
    (okB c = false ∧ 122 < c) ∨ (okB c = false ∧ 57 < c ∧ c < 97) ∨ (okB c = false ∧ c < 48 ∧ ¬ c = 45) := by
  by_cases h : (97 ≤ c ∧ c ≤ 122) ∨ (48 ≤ c ∧ c ≤ 57) ∨ c = 45
  · have := okB_true h
    rcases h with h | h | h
    · exact .inl ⟨this, h.1, h.2⟩
    · exact .inr (.inl ⟨this, h.1, h.2⟩)
    · exact .inr (.inr (.inl ⟨this, h⟩))
  · have := okB_false h
    by_cases h1 : 122 < c
    · exact .inr (.inr (.inr (.inl ⟨this, h1⟩)))
    · by_cases h2 : 57 < c
      · exact .inr (.inr (.inr (.inr (.inl ⟨this, h2, by omega⟩))))
      · exact .inr (.inr (.inr (.inr (.inr ⟨this, by omega, by omega⟩))))

set_option maxRecDepth 100000 in
set_option maxHeartbeats 4000000 in
theorem valid_body (s : ByteArray) (w : World) (h1 : 1 ≤ s.size) (h2 : s.size ≤ 63) (h0 : ¬ byteAt s 0 = 45) :
    Calls Try.prog 10 #[.string s] w fun e w' => e = .returned (.bool (s.data.toList.all (fun c => okB (c.toNat : Int)))) ∧ Below w.heap.size w w' := by
  have hd1 : decide ((s.size : Int) < 1) = false := by simp; omega
  have hd2 : decide (63 < (s.size : Int)) = false := by simp; omega
  have hp : 0 < s.size := by omega
  have hd3 : (((s[0]'hp).toNat : Int) == 45) = false := by rw [byteAt_eq s 0 hp]; simpa using h0
  have hcv := fun wx => Lib.run_convert_string_bytes (P := Try.prog) wx 9 30 5 s Try.underlying9 Try.underlying30 Try.underlying5
  have HC : Hid (∀ j, j < s.size → (Lib.bytesWorld w 5 s).cell? ⟨w.heap.size, j, none⟩ = some (.int .u8 (byteAt s j))) := fun j hj => Lib.bytesWorld_cell w 5 s j hj
  have HB : Hid (Below w.heap.size w (Lib.bytesWorld w 5 s)) := below_bytes w s
  clear h0 h1
  generalize hA : s.data.toList.all (fun c => okB (c.toNat : Int)) = A
  have HA1 : Hid ((∀ j, j < s.size → okB (byteAt s j) = true) → A = true) := fun h => by rw [← hA]; exact all_of h
  have HA2 : Hid (∀ j, j < s.size → okB (byteAt s j) = false → A = false) := fun j hj h => by rw [← hA]; exact all_not hj h
  clear hA
  go_enter Try.func10, Try.ntmps10
  go_wp2
  clear hcv
  revert HC HB
  generalize Lib.bytesWorld w 5 s = W1
  intro HC HB
  go_loop [21] (fun i => ∃ k : Nat, k ≤ s.size ∧ i = .int .i64 k ∧ ∀ j, j < k → okB (byteAt s j) = true) (fun i => s.size - (intOf i).toNat)
  case atStart => exact ⟨0, by omega, rfl, fun j hj => by omega⟩
  case round =>
    obtain ⟨k, hk, rfl, hall⟩ := hrel
    by_cases hlt : k < s.size
    · have hck := HC.out k hlt
      have HAll : Hid (∀ j, j < k → okB (byteAt s j) = true) := hall
      clear hall
      obtain ⟨c, hc⟩ : ∃ c, byteAt s k = c := ⟨_, rfl⟩
      rw [hc] at hck
      have HX : Hid (byteAt s k = c) := hc
      clear hc
      rcases ok_ways c with ⟨ho, g1, g2⟩ | ⟨ho, g1, g2⟩ | ⟨ho, g1⟩ | ⟨ho, g1⟩ | ⟨ho, g1, g2⟩ | ⟨ho, g1, g2⟩
      case inr.inr.inl =>
        subst g1
        have HO : Hid (okB 45 = true) := ho
        clear ho
        go_wp2
        go_round
        case rel => exact ⟨k + 1, by omega, by go_num, fun j hj => if e : j = k then by rw [e, HX.out]; exact HO.out else HAll.out j (by omega)⟩
        case measure => simp [intOf]; omega
      case inl =>
        have HO : Hid (okB c = true) := ho
        clear ho
        go_wp2
        go_round
        case rel => exact ⟨k + 1, by omega, by go_num, fun j hj => if e : j = k then by rw [e, HX.out]; exact HO.out else HAll.out j (by omega)⟩
        case measure => simp [intOf]; omega
      case inr.inl =>
        have HO : Hid (okB c = true) := ho
        clear ho
        go_wp2
        go_round
        case rel => exact ⟨k + 1, by omega, by go_num, fun j hj => if e : j = k then by rw [e, HX.out]; exact HO.out else HAll.out j (by omega)⟩
        case measure => simp [intOf]; omega
      case inr.inr.inr.inl =>
        have hq : (c == 45) = false := by simp; omega
        have e1 : decide (c ≤ 122) = false := by simp; omega
        have e2 : decide (c ≤ 57) = false := by simp; omega
        have HO : Hid (okB c = false) := ho
        clear ho
        go_wp2
        go_ret
        refine ⟨?_, HB.out⟩
        rw [HA2.out k hlt (by rw [HX.out]; exact HO.out)]
        rfl
      case inr.inr.inr.inr.inl =>
        have hq : (c == 45) = false := by simp; omega
        have e2 : decide (c ≤ 57) = false := by simp; omega
        have HO : Hid (okB c = false) := ho
        clear ho
        go_wp2
        go_ret
        refine ⟨?_, HB.out⟩
        rw [HA2.out k hlt (by rw [HX.out]; exact HO.out)]
        rfl
      all_goals
        have hq : (c == 45) = false := by simp; omega
        have HO : Hid (okB c = false) := ho
        clear ho
        go_wp2
        go_ret
        refine ⟨?_, HB.out⟩
        rw [HA2.out k hlt (by rw [HX.out]; exact HO.out)]
        rfl
    · obtain rfl : k = s.size := by omega
      go_wp2
      go_ret
      refine ⟨?_, HB.out⟩
      rw [HA1.out hall]
      rfl

theorem valid_any (s : ByteArray) (w : World) :
    Calls Try.prog 10 #[.string s] w fun e w' => e = .returned (.bool (validB s)) ∧ Below w.heap.size w w' := by
  unfold validB
  by_cases h1 : 1 ≤ s.size
  · by_cases h2 : s.size ≤ 63
    · by_cases h0 : byteAt s 0 = 45
      · have := valid_dash s w h1 h2 h0
        simpa [h1, h2, h0] using this
      · have := valid_body s w h1 h2 h0
        have hb : (byteAt s 0 == 45) = false := by simpa using h0
        simpa [h1, h2, hb] using this
    · have := valid_long s w h2
      simpa [h2] using this
  · have := valid_short s w h1
    simpa [h1] using this

theorem zzValid_any (s : ByteArray) (w : World) :
    Calls Try.prog 8 #[.string s] w fun e w' => e = .returned (.bool (validB s)) ∧ Below w.heap.size w w' := by
  go_enter Try.func8, Try.ntmps8
  go_wp2_with fail
  refine (valid_any s w).mono ?_
  rintro e w' ⟨rfl, hb⟩
  go_wp2
  go_ret
  exact ⟨rfl, hb⟩
end Go.Proofs.Qxb6608676a.Tn
