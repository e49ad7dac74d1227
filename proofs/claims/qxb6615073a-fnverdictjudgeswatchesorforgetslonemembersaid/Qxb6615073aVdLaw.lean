/-
  FnVerdict..: ZZverdict (13), and the law itself (4), case by case.
-/
import Derived.Test.Qxb6615073aVdOver
import Derived.Test.Qxb6615073aVdSetup
import Derived.Test.Qxb6615073aRoles
import Derived.Laws.StructEq
namespace Go.Proofs.Qxb6615073a.Vd
open Go.RowKit

theorem wrap_in (x y : Int) : wrap64 (x + wrap64 y) = wrap64 (x + y) := by
  unfold wrap64
  omega

theorem str_ne {a b : ByteArray} (h : ¬ a = b) : (a.toList == b.toList) = false := by
  rw [← beq_toListBytes]
  exact beq_ne h

set_option maxRecDepth 100000 in
/-- ZZverdict hands on -/
theorem verdict_of (q : Cn) (vn : ByteArray) (ve : Int) (W : World) (R : World → Prop)
    (h : Calls Try.prog 20 #[.agg #[.string vn, .int .i64 ve], .pointer (some ⟨q.B + 5, 0, none⟩)] W fun e W' => e = .returned (.tuple #[]) ∧ R W') :
    Calls Try.prog 13 #[.pointer (some ⟨q.B + 5, 0, none⟩), .string vn, .int .i64 ve] W fun e W' => e = .returned (.tuple #[]) ∧ R W' := by
  have HH : Hid (Calls Try.prog 20 #[.agg #[.string vn, .int .i64 ve], .pointer (some ⟨q.B + 5, 0, none⟩)] W fun e W' => e = .returned (.tuple #[]) ∧ R W') := h
  clear h
  go_enter Try.func13, Try.ntmps13
  go_wp2_with fail
  refine HH.out.mono ?_
  rintro e W' ⟨rfl, hR⟩
  have HR : Hid (R W') := hR
  clear hR
  go_wp2
  go_end0
  exact ⟨rfl, HR.out⟩

set_option maxRecDepth 100000 in
set_option maxHeartbeats 4000000 in
theorem law_name (q : Cn) (en : Int) (w : World) (hB : q.B = w.heap.size) (hz1 : (q.nm.size : Int) ≤ 262144) (vn : ByteArray) (ve : Int) (hz2 : (vn.size : Int) ≤ 262144) (hne : ¬ vn = q.nm) :
    Calls Try.prog 4 #[.int .i64 q.L, .int .i64 q.D, .string q.nm, .int .i64 q.ep, .int .i64 q.la, .int .i64 q.fl, .bool q.lf, .int .i64 en, .string vn, .int .i64 ve, .int .i64 q.now] w fun e w' => e = .returned (.bool true) ∧ Below w.heap.size w w' := by
  have HB : Hid (q.B = w.heap.size) := hB
  have HV : Hid (∀ wx, St q (moOf q) false en none 0 0 wx → Calls Try.prog 13 #[.pointer (some ⟨q.B + 5, 0, none⟩), .string vn, .int .i64 ve] wx fun e W' => e = .returned (.tuple #[]) ∧ ∃ en' a cap, St q (moOf q) false en' a 0 cap W' ∧ Below q.B wx W') := fun wx hx => by
    exact verdict_of q vn ve wx _ ((applyTo_none q false en none 0 0 wx hx vn ve (.inl hne)).mono fun e W' h => ⟨h.1, en, none, 0, h.2.1, h.2.2⟩)
  have hv : (vn.toList == q.nm.toList) = false := str_ne hne
  clear hne
  clear hB
  go_enter Try.func4, Try.ntmps4
  go_wp2_with fail
  refine (zzBytes_any _ _ _ _ _ _ _ _ _ _ _ w).mono ?_
  rintro e w0 ⟨he, hw0⟩
  obtain rfl : w = w0 := hw0.symm
  rcases he with rfl | rfl
  case inr =>
    go_wp2
    go_ret
    exact ⟨rfl, Below.refl _ _⟩
  go_wp2_with fail
  refine (newRecords_any q w HB.out).mono ?_
  rintro e W1 ⟨rfl, hR1, hb1⟩
  have HR1 : Hid (Rc q (.map #[] 0) 4 W1) := hR1
  clear hR1
  go_wp2_with fail
  refine (putMember_any q en W1 HR1.out).mono ?_
  rintro e W2 ⟨rfl, hR2, hK2, hb2⟩
  have HR2 : Hid (Rc q (moOf q) 5 W2) := hR2
  have HK2 : Hid (Blk W2 (q.B + 4) (kcells q.nm q.ep q.la q.fl q.lf false en) 62) := hK2
  clear hR2 hK2
  go_wp2_with fail
  refine (newTxn_any q en W2 HR2.out HK2.out).mono ?_
  rintro e W3 ⟨rfl, hS3, hb3⟩
  have HS3 : Hid (St q (moOf q) false en none 0 0 W3) := hS3
  clear hS3
  go_wp2_with fail
  refine (HV.out W3 HS3.out).mono ?_
  rintro e W4 ⟨rfl, en4, a4, cap4, hS4, hb4⟩
  have HS4 : Hid (St q (moOf q) false en4 a4 0 cap4 W4) := hS4
  have hbel : Below q.B w W4 := ((hb1.trans hb2).trans hb3).trans hb4
  clear hS4 hb1 hb2 hb3 hb4

  go_wp2_with fail
  refine (eventCount_any q (moOf q) false en4 a4 0 cap4 _ HS4.out).mono ?_
  rintro e w5 ⟨rfl, hw5⟩
  obtain rfl : _ = w5 := hw5.symm
  go_wp2_with fail
  refine (hasMember_yes q false en4 a4 0 cap4 _ HS4.out).mono ?_
  rintro e w6 ⟨rfl, hw6⟩
  obtain rfl : _ = w6 := hw6.symm
  go_wp2_with fail
  refine (memberJudged_any q false en4 a4 0 cap4 _ HS4.out).mono ?_
  rintro e w7 ⟨rfl, hw7⟩
  obtain rfl : _ = w7 := hw7.symm
  go_wp2
  go_ret
  exact ⟨rfl, by rw [← HB.out]; exact hbel⟩

set_option maxRecDepth 100000 in
set_option maxHeartbeats 4000000 in
theorem law_epoch (q : Cn) (en : Int) (w : World) (hB : q.B = w.heap.size) (hz1 : (q.nm.size : Int) ≤ 262144) (ve : Int) (hne : ¬ ve = q.ep) :
    Calls Try.prog 4 #[.int .i64 q.L, .int .i64 q.D, .string q.nm, .int .i64 q.ep, .int .i64 q.la, .int .i64 q.fl, .bool q.lf, .int .i64 en, .string q.nm, .int .i64 ve, .int .i64 q.now] w fun e w' => e = .returned (.bool true) ∧ Below w.heap.size w w' := by
  have HB : Hid (q.B = w.heap.size) := hB
  have HV : Hid (∀ wx, St q (moOf q) false en none 0 0 wx → Calls Try.prog 13 #[.pointer (some ⟨q.B + 5, 0, none⟩), .string q.nm, .int .i64 ve] wx fun e W' => e = .returned (.tuple #[]) ∧ ∃ en' a cap, St q (moOf q) false en' a 0 cap W' ∧ Below q.B wx W') := fun wx hx => by
    exact verdict_of q q.nm ve wx _ ((applyTo_none q false en none 0 0 wx hx q.nm ve (.inr hne)).mono fun e W' h => ⟨h.1, en, none, 0, h.2.1, h.2.2⟩)
  have hv : (ve == q.ep) = false := by simp; exact hne
  clear hne
  clear hB
  go_enter Try.func4, Try.ntmps4
  go_wp2_with fail
  refine (zzBytes_any _ _ _ _ _ _ _ _ _ _ _ w).mono ?_
  rintro e w0 ⟨he, hw0⟩
  obtain rfl : w = w0 := hw0.symm
  rcases he with rfl | rfl
  case inr =>
    go_wp2
    go_ret
    exact ⟨rfl, Below.refl _ _⟩
  go_wp2_with fail
  refine (newRecords_any q w HB.out).mono ?_
  rintro e W1 ⟨rfl, hR1, hb1⟩
  have HR1 : Hid (Rc q (.map #[] 0) 4 W1) := hR1
  clear hR1
  go_wp2_with fail
  refine (putMember_any q en W1 HR1.out).mono ?_
  rintro e W2 ⟨rfl, hR2, hK2, hb2⟩
  have HR2 : Hid (Rc q (moOf q) 5 W2) := hR2
  have HK2 : Hid (Blk W2 (q.B + 4) (kcells q.nm q.ep q.la q.fl q.lf false en) 62) := hK2
  clear hR2 hK2
  go_wp2_with fail
  refine (newTxn_any q en W2 HR2.out HK2.out).mono ?_
  rintro e W3 ⟨rfl, hS3, hb3⟩
  have HS3 : Hid (St q (moOf q) false en none 0 0 W3) := hS3
  clear hS3
  go_wp2_with fail
  refine (HV.out W3 HS3.out).mono ?_
  rintro e W4 ⟨rfl, en4, a4, cap4, hS4, hb4⟩
  have HS4 : Hid (St q (moOf q) false en4 a4 0 cap4 W4) := hS4
  have hbel : Below q.B w W4 := ((hb1.trans hb2).trans hb3).trans hb4
  clear hS4 hb1 hb2 hb3 hb4

  go_wp2_with fail
  refine (eventCount_any q (moOf q) false en4 a4 0 cap4 _ HS4.out).mono ?_
  rintro e w5 ⟨rfl, hw5⟩
  obtain rfl : _ = w5 := hw5.symm
  go_wp2_with fail
  refine (hasMember_yes q false en4 a4 0 cap4 _ HS4.out).mono ?_
  rintro e w6 ⟨rfl, hw6⟩
  obtain rfl : _ = w6 := hw6.symm
  go_wp2_with fail
  refine (memberJudged_any q false en4 a4 0 cap4 _ HS4.out).mono ?_
  rintro e w7 ⟨rfl, hw7⟩
  obtain rfl : _ = w7 := hw7.symm
  go_wp2
  go_ret
  exact ⟨rfl, by rw [← HB.out]; exact hbel⟩

set_option maxRecDepth 100000 in
set_option maxHeartbeats 4000000 in
theorem law_held (q : Cn) (en : Int) (w : World) (hB : q.B = w.heap.size) (hz1 : (q.nm.size : Int) ≤ 262144) (hlf : q.lf = false) (hf : ¬ fencedI q.L q.D q.la q.fl ≤ q.now) :
    Calls Try.prog 4 #[.int .i64 q.L, .int .i64 q.D, .string q.nm, .int .i64 q.ep, .int .i64 q.la, .int .i64 q.fl, .bool q.lf, .int .i64 en, .string q.nm, .int .i64 q.ep, .int .i64 q.now] w fun e w' => e = .returned (.bool true) ∧ Below w.heap.size w w' := by
  have HB : Hid (q.B = w.heap.size) := hB
  have HV : Hid (∀ wx, St q (moOf q) false en none 0 0 wx → Calls Try.prog 13 #[.pointer (some ⟨q.B + 5, 0, none⟩), .string q.nm, .int .i64 q.ep] wx fun e W' => e = .returned (.tuple #[]) ∧ ∃ en' a cap, St q (moOf q) false en' a 1 cap W' ∧ Below q.B wx W') := fun wx hx => by
    exact verdict_of q q.nm q.ep wx _ ((applyTo_held q hlf hf false en none 0 0 wx hx (by omega)).mono fun e W' ⟨h1, a', cap', h2, h3⟩ => ⟨h1, en, a', cap', h2, h3⟩)
  have HL : Hid (q.lf = false) := hlf
  have HF : Hid (¬ fencedI q.L q.D q.la q.fl ≤ q.now) := hf
  clear hlf hf
  clear hB
  go_enter Try.func4, Try.ntmps4
  go_wp2_with fail
  refine (zzBytes_any _ _ _ _ _ _ _ _ _ _ _ w).mono ?_
  rintro e w0 ⟨he, hw0⟩
  obtain rfl : w = w0 := hw0.symm
  rcases he with rfl | rfl
  case inr =>
    go_wp2
    go_ret
    exact ⟨rfl, Below.refl _ _⟩
  go_wp2_with fail
  refine (newRecords_any q w HB.out).mono ?_
  rintro e W1 ⟨rfl, hR1, hb1⟩
  have HR1 : Hid (Rc q (.map #[] 0) 4 W1) := hR1
  clear hR1
  go_wp2_with fail
  refine (putMember_any q en W1 HR1.out).mono ?_
  rintro e W2 ⟨rfl, hR2, hK2, hb2⟩
  have HR2 : Hid (Rc q (moOf q) 5 W2) := hR2
  have HK2 : Hid (Blk W2 (q.B + 4) (kcells q.nm q.ep q.la q.fl q.lf false en) 62) := hK2
  clear hR2 hK2
  go_wp2_with fail
  refine (newTxn_any q en W2 HR2.out HK2.out).mono ?_
  rintro e W3 ⟨rfl, hS3, hb3⟩
  have HS3 : Hid (St q (moOf q) false en none 0 0 W3) := hS3
  clear hS3
  go_wp2_with fail
  refine (HV.out W3 HS3.out).mono ?_
  rintro e W4 ⟨rfl, en4, a4, cap4, hS4, hb4⟩
  have HS4 : Hid (St q (moOf q) false en4 a4 1 cap4 W4) := hS4
  have hbel : Below q.B w W4 := ((hb1.trans hb2).trans hb3).trans hb4
  clear hS4 hb1 hb2 hb3 hb4
  have hlf := HL.out
  go_wp2_with fail
  refine (zzFenced_any q.L q.D q.la q.fl _).mono ?_
  rintro e W5 ⟨rfl, hb5⟩
  have HS5 : Hid (St q (moOf q) false en4 a4 1 cap4 W5) := HS4.out.later hb5
  have hbel5 : Below q.B w W5 := hbel.trans (hb5.mono (by have := HS4.out.size; omega))
  have hd : decide (fencedI q.L q.D q.la q.fl ≤ q.now) = false := by have := HF.out; simp; omega
  go_wp2_with fail
  refine (eventCount_any q (moOf q) false en4 a4 1 cap4 _ HS5.out).mono ?_
  rintro e w5 ⟨rfl, hw5⟩
  obtain rfl : _ = w5 := hw5.symm
  go_wp2_with fail
  refine (hasMember_yes q false en4 a4 1 cap4 _ HS5.out).mono ?_
  rintro e w6 ⟨rfl, hw6⟩
  obtain rfl : _ = w6 := hw6.symm
  go_wp2_with fail
  refine (memberJudged_any q false en4 a4 1 cap4 _ HS5.out).mono ?_
  rintro e w7 ⟨rfl, hw7⟩
  obtain rfl : _ = w7 := hw7.symm
  go_wp2
  go_ret
  exact ⟨rfl, by rw [← HB.out]; exact hbel5⟩

set_option maxRecDepth 100000 in
set_option maxHeartbeats 4000000 in
theorem law_left_keep (q : Cn) (en : Int) (w : World) (hB : q.B = w.heap.size) (hz1 : (q.nm.size : Int) ≤ 262144) (hlf : q.lf = true) (hk : q.now < wrap64 (en + q.L)) :
    Calls Try.prog 4 #[.int .i64 q.L, .int .i64 q.D, .string q.nm, .int .i64 q.ep, .int .i64 q.la, .int .i64 q.fl, .bool q.lf, .int .i64 en, .string q.nm, .int .i64 q.ep, .int .i64 q.now] w fun e w' => e = .returned (.bool true) ∧ Below w.heap.size w w' := by
  have HB : Hid (q.B = w.heap.size) := hB
  have HV : Hid (∀ wx, St q (moOf q) false en none 0 0 wx → Calls Try.prog 13 #[.pointer (some ⟨q.B + 5, 0, none⟩), .string q.nm, .int .i64 q.ep] wx fun e W' => e = .returned (.tuple #[]) ∧ ∃ en' a cap, St q (moOf q) false en' a 1 cap W' ∧ Below q.B wx W') := fun wx hx => by
    exact verdict_of q q.nm q.ep wx _ ((applyTo_keep q 3 rfl false false en en none 0 0 0 (fun wy hy => (state_l q hlf (moOf q) false en none 0 0 wy hy).mono fun e W' ⟨h1, h2⟩ => ⟨h1, none, 0, hy.later h2, h2.mono (by have := hy.size; omega), K33.later h2⟩) wx hx (by omega) (by rw [wrap_in]; exact hk)).mono fun e W' ⟨h1, a', cap', h2, h3⟩ => ⟨h1, en, a', cap', h2, h3⟩)
  have HL : Hid (q.lf = true) := hlf
  have hd : decide (q.now < wrap64 (en + q.L)) = true := by simp; omega
  clear hlf hk
  clear hB
  go_enter Try.func4, Try.ntmps4
  go_wp2_with fail
  refine (zzBytes_any _ _ _ _ _ _ _ _ _ _ _ w).mono ?_
  rintro e w0 ⟨he, hw0⟩
  obtain rfl : w = w0 := hw0.symm
  rcases he with rfl | rfl
  case inr =>
    go_wp2
    go_ret
    exact ⟨rfl, Below.refl _ _⟩
  go_wp2_with fail
  refine (newRecords_any q w HB.out).mono ?_
  rintro e W1 ⟨rfl, hR1, hb1⟩
  have HR1 : Hid (Rc q (.map #[] 0) 4 W1) := hR1
  clear hR1
  go_wp2_with fail
  refine (putMember_any q en W1 HR1.out).mono ?_
  rintro e W2 ⟨rfl, hR2, hK2, hb2⟩
  have HR2 : Hid (Rc q (moOf q) 5 W2) := hR2
  have HK2 : Hid (Blk W2 (q.B + 4) (kcells q.nm q.ep q.la q.fl q.lf false en) 62) := hK2
  clear hR2 hK2
  go_wp2_with fail
  refine (newTxn_any q en W2 HR2.out HK2.out).mono ?_
  rintro e W3 ⟨rfl, hS3, hb3⟩
  have HS3 : Hid (St q (moOf q) false en none 0 0 W3) := hS3
  clear hS3
  go_wp2_with fail
  refine (HV.out W3 HS3.out).mono ?_
  rintro e W4 ⟨rfl, en4, a4, cap4, hS4, hb4⟩
  have HS4 : Hid (St q (moOf q) false en4 a4 1 cap4 W4) := hS4
  have hbel : Below q.B w W4 := ((hb1.trans hb2).trans hb3).trans hb4
  clear hS4 hb1 hb2 hb3 hb4
  have hlf := HL.out
  go_wp2_with fail
  refine (eventCount_any q (moOf q) false en4 a4 1 cap4 _ HS4.out).mono ?_
  rintro e w5 ⟨rfl, hw5⟩
  obtain rfl : _ = w5 := hw5.symm
  go_wp2_with fail
  refine (hasMember_yes q false en4 a4 1 cap4 _ HS4.out).mono ?_
  rintro e w6 ⟨rfl, hw6⟩
  obtain rfl : _ = w6 := hw6.symm
  go_wp2_with fail
  refine (memberJudged_any q false en4 a4 1 cap4 _ HS4.out).mono ?_
  rintro e w7 ⟨rfl, hw7⟩
  obtain rfl : _ = w7 := hw7.symm
  go_wp2
  go_ret
  exact ⟨rfl, by rw [← HB.out]; exact hbel⟩

set_option maxRecDepth 100000 in
set_option maxHeartbeats 4000000 in
theorem law_left_drop (q : Cn) (en : Int) (w : World) (hB : q.B = w.heap.size) (hz1 : (q.nm.size : Int) ≤ 262144) (hlf : q.lf = true) (hk : ¬ q.now < wrap64 (en + q.L)) :
    Calls Try.prog 4 #[.int .i64 q.L, .int .i64 q.D, .string q.nm, .int .i64 q.ep, .int .i64 q.la, .int .i64 q.fl, .bool q.lf, .int .i64 en, .string q.nm, .int .i64 q.ep, .int .i64 q.now] w fun e w' => e = .returned (.bool true) ∧ Below w.heap.size w w' := by
  have HB : Hid (q.B = w.heap.size) := hB
  have HV : Hid (∀ wx, St q (moOf q) false en none 0 0 wx → Calls Try.prog 13 #[.pointer (some ⟨q.B + 5, 0, none⟩), .string q.nm, .int .i64 q.ep] wx fun e W' => e = .returned (.tuple #[]) ∧ ∃ en' a cap, St q (.map #[] 1) false en' a 1 cap W' ∧ Below q.B wx W') := fun wx hx => by
    exact verdict_of q q.nm q.ep wx _ ((applyTo_drop q 3 rfl false false en en none 0 0 0 (fun wy hy => (state_l q hlf (moOf q) false en none 0 0 wy hy).mono fun e W' ⟨h1, h2⟩ => ⟨h1, none, 0, hy.later h2, h2.mono (by have := hy.size; omega), K33.later h2⟩) wx hx (by omega) (by rw [wrap_in]; exact hk)).mono fun e W' ⟨h1, a', cap', h2, h3⟩ => ⟨h1, en, a', cap', h2, h3⟩)
  have HL : Hid (q.lf = true) := hlf
  have hd : decide (q.now < wrap64 (en + q.L)) = false := by simp; omega
  clear hlf hk
  clear hB
  go_enter Try.func4, Try.ntmps4
  go_wp2_with fail
  refine (zzBytes_any _ _ _ _ _ _ _ _ _ _ _ w).mono ?_
  rintro e w0 ⟨he, hw0⟩
  obtain rfl : w = w0 := hw0.symm
  rcases he with rfl | rfl
  case inr =>
    go_wp2
    go_ret
    exact ⟨rfl, Below.refl _ _⟩
  go_wp2_with fail
  refine (newRecords_any q w HB.out).mono ?_
  rintro e W1 ⟨rfl, hR1, hb1⟩
  have HR1 : Hid (Rc q (.map #[] 0) 4 W1) := hR1
  clear hR1
  go_wp2_with fail
  refine (putMember_any q en W1 HR1.out).mono ?_
  rintro e W2 ⟨rfl, hR2, hK2, hb2⟩
  have HR2 : Hid (Rc q (moOf q) 5 W2) := hR2
  have HK2 : Hid (Blk W2 (q.B + 4) (kcells q.nm q.ep q.la q.fl q.lf false en) 62) := hK2
  clear hR2 hK2
  go_wp2_with fail
  refine (newTxn_any q en W2 HR2.out HK2.out).mono ?_
  rintro e W3 ⟨rfl, hS3, hb3⟩
  have HS3 : Hid (St q (moOf q) false en none 0 0 W3) := hS3
  clear hS3
  go_wp2_with fail
  refine (HV.out W3 HS3.out).mono ?_
  rintro e W4 ⟨rfl, en4, a4, cap4, hS4, hb4⟩
  have HS4 : Hid (St q (.map #[] 1) false en4 a4 1 cap4 W4) := hS4
  have hbel : Below q.B w W4 := ((hb1.trans hb2).trans hb3).trans hb4
  clear hS4 hb1 hb2 hb3 hb4
  have hlf := HL.out
  go_wp2_with fail
  refine (eventCount_any q (.map #[] 1) false en4 a4 1 cap4 _ HS4.out).mono ?_
  rintro e w5 ⟨rfl, hw5⟩
  obtain rfl : _ = w5 := hw5.symm
  go_wp2_with fail
  refine (hasMember_no q false en4 a4 1 cap4 _ HS4.out).mono ?_
  rintro e w6 ⟨rfl, hw6⟩
  obtain rfl : _ = w6 := hw6.symm
  go_wp2
  go_ret
  exact ⟨rfl, by rw [← HB.out]; exact hbel⟩

set_option maxRecDepth 100000 in
set_option maxHeartbeats 4000000 in
theorem law_fenced_keep (q : Cn) (en : Int) (w : World) (hB : q.B = w.heap.size) (hz1 : (q.nm.size : Int) ≤ 262144) (hlf : q.lf = false) (hf : fencedI q.L q.D q.la q.fl ≤ q.now) (hk : q.now < wrap64 (q.now + q.L)) :
    Calls Try.prog 4 #[.int .i64 q.L, .int .i64 q.D, .string q.nm, .int .i64 q.ep, .int .i64 q.la, .int .i64 q.fl, .bool q.lf, .int .i64 en, .string q.nm, .int .i64 q.ep, .int .i64 q.now] w fun e w' => e = .returned (.bool true) ∧ Below w.heap.size w w' := by
  have HB : Hid (q.B = w.heap.size) := hB
  have HV : Hid (∀ wx, St q (moOf q) false en none 0 0 wx → Calls Try.prog 13 #[.pointer (some ⟨q.B + 5, 0, none⟩), .string q.nm, .int .i64 q.ep] wx fun e W' => e = .returned (.tuple #[]) ∧ ∃ en' a cap, St q (moOf q) true en' a 2 cap W' ∧ Below q.B wx W') := fun wx hx => by
    exact verdict_of q q.nm q.ep wx _ ((applyTo_keep q 2 rfl false true en q.now none 0 1 0 (fun wy hy => state_f q hlf hf en none 0 0 wy hy (by omega)) wx hx (by omega) (by rw [wrap_in]; exact hk)).mono fun e W' ⟨h1, a', cap', h2, h3⟩ => ⟨h1, q.now, a', cap', h2, h3⟩)
  have HL : Hid (q.lf = false) := hlf
  have HF : Hid (fencedI q.L q.D q.la q.fl ≤ q.now) := hf
  have hd : decide (q.now < wrap64 (q.now + q.L)) = true := by simp; omega
  clear hlf hf hk
  clear hB
  go_enter Try.func4, Try.ntmps4
  go_wp2_with fail
  refine (zzBytes_any _ _ _ _ _ _ _ _ _ _ _ w).mono ?_
  rintro e w0 ⟨he, hw0⟩
  obtain rfl : w = w0 := hw0.symm
  rcases he with rfl | rfl
  case inr =>
    go_wp2
    go_ret
    exact ⟨rfl, Below.refl _ _⟩
  go_wp2_with fail
  refine (newRecords_any q w HB.out).mono ?_
  rintro e W1 ⟨rfl, hR1, hb1⟩
  have HR1 : Hid (Rc q (.map #[] 0) 4 W1) := hR1
  clear hR1
  go_wp2_with fail
  refine (putMember_any q en W1 HR1.out).mono ?_
  rintro e W2 ⟨rfl, hR2, hK2, hb2⟩
  have HR2 : Hid (Rc q (moOf q) 5 W2) := hR2
  have HK2 : Hid (Blk W2 (q.B + 4) (kcells q.nm q.ep q.la q.fl q.lf false en) 62) := hK2
  clear hR2 hK2
  go_wp2_with fail
  refine (newTxn_any q en W2 HR2.out HK2.out).mono ?_
  rintro e W3 ⟨rfl, hS3, hb3⟩
  have HS3 : Hid (St q (moOf q) false en none 0 0 W3) := hS3
  clear hS3
  go_wp2_with fail
  refine (HV.out W3 HS3.out).mono ?_
  rintro e W4 ⟨rfl, en4, a4, cap4, hS4, hb4⟩
  have HS4 : Hid (St q (moOf q) true en4 a4 2 cap4 W4) := hS4
  have hbel : Below q.B w W4 := ((hb1.trans hb2).trans hb3).trans hb4
  clear hS4 hb1 hb2 hb3 hb4
  have hlf := HL.out
  go_wp2_with fail
  refine (zzFenced_any q.L q.D q.la q.fl _).mono ?_
  rintro e W5 ⟨rfl, hb5⟩
  have HS5 : Hid (St q (moOf q) true en4 a4 2 cap4 W5) := HS4.out.later hb5
  have hbel5 : Below q.B w W5 := hbel.trans (hb5.mono (by have := HS4.out.size; omega))
  have hd2 : decide (fencedI q.L q.D q.la q.fl ≤ q.now) = true := by have := HF.out; simp; omega
  go_wp2_with fail
  refine (eventCount_any q (moOf q) true en4 a4 2 cap4 _ HS5.out).mono ?_
  rintro e w5 ⟨rfl, hw5⟩
  obtain rfl : _ = w5 := hw5.symm
  go_wp2_with fail
  refine (hasMember_yes q true en4 a4 2 cap4 _ HS5.out).mono ?_
  rintro e w6 ⟨rfl, hw6⟩
  obtain rfl : _ = w6 := hw6.symm
  go_wp2_with fail
  refine (memberJudged_any q true en4 a4 2 cap4 _ HS5.out).mono ?_
  rintro e w7 ⟨rfl, hw7⟩
  obtain rfl : _ = w7 := hw7.symm
  go_wp2
  go_ret
  exact ⟨rfl, by rw [← HB.out]; exact hbel5⟩

set_option maxRecDepth 100000 in
set_option maxHeartbeats 4000000 in
theorem law_fenced_drop (q : Cn) (en : Int) (w : World) (hB : q.B = w.heap.size) (hz1 : (q.nm.size : Int) ≤ 262144) (hlf : q.lf = false) (hf : fencedI q.L q.D q.la q.fl ≤ q.now) (hk : ¬ q.now < wrap64 (q.now + q.L)) :
    Calls Try.prog 4 #[.int .i64 q.L, .int .i64 q.D, .string q.nm, .int .i64 q.ep, .int .i64 q.la, .int .i64 q.fl, .bool q.lf, .int .i64 en, .string q.nm, .int .i64 q.ep, .int .i64 q.now] w fun e w' => e = .returned (.bool true) ∧ Below w.heap.size w w' := by
  have HB : Hid (q.B = w.heap.size) := hB
  have HV : Hid (∀ wx, St q (moOf q) false en none 0 0 wx → Calls Try.prog 13 #[.pointer (some ⟨q.B + 5, 0, none⟩), .string q.nm, .int .i64 q.ep] wx fun e W' => e = .returned (.tuple #[]) ∧ ∃ en' a cap, St q (.map #[] 1) true en' a 2 cap W' ∧ Below q.B wx W') := fun wx hx => by
    exact verdict_of q q.nm q.ep wx _ ((applyTo_drop q 2 rfl false true en q.now none 0 1 0 (fun wy hy => state_f q hlf hf en none 0 0 wy hy (by omega)) wx hx (by omega) (by rw [wrap_in]; exact hk)).mono fun e W' ⟨h1, a', cap', h2, h3⟩ => ⟨h1, q.now, a', cap', h2, h3⟩)
  have HL : Hid (q.lf = false) := hlf
  have HF : Hid (fencedI q.L q.D q.la q.fl ≤ q.now) := hf
  have hd : decide (q.now < wrap64 (q.now + q.L)) = false := by simp; omega
  clear hlf hf hk
  clear hB
  go_enter Try.func4, Try.ntmps4
  go_wp2_with fail
  refine (zzBytes_any _ _ _ _ _ _ _ _ _ _ _ w).mono ?_
  rintro e w0 ⟨he, hw0⟩
  obtain rfl : w = w0 := hw0.symm
  rcases he with rfl | rfl
  case inr =>
    go_wp2
    go_ret
    exact ⟨rfl, Below.refl _ _⟩
  go_wp2_with fail
  refine (newRecords_any q w HB.out).mono ?_
  rintro e W1 ⟨rfl, hR1, hb1⟩
  have HR1 : Hid (Rc q (.map #[] 0) 4 W1) := hR1
  clear hR1
  go_wp2_with fail
  refine (putMember_any q en W1 HR1.out).mono ?_
  rintro e W2 ⟨rfl, hR2, hK2, hb2⟩
  have HR2 : Hid (Rc q (moOf q) 5 W2) := hR2
  have HK2 : Hid (Blk W2 (q.B + 4) (kcells q.nm q.ep q.la q.fl q.lf false en) 62) := hK2
  clear hR2 hK2
  go_wp2_with fail
  refine (newTxn_any q en W2 HR2.out HK2.out).mono ?_
  rintro e W3 ⟨rfl, hS3, hb3⟩
  have HS3 : Hid (St q (moOf q) false en none 0 0 W3) := hS3
  clear hS3
  go_wp2_with fail
  refine (HV.out W3 HS3.out).mono ?_
  rintro e W4 ⟨rfl, en4, a4, cap4, hS4, hb4⟩
  have HS4 : Hid (St q (.map #[] 1) true en4 a4 2 cap4 W4) := hS4
  have hbel : Below q.B w W4 := ((hb1.trans hb2).trans hb3).trans hb4
  clear hS4 hb1 hb2 hb3 hb4
  have hlf := HL.out
  go_wp2_with fail
  refine (zzFenced_any q.L q.D q.la q.fl _).mono ?_
  rintro e W5 ⟨rfl, hb5⟩
  have HS5 : Hid (St q (.map #[] 1) true en4 a4 2 cap4 W5) := HS4.out.later hb5
  have hbel5 : Below q.B w W5 := hbel.trans (hb5.mono (by have := HS4.out.size; omega))
  have hd2 : decide (fencedI q.L q.D q.la q.fl ≤ q.now) = true := by have := HF.out; simp; omega
  go_wp2_with fail
  refine (eventCount_any q (.map #[] 1) true en4 a4 2 cap4 _ HS5.out).mono ?_
  rintro e w5 ⟨rfl, hw5⟩
  obtain rfl : _ = w5 := hw5.symm
  go_wp2_with fail
  refine (hasMember_no q true en4 a4 2 cap4 _ HS5.out).mono ?_
  rintro e w6 ⟨rfl, hw6⟩
  obtain rfl : _ = w6 := hw6.symm
  go_wp2
  go_ret
  exact ⟨rfl, by rw [← HB.out]; exact hbel5⟩

set_option maxRecDepth 100000 in
set_option maxHeartbeats 4000000 in
/-- the law's own guards -/
theorem law_big (x0 x1 x3 x4 x5 x7 x9 x10 : Int) (x6 : Bool) (nm vn : ByteArray) (w : World) (hz : ¬ (nm.size : Int) ≤ 262144 ∨ ((nm.size : Int) ≤ 262144 ∧ ¬ (vn.size : Int) ≤ 262144)) :
    Calls Try.prog 4 #[.int .i64 x0, .int .i64 x1, .string nm, .int .i64 x3, .int .i64 x4, .int .i64 x5, .bool x6, .int .i64 x7, .string vn, .int .i64 x9, .int .i64 x10] w fun e w' => e = .returned (.bool true) ∧ Below w.heap.size w w' := by
  rcases hz with hz | ⟨hz1, hz⟩
  all_goals
    go_enter Try.func4, Try.ntmps4
    go_wp2_with fail
    refine (zzBytes_any _ _ _ _ _ _ _ _ _ _ _ w).mono ?_
    rintro e w0 ⟨he, hw0⟩
    obtain rfl : w = w0 := hw0.symm
    rcases he with rfl | rfl
    all_goals
      go_wp2
      go_ret
      exact ⟨rfl, Below.refl _ _⟩

/-- every case -/
theorem law_all (L D ep la fl en ve now : Int) (lf : Bool) (nm vn : ByteArray) (w : World) :
    Calls Try.prog 4 #[.int .i64 L, .int .i64 D, .string nm, .int .i64 ep, .int .i64 la, .int .i64 fl, .bool lf, .int .i64 en, .string vn, .int .i64 ve, .int .i64 now] w fun e w' => e = .returned (.bool true) ∧ Below w.heap.size w w' := by
  by_cases hz1 : (nm.size : Int) ≤ 262144
  case neg => exact law_big L D ep la fl en ve now lf nm vn w (.inl hz1)
  by_cases hz2 : (vn.size : Int) ≤ 262144
  case neg => exact law_big L D ep la fl en ve now lf nm vn w (.inr ⟨hz1, hz2⟩)
  by_cases h1 : vn = nm
  case neg => exact law_name ⟨w.heap.size, L, D, ep, la, fl, now, nm, lf⟩ en w rfl hz1 vn ve hz2 h1
  subst h1
  by_cases h2 : ve = ep
  case neg => exact law_epoch ⟨w.heap.size, L, D, ep, la, fl, now, vn, lf⟩ en w rfl hz1 ve h2
  subst h2
  cases lf
  · by_cases h3 : fencedI L D la fl ≤ now
    · by_cases h4 : now < wrap64 (now + L)
      · exact law_fenced_keep ⟨w.heap.size, L, D, ve, la, fl, now, vn, false⟩ en w rfl hz1 rfl h3 h4
      · exact law_fenced_drop ⟨w.heap.size, L, D, ve, la, fl, now, vn, false⟩ en w rfl hz1 rfl h3 h4
    · exact law_held ⟨w.heap.size, L, D, ve, la, fl, now, vn, false⟩ en w rfl hz1 rfl h3
  · by_cases h4 : now < wrap64 (en + L)
    · exact law_left_keep ⟨w.heap.size, L, D, ve, la, fl, now, vn, true⟩ en w rfl hz1 rfl h4
    · exact law_left_drop ⟨w.heap.size, L, D, ve, la, fl, now, vn, true⟩ en w rfl hz1 rfl h4
end Go.Proofs.Qxb6615073a.Vd
