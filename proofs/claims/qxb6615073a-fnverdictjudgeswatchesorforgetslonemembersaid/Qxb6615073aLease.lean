/-
  CONTRACTS of package lease: Drift.Of (23), RenewInterval (21), State.Over (22), Rule.FencedAt (19), Rule.State (17).
-/
import Derived.Test.Qxb6615073aRows
import Derived.WalkKit
import Derived.WalkSpells
import Derived.Deep.QuietTactic
import Derived.BigQuiet
namespace Go.Proofs.Qxb6615073a
open Go.RowKit

/-- what Drift.Of gives, wraps and all -/
def driftOf (d s : Int) : Int := wrap64 (wrap64 (wrap64 (s.tdiv 1000000) * d) + wrap64 ((wrap64 (s.tmod 1000000 * d)).tdiv 1000000))
theorem of_any (d s : Int) (w : World) :
    Calls Try.prog 23 #[.int .i64 d, .int .i64 s] w fun e w' => e = .returned (.int .i64 (driftOf d s)) ∧ w' = w := by
  go_enter Try.func23, Try.ntmps23
  go_wp2
  go_ret
  exact ⟨rfl, rfl⟩
theorem renew_any (s : Int) (w : World) :
    Calls Try.prog 21 #[.int .i64 s] w fun e w' => e = .returned (.int .i64 (wrap64 (s.tdiv 3))) ∧ w' = w := by
  go_enter Try.func21, Try.ntmps21
  go_wp2
  go_ret
  exact ⟨rfl, rfl⟩
theorem over_any (s : Int) (w : World) :
    Calls Try.prog 22 #[.int .i64 s] w fun e w' => e = .returned (.bool (s == 2 || s == 3)) ∧ w' = w := by
  cases h2 : (s == 2)
  · go_enter Try.func22, Try.ntmps22
    go_wp2
    go_ret
    exact ⟨rfl, rfl⟩
  · go_enter Try.func22, Try.ntmps22
    go_wp2
    go_ret
    exact ⟨rfl, rfl⟩

/-- the moment from which a lease is certainly over -/
def fencedI (L D la fl : Int) : Int := if wrap64 (wrap64 (la + L) + driftOf D L) < fl then fl else wrap64 (wrap64 (la + L) + driftOf D L)

theorem drewN_below {B : Nat} {a w : World} (h : Below B a w) (n : Nat) : Below B a (w.drewN n) := h.trans ⟨rfl, rfl, rfl, Nat.le_refl _, fun _ _ => rfl⟩

set_option maxRecDepth 100000 in
set_option maxHeartbeats 1000000 in
theorem fenced_any (L D ep la fl : Int) (lf : Bool) (w : World) :
    Calls Try.prog 19 #[.agg #[.int .i64 L, .int .i64 D], .agg #[.int .i64 ep, .int .i64 la, .int .i64 fl, .bool lf]] w fun e w' => e = .returned (.int .i64 (fencedI L D la fl)) ∧ Below w.heap.size w w' := by
  go_enter Try.func19, Try.ntmps19
  go_wp2_with fail
  go_quiet ((go_at_call 23; exact Calls.quiet_of_same (of_any _ _ _)))
  refine ‹∀ (a : Act) (w : World), Code.wp Try.prog Code.ret _ a w → _› _ _ ?_
  have hf : (if wrap64 (wrap64 (la + L) + driftOf D L) < fl then fl else wrap64 (wrap64 (la + L) + driftOf D L)) = fencedI L D la fl := rfl
  rw [hf]
  clear hf
  go_wp2
  go_ret
  exact ⟨rfl, drewN_below (((Below.refl _ _).alloc (Nat.le_refl _) _).alloc (by simp) _) _⟩

set_option maxRecDepth 100000 in
set_option maxHeartbeats 1000000 in
/-- a member that has left: Left -/
theorem state_left (L D ep la fl now : Int) (w : World) :
    Calls Try.prog 17 #[.agg #[.int .i64 L, .int .i64 D], .agg #[.int .i64 ep, .int .i64 la, .int .i64 fl, .bool true], .int .i64 now] w fun e w' => e = .returned (.int .i64 3) ∧ Below w.heap.size w w' := by
  go_enter Try.func17, Try.ntmps17
  go_wp2
  go_ret
  exact ⟨rfl, ((Below.refl _ _).alloc (Nat.le_refl _) _).alloc (by simp) _⟩

theorem two_boxes {w w1 : World} {cs ds : Array Value} {s t : TypeId} (h : Below ((w.alloc (.cells cs s)).alloc (.cells ds t)).heap.size ((w.alloc (.cells cs s)).alloc (.cells ds t)) w1) :
    (∀ i, w1.cell? ⟨w.heap.size, i, none⟩ = cs[i]?) ∧ (∀ i, w1.cell? ⟨w.heap.size + 1, i, none⟩ = ds[i]?) ∧ Below w.heap.size w w1 := by
  refine ⟨fun i => ?_, fun i => ?_, (((Below.refl _ _).alloc (Nat.le_refl _) _).alloc (by simp) _).trans (h.mono (by simp; omega))⟩
  · rw [h.cell (p := ⟨w.heap.size, i, none⟩) (by simp; omega), World.cell?_alloc_past _ _ _ (by simp), World.cell?_alloc_at _ _ _ _ rfl]
  · rw [h.cell (p := ⟨w.heap.size + 1, i, none⟩) (by simp), World.cell?_alloc_at _ _ _ _ (by simp)]

set_option maxRecDepth 100000 in
set_option maxHeartbeats 1000000 in
/-- from the fencing moment on: Fenced -/
theorem state_fenced (L D ep la fl now : Int) (h : fencedI L D la fl ≤ now) (w : World) :
    Calls Try.prog 17 #[.agg #[.int .i64 L, .int .i64 D], .agg #[.int .i64 ep, .int .i64 la, .int .i64 fl, .bool false], .int .i64 now] w fun e w' => e = .returned (.int .i64 2) ∧ Below w.heap.size w w' := by
  go_enter Try.func17, Try.ntmps17
  go_wp2_with fail
  refine (fenced_any L D ep la fl false _).mono ?_
  rintro e w1 ⟨rfl, hb⟩
  obtain ⟨h1, h2, h3⟩ := two_boxes hb
  clear hb
  go_wp2
  go_ret
  exact ⟨rfl, h3⟩

set_option maxRecDepth 100000 in
set_option maxHeartbeats 1000000 in
/-- before it: Silent or Valid -/
theorem state_held (L D ep la fl now : Int) (h : ¬ fencedI L D la fl ≤ now) (w : World) :
    Calls Try.prog 17 #[.agg #[.int .i64 L, .int .i64 D], .agg #[.int .i64 ep, .int .i64 la, .int .i64 fl, .bool false], .int .i64 now] w fun e w' => (e = .returned (.int .i64 1) ∨ e = .returned (.int .i64 0)) ∧ Below w.heap.size w w' := by
  go_enter Try.func17, Try.ntmps17
  go_wp2_with fail
  refine (fenced_any L D ep la fl false _).mono ?_
  rintro e w1 ⟨rfl, hb⟩
  obtain ⟨h1, h2, h3⟩ := two_boxes hb
  clear hb
  go_wp2_with fail
  go_quiet ((go_at_call 21; exact Calls.quiet_of_same (renew_any _ _)))
  go_wp2
  · go_ret
    exact ⟨.inl rfl, drewN_below h3 _⟩
  · go_ret
    exact ⟨.inr rfl, drewN_below h3 _⟩
end Go.Proofs.Qxb6615073a
