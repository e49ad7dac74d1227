/-
  FnVerdict..: the contract of watch (26): one event more, nothing else.
-/
import Derived.Test.Qxb6615073aVdFind
import Derived.Deep.RegionHeld3
namespace Go.Proofs.Qxb6615073a.Vd
open Go.RowKit

section
variable {q : Cn} {mo : Obj} {j : Bool} {en : Int} {a : Option Addr} {n cap : Nat} {W W' : World}
theorem St.drew (h : St q mo j en a n cap W) : St q mo j en a n cap W.drew := h.grown ⟨rfl, rfl, rfl, Nat.le_refl _, fun _ _ _ => rfl⟩
theorem St.drewN (h : St q mo j en a n cap W) (k : Nat) : St q mo j en a n cap (W.drewN k) := h.grown ⟨rfl, rfl, rfl, Nat.le_refl _, fun _ _ _ => rfl⟩
/-- the cells that are read -/
def Cells (q : Cn) (w : World) : Prop :=
  w.cell? ⟨q.B + 5, 0, none⟩ = some (.pointer (some ⟨q.B + 3, 0, none⟩)) ∧ w.cell? ⟨q.B + 5, 1, none⟩ = some (.int .i64 q.now) ∧
  w.cell? ⟨q.B + 3, 0, none⟩ = some (.int .i64 q.L) ∧ w.cell? ⟨q.B + 3, 1, none⟩ = some (.int .i64 q.D) ∧
  w.cell? ⟨q.B + 4, 0, none⟩ = some (.string q.nm) ∧ w.cell? ⟨q.B + 4, 1, none⟩ = some (.int .i64 q.ep) ∧ w.cell? ⟨q.B + 4, 2, none⟩ = some (.int .i64 q.la) ∧
  w.cell? ⟨q.B + 4, 3, none⟩ = some (.int .i64 q.fl) ∧ w.cell? ⟨q.B + 4, 4, none⟩ = some (.bool q.lf)
theorem St.cells (h : St q mo j en a n cap W) : Cells q W :=
  ⟨h.t.cell 0, h.t.cell 1, h.c.cell 0, h.c.cell 1, h.k.cell 0, h.k.cell 1, h.k.cell 2, h.k.cell 3, h.k.cell 4⟩
end

set_option maxRecDepth 100000 in
set_option maxHeartbeats 4000000 in
theorem watch_any (q : Cn) (mo : Obj) (j : Bool) (en : Int) (a : Option Addr) (n cap : Nat) (W : World) (h : St q mo j en a n cap W) (hn : n ≤ 10) :
    Calls Try.prog 26 #[.pointer (some ⟨q.B + 5, 0, none⟩), .pointer (some ⟨q.B + 4, 0, none⟩)] W fun e W' => e = .returned (.tuple #[]) ∧ ∃ a' cap', St q mo j en a' (n + 1) cap' W' ∧ Below q.B W W' ∧ K33 W W' := by
  have HS : Hid (St q mo j en a n cap W) := h
  have hs := h.size
  obtain ⟨t0, t1, c0, c1, k0, k1, k2, k3, k4⟩ := h.cells
  clear h
  go_enter Try.func26, Try.ntmps26
  go_region_held3 (fun w' => w'.cell? ⟨q.B + 5, 0, none⟩ = some (.pointer (some ⟨q.B + 3, 0, none⟩)) ∧ w'.cell? ⟨q.B + 3, 0, none⟩ = some (.int .i64 q.L) ∧ w'.cell? ⟨q.B + 3, 1, none⟩ = some (.int .i64 q.D) ∧
      w'.cell? ⟨q.B + 4, 0, none⟩ = some (.string q.nm) ∧ w'.cell? ⟨q.B + 4, 1, none⟩ = some (.int .i64 q.ep) ∧ w'.cell? ⟨q.B + 4, 2, none⟩ = some (.int .i64 q.la) ∧
      w'.cell? ⟨q.B + 4, 3, none⟩ = some (.int .i64 q.fl) ∧ w'.cell? ⟨q.B + 4, 4, none⟩ = some (.bool q.lf)) (go_keep)
    (first
      | (go_at_call 19; refine (fenced_any q.L q.D q.ep q.la q.fl q.lf _).mono ?_; rintro e w1 ⟨rfl, hb1⟩; obtain ⟨s0, s1, d0, d1, e0, e1, e2, e3, e4⟩ := (HS.out.drew.later hb1).cells)
      | (go_at_call 31; refine (emit_any q mo j en a n cap _ _ _ (HS.out.drew.later hb1) hn).mono ?_; rintro e w2 ⟨rfl, a', cap', hS2, hb2, hq2⟩; have HQ2 : Hid (K33 w1 w2) := hq2; clear hq2; have HS2 : Hid (St q mo j en a' (n + 1) cap' w2) := hS2; clear hS2; obtain ⟨r0, r1, p0, p1, i0, i1, i2, i3, i4⟩ := HS2.out.cells))
  go_end0
  exact ⟨rfl, _, _, HS2.out, ((Below.refl q.B W).drew.trans (hb1.mono (by show q.B ≤ W.heap.size; omega))).trans hb2, ((K33.drew W).trans (K33.later hb1)).trans HQ2.out⟩
end Go.Proofs.Qxb6615073a.Vd
