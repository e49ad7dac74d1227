/-
  FnVerdict..: the contracts of Verdict.applyTo (20): the verdict names another lease; the lease is not over.
-/
import Derived.Test.Qxb6615073aVdState
namespace Go.Proofs.Qxb6615073a.Vd
open Go.RowKit

/-- the two boxes that applyTo lays for its parameters, behind whatever draws -/
theorem boxes {q : Cn} {mo : Obj} {j : Bool} {en : Int} {a : Option Addr} {n cap : Nat} {W : World} (h : St q mo j en a n cap W) (nm : ByteArray) (ep : Int) (k : Nat) :
    St q mo j en a n cap (((W.alloc (.cells #[.string nm, .int .i64 ep] 77)).alloc (.cells #[.pointer (some ⟨q.B + 5, 0, none⟩)] 33)).drewN k) ∧
    Blk (((W.alloc (.cells #[.string nm, .int .i64 ep] 77)).alloc (.cells #[.pointer (some ⟨q.B + 5, 0, none⟩)] 33)).drewN k) (W.heap.size + 1) #[.pointer (some ⟨q.B + 5, 0, none⟩)] 33 ∧
    Below q.B W (((W.alloc (.cells #[.string nm, .int .i64 ep] 77)).alloc (.cells #[.pointer (some ⟨q.B + 5, 0, none⟩)] 33)).drewN k) := by
  have hs := h.size
  refine ⟨((h.alloc _).alloc _).drewN k, ?_, drewN_below (((Below.refl _ _).alloc (by omega) _).alloc (by simp; omega) _) k⟩
  have := (heap_alloc_new (W.alloc (.cells #[.string nm, .int .i64 ep] 77)) (.cells #[.pointer (some ⟨q.B + 5, 0, none⟩)] 33))
  rw [World.size_alloc] at this
  exact this

set_option maxRecDepth 100000 in
set_option maxHeartbeats 4000000 in
theorem applyTo_none (q : Cn) (j : Bool) (en : Int) (a : Option Addr) (n cap : Nat) (W : World) (h : St q (moOf q) j en a n cap W) (nm : ByteArray) (ep : Int) (hne : ¬ nm = q.nm ∨ ¬ ep = q.ep) :
    Calls Try.prog 20 #[.agg #[.string nm, .int .i64 ep], .pointer (some ⟨q.B + 5, 0, none⟩)] W fun e W' => e = .returned (.tuple #[]) ∧ St q (moOf q) j en a n cap W' ∧ Below q.B W W' := by
  have F : ∀ wx, St q (moOf q) j en a n cap wx → Calls Try.prog 24 #[.pointer (some ⟨q.B + 3, 0, none⟩), .string nm, .int .i64 ep] wx fun e W' => e = .returned (.pointer none) ∧ W' = wx := fun wx hx => by
    by_cases h1 : nm = q.nm
    · subst h1
      exact find_elder q j en a n cap wx hx ep (hne.resolve_left (fun h => h rfl))
    · exact find_other q j en a n cap wx hx nm ep h1
  have HF : Hid (∀ wx, St q (moOf q) j en a n cap wx → Calls Try.prog 24 #[.pointer (some ⟨q.B + 3, 0, none⟩), .string nm, .int .i64 ep] wx fun e W' => e = .returned (.pointer none) ∧ W' = wx) := F
  have HS : Hid (St q (moOf q) j en a n cap W) := h
  have hs := h.size
  have t0 := h.cells.1
  have l1 : q.B + 5 < W.heap.size := by omega
  have l2 : q.B + 5 < W.heap.size + 1 := by omega
  clear h F hne
  go_enter Try.func20, Try.ntmps20
  go_wp2_with fail
  go_quiet ((go_at_call 24; exact Calls.quiet_of_same (HF.out _ (boxes HS.out nm ep _).1)))
  go_wp2
  refine bodyPost_ret (results_none rfl _ _ _) rfl ?_
  exact ⟨rfl, (boxes HS.out nm ep _).1, (boxes HS.out nm ep _).2.2⟩

set_option maxRecDepth 100000 in
set_option maxHeartbeats 4000000 in
theorem applyTo_held (q : Cn) (hlf : q.lf = false) (hf : ¬ fencedI q.L q.D q.la q.fl ≤ q.now) (j : Bool) (en : Int) (a : Option Addr) (n cap : Nat) (W : World) (h : St q (moOf q) j en a n cap W) (hn : n ≤ 10) :
    Calls Try.prog 20 #[.agg #[.string q.nm, .int .i64 q.ep], .pointer (some ⟨q.B + 5, 0, none⟩)] W fun e W' => e = .returned (.tuple #[]) ∧ ∃ a' cap', St q (moOf q) j en a' (n + 1) cap' W' ∧ Below q.B W W' := by
  have HS : Hid (St q (moOf q) j en a n cap W) := h
  have HF : Hid (¬ fencedI q.L q.D q.la q.fl ≤ q.now) := hf
  have HL : Hid (q.lf = false) := hlf
  have hs := h.size
  have t0 := h.cells.1
  have l1 : q.B + 5 < W.heap.size := by omega
  have l2 : q.B + 5 < W.heap.size + 1 := by omega
  clear h hf hlf
  go_enter Try.func20, Try.ntmps20
  go_wp2_with fail
  go_quiet ((go_at_call 24; exact Calls.quiet_of_same (find_hit q j en a n cap _ (boxes HS.out q.nm q.ep _).1)))
  have hx := boxes HS.out q.nm q.ep nq
  revert hx
  generalize ((W.alloc (.cells #[.string q.nm, .int .i64 q.ep] 77)).alloc (.cells #[.pointer (some ⟨q.B + 5, 0, none⟩)] 33)).drewN nq = W1
  rintro ⟨hS1, hT1, hB1⟩
  have HS1 : Hid (St q (moOf q) j en a n cap W1) := hS1
  have HT1 : Hid (Blk W1 (W.heap.size + 1) #[.pointer (some ⟨q.B + 5, 0, none⟩)] 33) := hT1
  have tb := hT1.cell 0
  clear hS1 hT1 t0 l1 l2
  go_wp2_with fail
  refine (state_h q HL.out (by have := HF.out; omega) (moOf q) j en a n cap W1 HS1.out).mono ?_
  rintro e w2 ⟨he, hb2⟩
  obtain ⟨s, hs2, rfl⟩ : ∃ s : Int, (s == 2 || s == 3) = false ∧ e = .returned (.int .i64 s) := by
    rcases he with rfl | rfl
    · exact ⟨1, rfl, rfl⟩
    · exact ⟨0, rfl, rfl⟩
  have HX : Hid ((s == 2 || s == 3) = false) := hs2
  clear hs2 he tb
  have hT2 := K33.later hb2 _ _ HT1.out
  have tb := hT2.cell 0
  clear hT2
  go_wp2_with fail
  refine (over_any s w2).mono ?_
  rintro e w' ⟨rfl, rfl⟩
  rw [HX.out]
  go_wp2_with fail
  refine (watch_any q (moOf q) j en a n cap _ (HS1.out.later hb2) hn).mono ?_
  rintro e w3 ⟨rfl, a', cap', hS3, hb3, hq3⟩
  have HS3 : Hid (St q (moOf q) j en a' (n + 1) cap' w3) := hS3
  clear hS3 hq3 tb
  go_wp2
  refine bodyPost_ret (results_none rfl _ _ _) rfl ?_
  exact ⟨rfl, a', cap', HS3.out, (hB1.trans (hb2.mono (by have := HS1.out.size; omega))).trans hb3⟩
end Go.Proofs.Qxb6615073a.Vd
