/-
  FnVerdict..: contracts of find (24), rolesOf (27), prune (29), handsOnAt (30), slices.ContainsFunc (32) where there is nothing to go over.
-/
import Derived.Test.Qxb6615073aVdEmit
import Derived.LoopTactic
namespace Go.Proofs.Qxb6615073a.Vd
open Go.RowKit

/-- the members' map as it was laid -/
def moOf (q : Cn) : Obj := .map (one q.nm (.pointer (some ⟨q.B + 4, 0, none⟩))) 1

set_option maxRecDepth 100000 in
theorem find_hit (q : Cn) (j : Bool) (en : Int) (a : Option Addr) (n cap : Nat) (W : World) (h : St q (moOf q) j en a n cap W) :
    Calls Try.prog 24 #[.pointer (some ⟨q.B + 3, 0, none⟩), .string q.nm, .int .i64 q.ep] W fun e W' => e = .returned (.pointer (some ⟨q.B + 4, 0, none⟩)) ∧ W' = W := by
  have hc := h.c.cell
  have hk := h.k.cell
  have hl := look_hit _ _ _ h.m
  unfold ccells at hc
  unfold kcells at hk
  clear h
  go_enter Try.func24, Try.ntmps24
  go_wp2
  go_ret
  exact ⟨rfl, rfl⟩

set_option maxRecDepth 100000 in
theorem find_other (q : Cn) (j : Bool) (en : Int) (a : Option Addr) (n cap : Nat) (W : World) (h : St q (moOf q) j en a n cap W) (nm : ByteArray) (ep : Int) (hne : ¬ nm = q.nm) :
    Calls Try.prog 24 #[.pointer (some ⟨q.B + 3, 0, none⟩), .string nm, .int .i64 ep] W fun e W' => e = .returned (.pointer none) ∧ W' = W := by
  have hc := h.c.cell
  have hk := h.k.cell
  have hl := look_miss nm _ _ _ hne h.m
  have hr := look_replaced ep _ h.p
  unfold ccells at hc
  unfold kcells at hk
  clear h hne
  go_enter Try.func24, Try.ntmps24
  go_wp2
  go_ret
  exact ⟨rfl, rfl⟩

set_option maxRecDepth 100000 in
theorem find_elder (q : Cn) (j : Bool) (en : Int) (a : Option Addr) (n cap : Nat) (W : World) (h : St q (moOf q) j en a n cap W) (ep : Int) (hne : ¬ ep = q.ep) :
    Calls Try.prog 24 #[.pointer (some ⟨q.B + 3, 0, none⟩), .string q.nm, .int .i64 ep] W fun e W' => e = .returned (.pointer none) ∧ W' = W := by
  have hc := h.c.cell
  have hk := h.k.cell
  have hl := look_hit _ _ _ h.m
  have hr := look_replaced ep _ h.p
  have he : (q.ep == ep) = false := by simp; omega
  unfold ccells at hc
  unfold kcells at hk
  clear h hne
  go_enter Try.func24, Try.ntmps24
  go_wp2
  go_ret
  exact ⟨rfl, rfl⟩

/-- nothing is left in an empty map -/
theorem next_none (W : World) (b : Nat) (ty : TypeId) (h : W.heap[b]? = some (.map #[] 0)) :
    (Instr.next (.pointer (some ⟨W.heap.size, 0, none⟩)) false ty).run Try.prog (W.alloc (.mapIter (some b) 0 #[] 0)) = .ok (.tuple #[.bool false]) (W.alloc (.mapIter (some b) 0 #[] 0)) := by
  rcases run_next_map (P := Try.prog) W ty b 0 0 #[] #[] 0 h (by simp) (Nat.le_refl _) with ⟨_, h1⟩ | ⟨e, he, _⟩
  · exact h1
  · simp [leftOf] at he

set_option maxRecDepth 100000 in
theorem rolesOf_none (q : Cn) (mo : Obj) (j : Bool) (en : Int) (a : Option Addr) (n cap : Nat) (W : World) (h : St q mo j en a n cap W) (m : Option Addr) :
    Calls Try.prog 27 #[.pointer (some ⟨q.B + 3, 0, none⟩), .pointer m] W fun e W' => e = .returned (.slice none 0 0) ∧ Below W.heap.size W W' := by
  have hc := h.c.cell
  have hrg := run_range_map (P := Try.prog) W 53 9 22 (q.B + 1) #[] 0 Try.underlying53 h.r
  have hnx := fun ty => next_none W (q.B + 1) ty h.r
  unfold ccells at hc
  clear h
  go_enter Try.func27, Try.ntmps27
  go_wp2
  go_loop [5] (fun v => v = .slice none 0 0) (fun _ => 0)
  case atStart => rfl
  case round =>
    obtain rfl := hrel
    go_wp2
    go_ret
    exact ⟨rfl, (Below.refl _ _).alloc (Nat.le_refl _) _⟩

set_option maxRecDepth 100000 in
theorem prune_none (t : Option Addr) (W : World) :
    Calls Try.prog 29 #[.pointer t, .slice none 0 0] W fun e W' => e = .returned (.tuple #[]) ∧ W' = W := by
  go_enter Try.func29, Try.ntmps29
  go_wp2
  go_loop [13] (fun i => i = .int .i64 0) (fun _ => 0)
  case atStart => rfl
  case round =>
    obtain rfl := hrel
    go_wp2
    go_end0
    exact ⟨rfl, rfl⟩

set_option maxRecDepth 100000 in
theorem handsOnAt_none (q : Cn) (mo : Obj) (j : Bool) (en : Int) (a : Option Addr) (n cap : Nat) (W : World) (h : St q mo j en a n cap W) (m : Option Addr) :
    Calls Try.prog 30 #[.pointer (some ⟨q.B + 5, 0, none⟩), .pointer m] W fun e W' => e = .returned (.tuple #[.int .i64 0, .bool false]) ∧ Below W.heap.size W W' := by
  have ht := h.t.cell
  have HS : Hid (St q mo j en a n cap W) := h
  unfold tcells at ht
  clear h
  go_enter Try.func30, Try.ntmps30
  go_wp2_with fail
  refine (rolesOf_none q mo j en a n cap W HS.out m).mono ?_
  rintro e W' ⟨rfl, hb⟩
  go_wp2
  go_loop [16, 4, 5] (fun i x y => i = .int .i64 0 ∧ x = .int .i64 0 ∧ y = .bool false) (fun _ _ _ => 0)
  case atStart => exact ⟨rfl, rfl, rfl⟩
  case round =>
    obtain ⟨rfl, rfl, rfl⟩ := hrel
    go_wp2
    go_ret2
    exact ⟨rfl, hb⟩

set_option maxRecDepth 100000 in
theorem indexFunc_none (f : Value) (W : World) :
    Calls Try.prog 43 #[.slice none 0 0, f] W fun e W' => e = .returned (.int .i64 (-1)) ∧ W' = W := by
  go_enter Try.func43, Try.ntmps43
  go_wp2
  go_loop [8] (fun i => i = .int .i64 0) (fun _ => 0)
  case atStart => rfl
  case round =>
    obtain rfl := hrel
    go_wp2
    go_ret
    exact ⟨rfl, rfl⟩

theorem containsFunc_none (f : Value) (W : World) :
    Calls Try.prog 32 #[.slice none 0 0, f] W fun e W' => e = .returned (.bool false) ∧ W' = W := by
  go_enter Try.func32, Try.ntmps32
  go_wp2_with fail
  refine (indexFunc_none f W).mono ?_
  rintro e W' ⟨rfl, rfl⟩
  go_wp2
  go_ret
  exact ⟨rfl, rfl⟩
end Go.Proofs.Qxb6615073a.Vd
