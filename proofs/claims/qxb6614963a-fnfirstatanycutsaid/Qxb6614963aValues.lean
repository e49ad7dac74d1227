/-
  slices.Values over the releases (functions 13, 14): its contract as an iterator ('SeqStopsK' at 'Below'), turned from the kit's worked text for ints to this program's struct of twelve cells.
-/
import Derived.RangeFuncNested
import Derived.RangeFuncBound
import Derived.RangeFuncCalls
import Derived.RangeFuncLeaves
import Derived.Shelf.Abstract
import Derived.Shelf.RegionOpen
import Derived.WalkKit
import Derived.OwnWalkIn
import Derived.TacticsInMore
import Derived.LoopNIn
import Derived.LoopIn
import Derived.Test.Qxb6614963aRows
namespace Go.Proofs.Qxb6614963a.Fst
open Go.RowKit Go.Shelf
attribute [local go_sem] Oper.semAt_some

/-- what has come when k rounds are over -/
def upto (f : Nat → ByteArray × Int) (k : Nat) : List (ByteArray × Int) := (List.range k).map f
theorem upto_succ (f : Nat → ByteArray × Int) (k : Nat) : upto f (k + 1) = upto f k ++ [f k] := by simp [upto, List.range_succ]
theorem upto_length (f : Nat → ByteArray × Int) (k : Nat) : (upto f k).length = k := by simp [upto]

/-- the twelve cells of a release with version x.1 and line x.2, all else zero -/
def RelAt (W : World) (b o : Nat) (x : ByteArray × Int) : Prop :=
  W.cell? ⟨b, o, none⟩ = some (.string x.1) ∧ W.cell? ⟨b, o + 1, none⟩ = some (.slice none 0 0) ∧ W.cell? ⟨b, o + 2, none⟩ = some (.int .i64 x.2) ∧ W.cell? ⟨b, o + 3, none⟩ = some (.slice none 0 0) ∧ W.cell? ⟨b, o + 4, none⟩ = some (.bool false) ∧ W.cell? ⟨b, o + 5, none⟩ = some (.int .i64 0) ∧ W.cell? ⟨b, o + 6, none⟩ = some (.int .u8 0) ∧ W.cell? ⟨b, o + 7, none⟩ = some (.bool false) ∧ W.cell? ⟨b, o + 8, none⟩ = some (.slice none 0 0) ∧ W.cell? ⟨b, o + 9, none⟩ = some (.int .i64 0) ∧ W.cell? ⟨b, o + 10, none⟩ = some (.int .i64 0) ∧ W.cell? ⟨b, o + 11, none⟩ = some (.int .i64 0)
theorem RelAt.below {n₀ : Nat} {A B : World} (h : Below n₀ A B) {b o : Nat} (hb : b < n₀) {x : ByteArray × Int} (r : RelAt A b o x) : RelAt B b o x := by
  unfold RelAt at r ⊢
  have e : ∀ k, B.cell? ⟨b, k, none⟩ = A.cell? ⟨b, k, none⟩ := fun k => h.cell (p := ⟨b, k, none⟩) hb
  simp only [e]; exact r

set_option maxRecDepth 100000 in
set_option maxHeartbeats 2000000 in
theorem values1_in (F : Fence) (n : Nat) (h14 : F.fn 14) (hro : F.round = none) (hn : 1 ≤ n) (l Bs n₀ b off len cap : Nat) (f : Nat → ByteArray × Int) (hreach : len ≤ 1048576) (hb : b < n₀) (J Jx : List (ByteArray × Int) → World → Prop)
    (hY : ∀ pre x W, J pre W → pre.length < len → YieldAt F (n - 1) Try.prog l #[.agg #[.string x.1, .slice none 0 0, .int .i64 x.2, .slice none 0 0, .bool false, .int .i64 0, .int .u8 0, .bool false, .slice none 0 0, .int .i64 0, .int .i64 0, .int .i64 0]] W fun e W' =>
      (e = .returned (.bool true) ∧ J (pre ++ [x]) W' ∧ Below n₀ W W') ∨ (e = .returned (.bool false) ∧ Jx (pre ++ [x]) W'))
    (W : World) (hn₀ : n₀ ≤ W.heap.size) (hJal : ∀ s A o, W.heap.size ≤ A.heap.size → J s A → J s (A.alloc o)) (hBs : W.cell? ⟨Bs, 0, none⟩ = some (.slice (some ⟨b, off, none⟩) len cap)) (hc : ∀ j, j < len → RelAt W b (off + j * 12) (f j)) (h0 : J [] W) :
    CallsIn F n Try.prog 14 #[.func (.yield l) #[] #[], .pointer (some ⟨Bs, 0, none⟩)] W fun e W' => (∃ v, e = .returned v) ∧
      ((∃ ys, ys = upto f len ∧ J ys W') ∨ (∃ pre, (∃ k, k ≤ len ∧ pre = upto f k) ∧ Jx pre W')) := by
  refine callsIn_of_wp Try.func14 rfl h14 ?_ hro
  simp only [Try.ntmps14, List.size_toArray, List.length_cons, List.length_nil, Nat.reduceAdd, Nat.reduceSub, Array.replicate_succ, Array.replicate_zero, List.push_toArray, List.append_toArray, List.nil_append, List.cons_append]
  gi_wp2
  gi_loopw [7] (fun i wr => ∃ k : Nat, k ≤ len ∧ i = .int .i64 k ∧ J (upto f k) wr ∧ Below n₀ W wr ∧ W.heap.size ≤ wr.heap.size)
    (fun i _ => len - (intOf i).toNat)
  case atStart => exact ⟨0, Nat.zero_le _, rfl, h0, Below.refl _ _, Nat.le_refl _⟩
  case round =>
    obtain ⟨k, hk, rfl, hJs, hnx, hsz⟩ := hrel
    by_cases hlt : k < len
    · have hr := (hc k hlt).below hnx hb
      obtain ⟨x, hx⟩ : ∃ x, x = f k := ⟨_, rfl⟩
      rw [← hx] at hr
      have HX : Hid (x = f k) := hx
      clear hx
      unfold RelAt at hr
      obtain ⟨c0, c1, c2, c3, c4, c5, c6, c7, c8, c9, c10, c11⟩ := hr
      obtain ⟨fn, tmps, assign, body, hy, hR⟩ := hY _ x (wr.alloc (.cells #[.string x.1, .slice none 0 0, .int .i64 x.2, .slice none 0 0, .bool false, .int .i64 0, .int .u8 0, .bool false, .slice none 0 0, .int .i64 0, .int .i64 0, .int .i64 0] 30)) (hJal _ _ _ hsz hJs) (by rw [upto_length]; exact hlt)
      clear hY hc hJal
      gi_wp2
      refine hR.mono ?_
      rintro e W3 (⟨rfl, hJ3, hk3⟩ | ⟨rfl, hJx3⟩)
      · gi_wp2
        go_roundw
        case rel => exact ⟨k + 1, by omega, by simp, by rw [upto_succ, ← HX.out]; exact hJ3, (hnx.alloc (by omega) _).trans hk3, by have := hk3.size; simp at this; omega⟩
        case measure => simp [intOf]; omega
      · gi_wp2
        refine bodyPost_ret (results_none rfl _ _ _) rfl ?_
        exact ⟨⟨_, rfl⟩, .inr ⟨_, ⟨k + 1, by omega, by rw [upto_succ, ← HX.out]⟩, hJx3⟩⟩
    · obtain rfl : k = len := by omega
      gi_wp2
      go_end0
      exact ⟨⟨_, rfl⟩, .inl ⟨_, rfl, hJs⟩⟩

set_option maxHeartbeats 1000000 in
theorem values_in (F : Fence) (n : Nat) (h13 : F.fn 13) (hro : F.round = none) (a : Option Addr) (len cap : Nat) (w : World) :
    CallsIn F n Try.prog 13 #[.slice a len cap] w fun e w' => e = .returned (.func (.func 14) #[] #[.pointer (some ⟨w.heap.size, 0, none⟩)]) ∧ w' = w.alloc (.cells #[.slice a len cap] 25) := by
  refine callsIn_of_wp Try.func13 rfl h13 ?_ hro
  simp only [Try.ntmps13, List.size_toArray, List.length_cons, List.length_nil, Nat.reduceAdd, Nat.reduceSub, Array.replicate_succ, Array.replicate_zero, List.push_toArray, List.append_toArray, List.nil_append, List.cons_append]
  gi_wp2
  go_ret
  exact ⟨rfl, rfl⟩

theorem values_stops (F : Fence) (n : Nat) (h14 : F.fn 14) (hro : F.round = none) (hn : 1 ≤ n) (Bs n₀ b off len cap : Nat) (f : Nat → ByteArray × Int) (hreach : len ≤ 1048576) (w : World) (hBs : Bs < w.heap.size) (hn₀ : n₀ ≤ w.heap.size) (hb : b < n₀)
    (hcs : w.cell? ⟨Bs, 0, none⟩ = some (.slice (some ⟨b, off, none⟩) len cap)) (hc : ∀ j, j < len → RelAt w b (off + j * 12) (f j)) :
    SeqStopsK F n Try.prog 14 #[.pointer (some ⟨Bs, 0, none⟩)] (fun x : ByteArray × Int => #[.agg #[.string x.1, .slice none 0 0, .int .i64 x.2, .slice none 0 0, .bool false, .int .i64 0, .int .u8 0, .bool false, .slice none 0 0, .int .i64 0, .int .i64 0, .int .i64 0]]) (Below n₀) (fun ys => ys = upto f len) (fun pre => ∃ k, k ≤ len ∧ pre = upto f k) len w := fun l J Jx W hW hJ _ hY h0 => by
  have hc' := (hW.cell (p := ⟨Bs, 0, none⟩) hBs).trans hcs
  refine values1_in F n h14 hro hn l Bs n₀ b off len cap f hreach hb J Jx hY W (Nat.le_trans hn₀ hW.size) (fun s A o _ hs => hJ s A _ none hs (World.grownBy_alloc A o none) (fun r e => by cases e)) hc' (fun j hj => (hc j hj).below hW (by omega)) h0
end Go.Proofs.Qxb6614963a.Fst
