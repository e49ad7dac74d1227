/-
  FnVerdict..: the contracts of txn.state (25).
-/
import Derived.Test.Qxb6615073aVdWatch
import Derived.StillTailTactics
import Derived.Lib.Builder
namespace Go.Proofs.Qxb6615073a.Vd
open Go.RowKit

theorem mixed : Try.prog.follows .mixedOrders = true := by kernel_rfl

/-- an operation whose guard says no is passed over: its slot, empty till now, stays so -/
theorem still_skip {P : Program} {ops : Array Oper} {w : World} {Q : Act → Prop} {a : Act} {o : Oper} {rest : List Oper} {d : Nat} (hd : o.dst = some d) (hu : a.tmps[d]? = some undef)
    (hw : Region.wanted o (yielded ops a.tmps) = false) (h : wpStill P ops w Q rest a) : wpStill P ops w Q (o :: rest) a := by
  refine wpStill_step (fun K hK => ?_)
  rw [if_neg (by rw [hw]; exact Bool.false_ne_true)]
  refine hK _ ?_
  have e : a.put o.dst undef = a := by
    obtain ⟨hlt, he⟩ := Array.getElem?_eq_some_iff.1 hu
    rw [hd]
    unfold Act.put
    have : a.tmps.setIfInBounds d undef = a.tmps := by
      rw [← he]; simp [Array.setIfInBounds, hlt]
    simp [this]
  rw [e]; exact h

theorem there62 : (Try.prog.info? 62).isSome = true := by kernel_rfl
/-- 'm != m' at one address -/
theorem ptr_same (a : Addr) (w : World) : (binOp .neq 39 (.pointer (some a)) (.pointer (some a))).run Try.prog w = .ok (.bool false) w := by
  obtain ⟨i, hi⟩ := Option.isSome_iff_exists.1 there62
  exact Lib.run_neq_ptr_same w a Try.underlying39 hi

theorem guard_ptr (t : TypeId) (x y : Operand) (p r : Option Addr) : eqGuard .neq t x y (.pointer p) (.pointer r) = pure () := rfl
theorem run_neq_same {ρ : Operand → Value} {o : Oper} {x y : Operand} {p : Addr} (ho : o.op = .binOp .neq 39 x y 39) (ha : ρ x = .pointer (some p)) (hb : ρ y = .pointer (some p)) (w : World) :
    (execOp ρ o).run Try.prog w = .ok (.value (.bool false)) w := by
  have hg : eqGuard .neq 39 x y (.pointer (some p)) (.pointer (some p)) = pure () := rfl
  unfold execOp
  rw [ho]
  simp only [ha, hb, hg]
  simp [ptr_same]
/-- 'm != m' at one address, as an operation of a head that stands still -/
theorem still_neq {ops : Array Oper} {w : World} {Q : Act → Prop} {a : Act} {o : Oper} {rest : List Oper} {x y : Operand} {p : Addr} (ho : o.op = .binOp .neq 39 x y 39) (ha : a.eval x = .pointer (some p)) (hb : a.eval y = .pointer (some p))
    (hw : Region.wanted o (yielded ops a.tmps) = true) (h : wpStill Try.prog ops w Q rest (a.put o.dst (.bool false))) : wpStill Try.prog ops w Q (o :: rest) a := by
  refine wpStill_step (fun K hK => ?_)
  rw [if_pos hw]
  unfold Oper.still
  rw [run_neq_same ho ha hb w, Oper.stillUpon_value]
  exact hK _ h

set_option maxRecDepth 100000 in
set_option maxHeartbeats 4000000 in
theorem state_l (q : Cn) (hlf : q.lf = true) (mo : Obj) (j : Bool) (en : Int) (a : Option Addr) (n cap : Nat) (W : World) (h : St q mo j en a n cap W) :
    Calls Try.prog 25 #[.pointer (some ⟨q.B + 5, 0, none⟩), .pointer (some ⟨q.B + 4, 0, none⟩)] W fun e W' => e = .returned (.int .i64 3) ∧ Below W.heap.size W W' := by
  obtain ⟨t0, t1, c0, c1, k0, k1, k2, k3, k4⟩ := h.cells
  rw [hlf] at k4
  clear h hlf
  go_enter Try.func25, Try.ntmps25
  go_wp2_with fail
  go_still_tail 15, mixed
  go_wp2_with fail
  refine (state_left q.L q.D q.ep q.la q.fl q.now _).mono ?_
  rintro e w1 ⟨rfl, hb1⟩
  clear t0 t1 c0 c1 k0 k1 k2 k3 k4
  go_wp2
  go_ret
  exact ⟨rfl, (Below.refl _ W).drew.trans hb1⟩

set_option maxRecDepth 100000 in
set_option maxHeartbeats 4000000 in
theorem state_h (q : Cn) (hlf : q.lf = false) (hf : ¬ fencedI q.L q.D q.la q.fl ≤ q.now) (mo : Obj) (j : Bool) (en : Int) (a : Option Addr) (n cap : Nat) (W : World) (h : St q mo j en a n cap W) :
    Calls Try.prog 25 #[.pointer (some ⟨q.B + 5, 0, none⟩), .pointer (some ⟨q.B + 4, 0, none⟩)] W fun e W' => (e = .returned (.int .i64 1) ∨ e = .returned (.int .i64 0)) ∧ Below W.heap.size W W' := by
  obtain ⟨t0, t1, c0, c1, k0, k1, k2, k3, k4⟩ := h.cells
  rw [hlf] at k4
  have HF : Hid (¬ fencedI q.L q.D q.la q.fl ≤ q.now) := hf
  clear h hlf hf
  go_enter Try.func25, Try.ntmps25
  go_wp2_with fail
  go_still_tail 15, mixed
  go_wp2_with fail
  refine (state_held q.L q.D q.ep q.la q.fl q.now (by have := HF.out; omega) _).mono ?_
  rintro e w1 ⟨rfl | rfl, hb1⟩
  all_goals
    clear t0 t1 c0 c1 k0 k1 k2 k3 k4
    go_wp2
    go_ret
  · exact ⟨.inl rfl, (Below.refl _ W).drew.trans hb1⟩
  · exact ⟨.inr rfl, (Below.refl _ W).drew.trans hb1⟩

attribute [local go_sem] guard_ptr ptr_same

theorem ne62 {W : World} {k b : Nat} {cs ds : Array Value} (h : Blk W k cs 33) (g : Blk W b ds 62) : k ≠ b := fun e => by
  subst e
  have := h.symm.trans g
  simp at this

/-- the verdict is written into the member -/
theorem St.judged {q : Cn} {mo : Obj} {j : Bool} {en : Int} {a : Option Addr} {n cap : Nat} {W : World} (h : St q mo j en a n cap W) (now : Int) :
    St q mo true now a n cap (((W.setCell ⟨q.B + 4, 9, none⟩ (.bool true)).setCell ⟨q.B + 4, 10, none⟩ (.int .i64 now)).setCell ⟨q.B + 4, 7, none⟩ (.slice none 0 0)) ∧
    Below q.B W (((W.setCell ⟨q.B + 4, 9, none⟩ (.bool true)).setCell ⟨q.B + 4, 10, none⟩ (.int .i64 now)).setCell ⟨q.B + 4, 7, none⟩ (.slice none 0 0)) ∧
    K33 W (((W.setCell ⟨q.B + 4, 9, none⟩ (.bool true)).setCell ⟨q.B + 4, 10, none⟩ (.int .i64 now)).setCell ⟨q.B + 4, 7, none⟩ (.slice none 0 0)) := by
  have hs := h.size
  have hB := (((Below.refl q.B W).setCell (p := ⟨q.B + 4, 9, none⟩) (by simp) (.bool true)).setCell (p := ⟨q.B + 4, 10, none⟩) (by simp) (.int .i64 now)).setCell (p := ⟨q.B + 4, 7, none⟩) (by simp) (.slice none 0 0)
  refine ⟨?_, hB, fun k cs hk => (by rw [Below.heap_setCell _ _ _ k (ne62 hk h.k), Below.heap_setCell _ _ _ k (ne62 hk h.k), Below.heap_setCell _ _ _ k (ne62 hk h.k)] : (((W.setCell ⟨q.B + 4, 9, none⟩ (.bool true)).setCell ⟨q.B + 4, 10, none⟩ (.int .i64 now)).setCell ⟨q.B + 4, 7, none⟩ (.slice none 0 0)).heap[k]? = W.heap[k]?).trans hk⟩
  have hk := ((h.k.set 9 (.bool true)).set 10 (.int .i64 now)).set 7 (.slice none 0 0)
  have e : ∀ k, k ≠ q.B + 4 → (((W.setCell ⟨q.B + 4, 9, none⟩ (.bool true)).setCell ⟨q.B + 4, 10, none⟩ (.int .i64 now)).setCell ⟨q.B + 4, 7, none⟩ (.slice none 0 0)).heap[k]? = W.heap[k]? := fun k hk => by
    rw [Below.heap_setCell _ _ _ k hk, Below.heap_setCell _ _ _ k hk, Below.heap_setCell _ _ _ k hk]
  obtain ⟨xs, hx⟩ := h.o
  refine ⟨(e _ (by omega)).trans h.m, (e _ (by omega)).trans h.r, (e _ (by omega)).trans h.p, (e _ (by omega)).trans h.c, ?_, (e _ (by omega)).trans h.t, xs, hx.kept (row := some (q.B + 4)) ⟨rfl, rfl, rfl, hB.size, fun k _ hk => e k (fun e' => hk (by rw [e']))⟩ (.inr fun e' => by have := (hx.lt _ e').1; omega)⟩
  simp only [kcells, List.setIfInBounds_toArray, List.set_cons_zero, List.set_cons_succ] at hk ⊢
  exact hk

set_option maxRecDepth 100000 in
set_option maxHeartbeats 4000000 in
theorem state_f (q : Cn) (hlf : q.lf = false) (hf : fencedI q.L q.D q.la q.fl ≤ q.now) (en : Int) (a : Option Addr) (n cap : Nat) (W : World) (h : St q (moOf q) false en a n cap W) (hn : n ≤ 10) :
    Calls Try.prog 25 #[.pointer (some ⟨q.B + 5, 0, none⟩), .pointer (some ⟨q.B + 4, 0, none⟩)] W fun e W' => e = .returned (.int .i64 2) ∧ ∃ a' cap', St q (moOf q) true q.now a' (n + 1) cap' W' ∧ Below q.B W W' ∧ K33 W W' := by
  obtain ⟨t0, t1, c0, c1, k0, k1, k2, k3, k4⟩ := h.cells
  rw [hlf] at k4
  have HS : Hid (St q (moOf q) false en a n cap W) := h
  have HF : Hid (fencedI q.L q.D q.la q.fl ≤ q.now) := hf
  have hs := h.size
  clear h hlf hf
  go_enter Try.func25, Try.ntmps25
  go_wp2_with fail
  go_still_tail 15, mixed
  go_wp2_with fail
  refine (state_fenced q.L q.D q.ep q.la q.fl q.now HF.out _).mono ?_
  rintro e w1 ⟨rfl, hb1⟩
  clear t0 t1 c0 c1 k0 k1 k2 k3 k4
  have HS1 : Hid (St q (moOf q) false en a n cap w1) := HS.out.drew.later hb1
  have hk := HS1.out.k.cell
  have hkf := HS1.out.k.frozen
  have t1 := HS1.out.t.cell 1
  unfold kcells at hk
  simp only [tcells] at t1
  go_wp2
  go_loop [48] (fun i => i = .int .i64 0) (fun _ => 0)
  case atStart => rfl
  case round =>
    obtain rfl := hrel
    go_wp2
    obtain ⟨hS2, hb2, hq2⟩ := HS1.out.judged q.now
    clear hk hkf t1
    revert hS2 hb2 hq2
    generalize ((w1.setCell ⟨q.B + 4, 9, none⟩ (.bool true)).setCell ⟨q.B + 4, 10, none⟩ (.int .i64 q.now)).setCell ⟨q.B + 4, 7, none⟩ (.slice none 0 0) = W2
    intro hS2 hb2 hq2
    have HQ2 : Hid (K33 w1 W2) := hq2
    clear hq2
    have HS2 : Hid (St q (moOf q) true q.now a n cap W2) := hS2
    have hk := hS2.k.cell
    have ht := hS2.t.cell
    have hc := hS2.c.cell
    have hl := look_hit (w := W2.drew) (b := q.B) q.nm _ _ hS2.m
    unfold kcells at hk
    unfold tcells at ht
    unfold ccells at hc
    clear hS2
    refine wp_region_still_tail 50 mixed (by kernel_rfl) ?_
    simp only [List.take_succ_cons, List.take_zero, List.drop_succ_cons, List.drop_zero]
    iterate 39 still_step
    with_reducible refine still_skip (d := 98) ?_ ?_ ?_ ?_
    · exact rfl
    · kernel_rfl
    · kernel_rfl
    with_reducible refine still_skip (d := 99) ?_ ?_ ?_ ?_
    · exact rfl
    · kernel_rfl
    · kernel_rfl
    with_reducible refine still_skip (d := 100) ?_ ?_ ?_ ?_
    · exact rfl
    · kernel_rfl
    · kernel_rfl
    with_reducible refine still_skip (d := 101) ?_ ?_ ?_ ?_
    · exact rfl
    · kernel_rfl
    · kernel_rfl
    with_reducible refine still_skip (d := 102) ?_ ?_ ?_ ?_
    · exact rfl
    · kernel_rfl
    · kernel_rfl
    with_reducible refine still_skip (d := 103) ?_ ?_ ?_ ?_
    · exact rfl
    · kernel_rfl
    · kernel_rfl
    with_reducible refine still_skip (d := 104) ?_ ?_ ?_ ?_
    · exact rfl
    · kernel_rfl
    · kernel_rfl
    with_reducible refine still_skip (d := 105) ?_ ?_ ?_ ?_
    · exact rfl
    · kernel_rfl
    · kernel_rfl
    iterate 3 still_step
    refine wpStill_nil ?_
    go_wp2_with fail
    refine (emit_any q (moOf q) true q.now a n cap _ _ _ HS2.out.drew hn).mono ?_
    rintro e W3 ⟨rfl, a', cap', hS3, hb3, hq3⟩
    have HQ3 : Hid (K33 W2.drew W3) := hq3
    clear hq3
    have HS3 : Hid (St q (moOf q) true q.now a' (n + 1) cap' W3) := hS3
    clear hk ht hc hl hS3
    go_wp2
    go_ret
    exact ⟨rfl, a', cap', HS3.out, ((((Below.refl q.B W).drew.trans (hb1.mono (by show q.B ≤ W.heap.size; omega))).trans hb2).drew.trans hb3), ((((K33.drew W).trans (K33.later hb1)).trans HQ2.out).trans (K33.drew W2)).trans HQ3.out⟩
end Go.Proofs.Qxb6615073a.Vd
