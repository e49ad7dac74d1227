/-
  FnVerdict..: the contracts of Verdict.applyTo (20): the lease is over.
-/
import Derived.Test.Qxb6615073aVdApply
namespace Go.Proofs.Qxb6615073a.Vd
open Go.RowKit
attribute [local go_sem] guard_ptr ptr_same

set_option maxRecDepth 100000 in
set_option maxHeartbeats 4000000 in
theorem applyTo_keep (q : Cn) (s : Int) (hs : (s == 2 || s == 3) = true) (j j' : Bool) (en en' : Int) (a : Option Addr) (n n' cap : Nat)
    (hst : ∀ wx, St q (moOf q) j en a n cap wx → Calls Try.prog 25 #[.pointer (some ⟨q.B + 5, 0, none⟩), .pointer (some ⟨q.B + 4, 0, none⟩)] wx fun e W' => e = .returned (.int .i64 s) ∧ ∃ a' cap', St q (moOf q) j' en' a' n' cap' W' ∧ Below q.B wx W' ∧ K33 wx W')
    (W : World) (h : St q (moOf q) j en a n cap W) (hn : n' ≤ 10) (hk : q.now < wrap64 (en' + wrap64 q.L)) :
    Calls Try.prog 20 #[.agg #[.string q.nm, .int .i64 q.ep], .pointer (some ⟨q.B + 5, 0, none⟩)] W fun e W' => e = .returned (.tuple #[]) ∧ ∃ a' cap', St q (moOf q) j' en' a' (n' + 1) cap' W' ∧ Below q.B W W' := by
  have HS : Hid (St q (moOf q) j en a n cap W) := h
  have HC : Hid (∀ wx, St q (moOf q) j en a n cap wx → Calls Try.prog 25 #[.pointer (some ⟨q.B + 5, 0, none⟩), .pointer (some ⟨q.B + 4, 0, none⟩)] wx fun e W' => e = .returned (.int .i64 s) ∧ ∃ a' cap', St q (moOf q) j' en' a' n' cap' W' ∧ Below q.B wx W' ∧ K33 wx W') := hst
  have HX : Hid ((s == 2 || s == 3) = true) := hs
  have hsz := h.size
  have t0 := h.cells.1
  have l1 : q.B + 5 < W.heap.size := by omega
  have l2 : q.B + 5 < W.heap.size + 1 := by omega
  clear h hst hs
  go_enter Try.func20, Try.ntmps20
  go_wp2_with fail
  go_quiet ((go_at_call 24; exact Calls.quiet_of_same (find_hit q j en a n cap _ (boxes HS.out q.nm q.ep _).1)))
  have hx := boxes HS.out q.nm q.ep nq
  revert hx
  generalize ((W.alloc (.cells #[.string q.nm, .int .i64 q.ep] 77)).alloc (.cells #[.pointer (some ⟨q.B + 5, 0, none⟩)] 33)).drewN nq = W1
  rintro ⟨hS1, hT1, hB1⟩
  have HS1 : Hid (St q (moOf q) j en a n cap W1) := hS1
  have HT1 : Hid (Blk W1 (W.heap.size + 1) #[.pointer (some ⟨q.B + 5, 0, none⟩)] 33) := hT1
  have tb := hT1.cell 0
  clear hS1 hT1 t0 l1 l2
  go_wp2_with fail
  refine (HC.out W1 HS1.out).mono ?_
  rintro e w2 ⟨rfl, a2, cap2, hS2, hb2, hq2⟩
  have HS2 : Hid (St q (moOf q) j' en' a2 n' cap2 w2) := hS2
  have HT2 : Hid (Blk w2 (W.heap.size + 1) #[.pointer (some ⟨q.B + 5, 0, none⟩)] 33) := hq2 _ _ HT1.out
  have tc := hS2.t.cell
  clear hS2 hq2 tb
  have tb := HT2.out.cell 0
  unfold tcells at tc
  go_wp2_with fail
  refine (over_any s w2).mono ?_
  rintro e w' ⟨rfl, rfl⟩
  rw [HX.out]
  go_wp2_with fail
  refine (rolesOf_none q (moOf q) j' en' a2 n' cap2 _ HS2.out _).mono ?_
  rintro e w3 ⟨rfl, hb3⟩
  have HS3 : Hid (St q (moOf q) j' en' a2 n' cap2 w3) := HS2.out.later hb3
  have HT3 : Hid (Blk w3 (W.heap.size + 1) #[.pointer (some ⟨q.B + 5, 0, none⟩)] 33) := K33.later hb3 _ _ HT2.out
  clear tc tb
  have tc := HS3.out.t.cell
  have tb := HT3.out.cell 0
  unfold tcells at tc
  go_wp2_with fail
  go_loop [39] (fun i => i = .int .i64 0) (fun _ => 0)
  case atStart => rfl
  case round =>
    obtain rfl := hrel
    go_wp2_with fail
    refine (prune_none _ _).mono ?_
    rintro e w' ⟨rfl, rfl⟩
    go_wp2_with fail
    refine (handsOnAt_none q (moOf q) j' en' a2 n' cap2 _ HS3.out _).mono ?_
    rintro e w4 ⟨rfl, hb4⟩
    have HS4 : Hid (St q (moOf q) j' en' a2 n' cap2 w4) := HS3.out.later hb4
    have HT4 : Hid (Blk w4 (W.heap.size + 1) #[.pointer (some ⟨q.B + 5, 0, none⟩)] 33) := K33.later hb4 _ _ HT3.out
    clear tc tb
    have tc := HS4.out.t.cell
    have tb := HT4.out.cell 0
    have cc := HS4.out.c.cell
    have kc := HS4.out.k.cell
    unfold tcells at tc
    unfold ccells at cc
    unfold kcells at kc
    have hl := fun k => look_hit (w := w4.drewN k) (b := q.B) q.nm _ _ (HS4.out.drewN k).m
    go_wp2_with fail
    go_quiet (fail)
    have hx : St q (moOf q) j' en' a2 n' cap2 (w4.drewN nq) ∧ Blk (w4.drewN nq) (W.heap.size + 1) #[.pointer (some ⟨q.B + 5, 0, none⟩)] 33 ∧ Below q.B W (w4.drewN nq) :=
      ⟨HS4.out.drewN _, HT4.out, drewN_below (((hB1.trans hb2).trans (hb3.mono (by have := HS2.out.size; omega))).trans (hb4.mono (by have := HS3.out.size; omega))) _⟩
    clear hl tc tb cc kc
    revert hx
    generalize w4.drewN nq = w5
    rintro ⟨hS5, hT5, hB5⟩
    have HS5 : Hid (St q (moOf q) j' en' a2 n' cap2 w5) := hS5
    have HT5 : Hid (Blk w5 (W.heap.size + 1) #[.pointer (some ⟨q.B + 5, 0, none⟩)] 33) := hT5
    clear hS5 hT5
    have tc := HS5.out.t.cell
    have tb := HT5.out.cell 0
    have cc := HS5.out.c.cell
    have kc := HS5.out.k.cell
    unfold tcells at tc
    unfold ccells at cc
    unfold kcells at kc
    go_wp2_with fail
    go_quiet (fail)
    have hx : St q (moOf q) j' en' a2 n' cap2 (w5.drewN nq) ∧ Blk (w5.drewN nq) (W.heap.size + 1) #[.pointer (some ⟨q.B + 5, 0, none⟩)] 33 ∧ Below q.B W (w5.drewN nq) :=
      ⟨HS5.out.drewN _, HT5.out, drewN_below hB5 _⟩
    clear tc tb cc kc
    revert hx hk
    generalize w5.drewN nq = w6
    generalize wrap64 (en' + wrap64 q.L) = fg
    rintro hk ⟨hS6, hT6, hB6⟩
    have HS6 : Hid (St q (moOf q) j' en' a2 n' cap2 w6) := hS6
    have HT6 : Hid (Blk w6 (W.heap.size + 1) #[.pointer (some ⟨q.B + 5, 0, none⟩)] 33) := hT6
    clear hS6 hT6
    have tc := HS6.out.t.cell
    have tb := HT6.out.cell 0
    have kc := HS6.out.k.cell
    unfold tcells at tc
    unfold kcells at kc
    have hmf : ∀ (fn : Fn) (first cap : Array Value) (wx : World), (Instr.makeFunc fn first cap).run Try.prog wx = .ok (.func fn first cap) wx := fun _ _ _ _ => rfl
    go_wp2_with fail
    refine (containsFunc_none _ _).mono ?_
    rintro e w' ⟨rfl, rfl⟩
    clear hmf
    have hd1 : decide (fg ≤ q.now) = false := by simp; omega
    go_wp2_with fail
    go_still_tail 13, mixed
    go_wp2_with fail
    refine (emit_any q (moOf q) j' en' a2 n' cap2 _ _ _ HS6.out.drew hn).mono ?_
    rintro e w7 ⟨rfl, a7, cap7, hS7, hb7, hq7⟩
    have HS7 : Hid (St q (moOf q) j' en' a7 (n' + 1) cap7 w7) := hS7
    clear hS7 hq7 tc tb kc
    go_wp2
    refine bodyPost_ret (results_none rfl _ _ _) rfl ?_
    exact ⟨rfl, a7, cap7, HS7.out, hB6.drew.trans hb7⟩
/-- the members' map is emptied -/
theorem St.deleted {q : Cn} {mo : Obj} {j : Bool} {en : Int} {a : Option Addr} {n cap : Nat} {W : World} (h : St q mo j en a n cap W) :
    St q (.map #[] 1) j en a n cap { W with heap := W.heap.setIfInBounds q.B (.map #[] 1) } ∧ (∀ k, k ≠ q.B → W.heap[k]? = ({ W with heap := W.heap.setIfInBounds q.B (.map #[] 1) } : World).heap[k]?) ∧
    Below q.B W { W with heap := W.heap.setIfInBounds q.B (.map #[] 1) } := by
  have hs := h.size
  have e : ∀ k, k ≠ q.B → ({ W with heap := W.heap.setIfInBounds q.B (.map #[] 1) } : World).heap[k]? = W.heap[k]? := fun k hk => by simp [Ne.symm hk]
  refine ⟨?_, fun k hk => (e k hk).symm, ⟨rfl, rfl, rfl, by simp, fun k hk => e k (by omega)⟩⟩
  obtain ⟨xs, hx⟩ := h.o
  refine ⟨by simp [show q.B < W.heap.size from by omega], (e _ (by omega)).trans h.r, (e _ (by omega)).trans h.p, (e _ (by omega)).trans h.c, (e _ (by omega)).trans h.k, (e _ (by omega)).trans h.t, xs, hx.kept (row := some q.B) ⟨rfl, rfl, rfl, by simp, fun k _ hk => e k (fun e' => hk (by rw [e']))⟩ (.inr fun e' => by have := (hx.lt _ e').1; omega)⟩

set_option maxRecDepth 100000 in
set_option maxHeartbeats 4000000 in
theorem applyTo_drop (q : Cn) (s : Int) (hs : (s == 2 || s == 3) = true) (j j' : Bool) (en en' : Int) (a : Option Addr) (n n' cap : Nat)
    (hst : ∀ wx, St q (moOf q) j en a n cap wx → Calls Try.prog 25 #[.pointer (some ⟨q.B + 5, 0, none⟩), .pointer (some ⟨q.B + 4, 0, none⟩)] wx fun e W' => e = .returned (.int .i64 s) ∧ ∃ a' cap', St q (moOf q) j' en' a' n' cap' W' ∧ Below q.B wx W' ∧ K33 wx W')
    (W : World) (h : St q (moOf q) j en a n cap W) (hn : n' ≤ 10) (hk : ¬ q.now < wrap64 (en' + wrap64 q.L)) :
    Calls Try.prog 20 #[.agg #[.string q.nm, .int .i64 q.ep], .pointer (some ⟨q.B + 5, 0, none⟩)] W fun e W' => e = .returned (.tuple #[]) ∧ ∃ a' cap', St q (.map #[] 1) j' en' a' (n' + 1) cap' W' ∧ Below q.B W W' := by
  have HS : Hid (St q (moOf q) j en a n cap W) := h
  have HC : Hid (∀ wx, St q (moOf q) j en a n cap wx → Calls Try.prog 25 #[.pointer (some ⟨q.B + 5, 0, none⟩), .pointer (some ⟨q.B + 4, 0, none⟩)] wx fun e W' => e = .returned (.int .i64 s) ∧ ∃ a' cap', St q (moOf q) j' en' a' n' cap' W' ∧ Below q.B wx W' ∧ K33 wx W') := hst
  have HX : Hid ((s == 2 || s == 3) = true) := hs
  have hsz := h.size
  have t0 := h.cells.1
  have l1 : q.B + 5 < W.heap.size := by omega
  have l2 : q.B + 5 < W.heap.size + 1 := by omega
  clear h hst hs
  go_enter Try.func20, Try.ntmps20
  go_wp2_with fail
  go_quiet ((go_at_call 24; exact Calls.quiet_of_same (find_hit q j en a n cap _ (boxes HS.out q.nm q.ep _).1)))
  have hx := boxes HS.out q.nm q.ep nq
  revert hx
  generalize ((W.alloc (.cells #[.string q.nm, .int .i64 q.ep] 77)).alloc (.cells #[.pointer (some ⟨q.B + 5, 0, none⟩)] 33)).drewN nq = W1
  rintro ⟨hS1, hT1, hB1⟩
  have HS1 : Hid (St q (moOf q) j en a n cap W1) := hS1
  have HT1 : Hid (Blk W1 (W.heap.size + 1) #[.pointer (some ⟨q.B + 5, 0, none⟩)] 33) := hT1
  have tb := hT1.cell 0
  clear hS1 hT1 t0 l1 l2
  go_wp2_with fail
  refine (HC.out W1 HS1.out).mono ?_
  rintro e w2 ⟨rfl, a2, cap2, hS2, hb2, hq2⟩
  have HS2 : Hid (St q (moOf q) j' en' a2 n' cap2 w2) := hS2
  have HT2 : Hid (Blk w2 (W.heap.size + 1) #[.pointer (some ⟨q.B + 5, 0, none⟩)] 33) := hq2 _ _ HT1.out
  have tc := hS2.t.cell
  clear hS2 hq2 tb
  have tb := HT2.out.cell 0
  unfold tcells at tc
  go_wp2_with fail
  refine (over_any s w2).mono ?_
  rintro e w' ⟨rfl, rfl⟩
  rw [HX.out]
  go_wp2_with fail
  refine (rolesOf_none q (moOf q) j' en' a2 n' cap2 _ HS2.out _).mono ?_
  rintro e w3 ⟨rfl, hb3⟩
  have HS3 : Hid (St q (moOf q) j' en' a2 n' cap2 w3) := HS2.out.later hb3
  have HT3 : Hid (Blk w3 (W.heap.size + 1) #[.pointer (some ⟨q.B + 5, 0, none⟩)] 33) := K33.later hb3 _ _ HT2.out
  clear tc tb
  have tc := HS3.out.t.cell
  have tb := HT3.out.cell 0
  unfold tcells at tc
  go_wp2_with fail
  go_loop [39] (fun i => i = .int .i64 0) (fun _ => 0)
  case atStart => rfl
  case round =>
    obtain rfl := hrel
    go_wp2_with fail
    refine (prune_none _ _).mono ?_
    rintro e w' ⟨rfl, rfl⟩
    go_wp2_with fail
    refine (handsOnAt_none q (moOf q) j' en' a2 n' cap2 _ HS3.out _).mono ?_
    rintro e w4 ⟨rfl, hb4⟩
    have HS4 : Hid (St q (moOf q) j' en' a2 n' cap2 w4) := HS3.out.later hb4
    have HT4 : Hid (Blk w4 (W.heap.size + 1) #[.pointer (some ⟨q.B + 5, 0, none⟩)] 33) := K33.later hb4 _ _ HT3.out
    clear tc tb
    have tc := HS4.out.t.cell
    have tb := HT4.out.cell 0
    have cc := HS4.out.c.cell
    have kc := HS4.out.k.cell
    unfold tcells at tc
    unfold ccells at cc
    unfold kcells at kc
    have hl := fun k => look_hit (w := w4.drewN k) (b := q.B) q.nm _ _ (HS4.out.drewN k).m
    go_wp2_with fail
    go_quiet (fail)
    have hx : St q (moOf q) j' en' a2 n' cap2 (w4.drewN nq) ∧ Blk (w4.drewN nq) (W.heap.size + 1) #[.pointer (some ⟨q.B + 5, 0, none⟩)] 33 ∧ Below q.B W (w4.drewN nq) :=
      ⟨HS4.out.drewN _, HT4.out, drewN_below (((hB1.trans hb2).trans (hb3.mono (by have := HS2.out.size; omega))).trans (hb4.mono (by have := HS3.out.size; omega))) _⟩
    clear hl tc tb cc kc
    revert hx
    generalize w4.drewN nq = w5
    rintro ⟨hS5, hT5, hB5⟩
    have HS5 : Hid (St q (moOf q) j' en' a2 n' cap2 w5) := hS5
    have HT5 : Hid (Blk w5 (W.heap.size + 1) #[.pointer (some ⟨q.B + 5, 0, none⟩)] 33) := hT5
    clear hS5 hT5
    have tc := HS5.out.t.cell
    have tb := HT5.out.cell 0
    have cc := HS5.out.c.cell
    have kc := HS5.out.k.cell
    unfold tcells at tc
    unfold ccells at cc
    unfold kcells at kc
    go_wp2_with fail
    go_quiet (fail)
    have hx : St q (moOf q) j' en' a2 n' cap2 (w5.drewN nq) ∧ Blk (w5.drewN nq) (W.heap.size + 1) #[.pointer (some ⟨q.B + 5, 0, none⟩)] 33 ∧ Below q.B W (w5.drewN nq) :=
      ⟨HS5.out.drewN _, HT5.out, drewN_below hB5 _⟩
    clear tc tb cc kc
    revert hx hk
    generalize w5.drewN nq = w6
    generalize wrap64 (en' + wrap64 q.L) = fg
    rintro hk ⟨hS6, hT6, hB6⟩
    have HS6 : Hid (St q (moOf q) j' en' a2 n' cap2 w6) := hS6
    have HT6 : Hid (Blk w6 (W.heap.size + 1) #[.pointer (some ⟨q.B + 5, 0, none⟩)] 33) := hT6
    clear hS6 hT6
    have tc := HS6.out.t.cell
    have tb := HT6.out.cell 0
    have kc := HS6.out.k.cell
    unfold tcells at tc
    unfold kcells at kc
    have hmf : ∀ (fn : Fn) (first cap : Array Value) (wx : World), (Instr.makeFunc fn first cap).run Try.prog wx = .ok (.func fn first cap) wx := fun _ _ _ _ => rfl
    go_wp2_with fail
    refine (containsFunc_none _ _).mono ?_
    rintro e w6' ⟨rfl, hw6⟩
    obtain rfl : w6 = w6' := hw6.symm
    clear hmf
    have hd1 : decide (fg ≤ q.now) = true := by simp; omega
    have cc := HS6.out.c.cell
    unfold ccells at cc
    go_wp2_with fail
    have hdel := fun ty => delete_one (w := w6.drew) (b := q.B) q.nm _ 1 ty HS6.out.drew.m
    go_still_tail 11, mixed
    go_wp2_with fail
    have hx : St q (.map #[] 1) j' en' a2 n' cap2 ({ heap := w6.drew.heap.setIfInBounds q.B (Obj.map #[] 1), tape := w6.tape, drawn := w6.drawn + 1, os := w6.drew.os, output := w6.drew.output } : World) ∧ Blk ({ heap := w6.drew.heap.setIfInBounds q.B (Obj.map #[] 1), tape := w6.tape, drawn := w6.drawn + 1, os := w6.drew.os, output := w6.drew.output } : World) (W.heap.size + 1) #[.pointer (some ⟨q.B + 5, 0, none⟩)] 33 ∧ Below q.B W ({ heap := w6.drew.heap.setIfInBounds q.B (Obj.map #[] 1), tape := w6.tape, drawn := w6.drawn + 1, os := w6.drew.os, output := w6.drew.output } : World) :=
      ⟨HS6.out.drew.deleted.1, (HS6.out.drew.deleted.2.1 _ (by have := hB6.size; omega)).symm.trans HT6.out, hB6.drew.trans HS6.out.drew.deleted.2.2⟩
    clear hdel tc tb cc kc
    revert hx
    generalize ({ heap := w6.drew.heap.setIfInBounds q.B (Obj.map #[] 1), tape := w6.tape, drawn := w6.drawn + 1, os := w6.drew.os, output := w6.drew.output } : World) = w7
    rintro ⟨hS7, hT7, hB7⟩
    have HS7 : Hid (St q (.map #[] 1) j' en' a2 n' cap2 w7) := hS7
    have HT7 : Hid (Blk w7 (W.heap.size + 1) #[.pointer (some ⟨q.B + 5, 0, none⟩)] 33) := hT7
    clear hS7 hT7
    have tb := HT7.out.cell 0
    have kc := HS7.out.k.cell
    unfold kcells at kc
    go_still_tail 5, mixed
    go_wp2_with fail
    refine (prune_none _ _).mono ?_
    rintro e w8 ⟨rfl, hw8⟩
    have HS8 : Hid (St q (.map #[] 1) j' en' a2 n' cap2 w8) := by rw [hw8]; exact HS7.out.drew
    have HT8 : Hid (Blk w8 (W.heap.size + 1) #[.pointer (some ⟨q.B + 5, 0, none⟩)] 33) := by rw [hw8]; exact HT7.out
    have hB8 : Below q.B W w8 := by rw [hw8]; exact hB7.drew
    clear hw8 tb kc
    have tb := HT8.out.cell 0
    have kc := HS8.out.k.cell
    unfold kcells at kc
    go_wp2_with fail
    go_still_tail 12, mixed
    go_wp2_with fail
    refine (emit_any q (.map #[] 1) j' en' a2 n' cap2 _ _ _ HS8.out.drew hn).mono ?_
    rintro e w9 ⟨rfl, a9, cap9, hS9, hb9, hq9⟩
    have HS9 : Hid (St q (.map #[] 1) j' en' a9 (n' + 1) cap9 w9) := hS9
    clear hS9 hq9 tb kc
    go_wp2
    first | go_end0 | refine bodyPost_ret (results_none rfl _ _ _) rfl ?_
    exact ⟨rfl, a9, cap9, HS9.out, hB8.drew.trans hb9⟩
end Go.Proofs.Qxb6615073a.Vd
