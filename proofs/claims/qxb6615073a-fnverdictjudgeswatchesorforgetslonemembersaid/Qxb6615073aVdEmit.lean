/-
  FnVerdict..: the records, the member and the change under way as they lie in memory ('St'); the contract of emit (31).
-/
import Derived.Test.Qxb6615073aVdWorld
import Derived.Deep.AppendLies
import Derived.OwnWalk
import Derived.Maps.AppendAt
namespace Go.Proofs.Qxb6615073a.Vd
open Go.RowKit

/-- the records' cells -/
def ccells (B : Nat) (L D ep : Int) : Array Value :=
  #[.int .i64 L, .int .i64 D, .int .i64 0, .int .i64 0, .int .i64 0, .int .i64 0, .map (some B), .map (some (B + 1)), .map (some (B + 2)), .int .i64 ep, .int .u64 0]
/-- the member's -/
def kcells (nm : ByteArray) (ep la fl : Int) (lf j : Bool) (en : Int) : Array Value :=
  #[.string nm, .int .i64 ep, .int .i64 la, .int .i64 fl, .bool lf, .int .u64 0, .slice none 0 0, .slice none 0 0, .bool false, .bool j, .int .i64 en]
/-- the change's -/
def tcells (B : Nat) (now : Int) (v : Value) : Array Value :=
  #[.pointer (some ⟨B + 3, 0, none⟩), .int .i64 now, v, .nilIface, .string ⟨#[]⟩, .int .i64 0, .int .i64 0, .map none, .map none, .string ⟨#[]⟩, .int .u64 0, .slice none 0 0, .bool false, .pointer none, .pointer none]

/-- what is the same all the way -/
structure Cn where
  B : Nat
  L : Int
  D : Int
  ep : Int
  la : Int
  fl : Int
  now : Int
  nm : ByteArray
  lf : Bool

structure St (q : Cn) (mo : Obj) (j : Bool) (en : Int) (a : Option Addr) (n cap : Nat) (W : World) : Prop where
  m : W.heap[q.B]? = some mo
  r : W.heap[q.B + 1]? = some (.map #[] 0)
  p : W.heap[q.B + 2]? = some (.map #[] 0)
  c : Blk W (q.B + 3) (ccells q.B q.L q.D q.ep) 58
  k : Blk W (q.B + 4) (kcells q.nm q.ep q.la q.fl q.lf j en) 62
  t : Blk W (q.B + 5) (tcells q.B q.now (.slice a n cap)) 75
  o : ∃ xs, W.ownsRow (q.B + 6) 125 1 (.slice a n cap) n xs

section
variable {q : Cn} {mo : Obj} {j : Bool} {en : Int} {a : Option Addr} {n cap : Nat} {W W' : World}
theorem St.size (h : St q mo j en a n cap W) : q.B + 6 ≤ W.heap.size := h.t.lt

/-- new blocks alone -/
theorem St.grown (h : St q mo j en a n cap W) (g : W.grownBy W' none) : St q mo j en a n cap W' := by
  have hs := h.size
  have e : ∀ k, k < q.B + 6 → W'.heap[k]? = W.heap[k]? := fun k hk => g.block k (by omega) (by simp)
  refine ⟨(e _ (by omega)).trans h.m, (e _ (by omega)).trans h.r, (e _ (by omega)).trans h.p, (e _ (by omega)).trans h.c, (e _ (by omega)).trans h.k, (e _ (by omega)).trans h.t, ?_⟩
  obtain ⟨xs, hx⟩ := h.o
  refine ⟨xs, hx.kept g ?_⟩
  cases hv : (Value.slice a n cap).ownBlock with
  | none => exact .inl rfl
  | some k => exact .inr (by simp)
theorem grown_of_below (h : Below W.heap.size W W') : W.grownBy W' none := ⟨h.os, h.tape, h.output, h.size, fun k hk _ => h.block k hk⟩
theorem St.later (h : St q mo j en a n cap W) (g : Below W.heap.size W W') : St q mo j en a n cap W' := h.grown (grown_of_below g)
theorem St.alloc (h : St q mo j en a n cap W) (o : Obj) : St q mo j en a n cap (W.alloc o) := h.grown (World.grownBy_alloc W o none)

/-- every box of a '*txn' lies as it lay -/
def K33 (W W' : World) : Prop := ∀ k cs, Blk W k cs 33 → Blk W' k cs 33
theorem K33.refl (W : World) : K33 W W := fun _ _ h => h
theorem K33.trans {A B C : World} (h : K33 A B) (g : K33 B C) : K33 A C := fun k cs x => g k cs (h k cs x)
theorem K33.later (g : Below W.heap.size W W') : K33 W W' := fun k _ h => (g.block k h.lt).trans h
theorem K33.drew (W : World) : K33 W W.drew := fun _ _ h => h
theorem K33.drewN (W : World) (n : Nat) : K33 W (W.drewN n) := fun _ _ h => h

/-- the change's events become another slice -/
theorem St.events (h : St q mo j en a n cap W) {w1 : World} {x : Obj} {g cap' m : Nat} {xs : List Value}
    (ho : w1.ownsRow (q.B + 6) 125 1 (.slice (some ⟨g, 0, none⟩) m cap') m xs) (hg : (W.alloc x).grownBy w1 (Value.slice a n cap).ownBlock) :
    St q mo j en (some ⟨g, 0, none⟩) m cap' (w1.setCell ⟨q.B + 5, 2, none⟩ (.slice (some ⟨g, 0, none⟩) m cap')) ∧ Below q.B W (w1.setCell ⟨q.B + 5, 2, none⟩ (.slice (some ⟨g, 0, none⟩) m cap')) ∧ K33 W (w1.setCell ⟨q.B + 5, 2, none⟩ (.slice (some ⟨g, 0, none⟩) m cap')) := by
  have hs := h.size
  obtain ⟨ys, hy⟩ := h.o
  have hv : ∀ k, k < q.B + 6 → some k ≠ (Value.slice a n cap).ownBlock := fun k hk e => by have := (hy.lt k e.symm).1; omega
  have e1 : ∀ k, k < q.B + 6 → w1.heap[k]? = W.heap[k]? := fun k hk => by
    rw [hg.block k (by simp; omega) (hv k hk)]; exact Below.heap_alloc W x k (by omega)
  have e2 : ∀ k, k ≠ q.B + 5 → (w1.setCell ⟨q.B + 5, 2, none⟩ (.slice (some ⟨g, 0, none⟩) m cap')).heap[k]? = w1.heap[k]? := fun k hk => Below.heap_setCell _ _ _ k hk
  have e : ∀ k, k < q.B + 5 → (w1.setCell ⟨q.B + 5, 2, none⟩ (.slice (some ⟨g, 0, none⟩) m cap')).heap[k]? = W.heap[k]? := fun k hk => (e2 k (by omega)).trans (e1 k (by omega))
  have ht : Blk w1 (q.B + 5) (tcells q.B q.now (.slice a n cap)) 75 := (e1 _ (by omega)).trans h.t
  have hgB : q.B + 6 ≤ g := (ho.lt g rfl).1
  have hset : w1.grownBy (w1.setCell ⟨q.B + 5, 2, none⟩ (.slice (some ⟨g, 0, none⟩) m cap')) (some (q.B + 5)) :=
    ⟨rfl, rfl, rfl, by simp, fun k _ hk => e2 k (fun e => hk (by rw [e]))⟩
  refine ⟨⟨(e _ (by omega)).trans h.m, (e _ (by omega)).trans h.r, (e _ (by omega)).trans h.p, (e _ (by omega)).trans h.c, (e _ (by omega)).trans h.k, ?_, xs, ho.kept hset (.inr (by simp [Value.ownBlock]; omega))⟩, ?_, ?_⟩
  · have := ht.set 2 (.slice (some ⟨g, 0, none⟩) m cap')
    simp only [tcells, List.setIfInBounds_toArray, List.set_cons_zero, List.set_cons_succ] at this ⊢
    exact this
  · exact ⟨hg.os, hg.tape, hg.output, by have := hg.size; simp at this ⊢; omega, fun k hk => e k (by omega)⟩
  · intro k cs hk
    have hkl := hk.lt
    have h5 : k ≠ q.B + 5 := fun e5 => by
      subst e5
      have := hk.symm.trans h.t
      simp at this
    have hrow : some k ≠ (Value.slice a n cap).ownBlock := fun e5 => by
      rcases hy.2 with ⟨hv0, _⟩ | ⟨g', cap'', cur, hv0, _, hcur, _⟩
      · rw [hv0] at e5; simp [Value.ownBlock] at e5
      · rw [hv0] at e5
        simp [Value.ownBlock] at e5
        subst e5
        have := hk.symm.trans hcur
        simp at this
    refine (e2 k h5).trans ((hg.block k (by simp; omega) hrow).trans ((Below.heap_alloc W x k hkl).trans hk))
/-- behind the append the change's own cells lie as they lay -/
theorem St.behind (h : St q mo j en a n cap W) {w1 : World} {x : Obj} (hg : (W.alloc x).grownBy w1 (Value.slice a n cap).ownBlock) : Blk w1 (q.B + 5) (tcells q.B q.now (.slice a n cap)) 75 := by
  have hs := h.size
  obtain ⟨ys, hy⟩ := h.o
  have hv : some (q.B + 5) ≠ (Value.slice a n cap).ownBlock := fun e => by have := (hy.lt _ e.symm).1; omega
  have e1 : w1.heap[q.B + 5]? = W.heap[q.B + 5]? := by
    rw [hg.block _ (by simp; omega) hv]; exact Below.heap_alloc W x _ (by omega)
  exact e1.trans h.t
end

theorem info125 : (Try.prog.info? 125).map (fun i => (i.zero, i.size, i.bytes)) = some (some .nilIface, 1, 16) := by kernel_rfl

set_option maxRecDepth 100000 in
set_option maxHeartbeats 1000000 in
theorem emit_any (q : Cn) (mo : Obj) (j : Bool) (en : Int) (a : Option Addr) (n cap : Nat) (ty : TypeId) (x : Value) (W : World) (h : St q mo j en a n cap W) (hn : n ≤ 10) :
    Calls Try.prog 31 #[.pointer (some ⟨q.B + 5, 0, none⟩), .iface ty x] W fun e W' => e = .returned (.tuple #[]) ∧ ∃ a' cap', St q mo j en a' (n + 1) cap' W' ∧ Below q.B W W' ∧ K33 W W' := by
  obtain ⟨i0, hi, hz0, hz1, hz2⟩ := info_parts info125
  have ht := h.t.cell
  have hf := h.t.frozen
  have hs := h.size
  obtain ⟨xs, ho⟩ := h.o
  have HS : Hid (St q mo j en a n cap W) := h
  unfold tcells at ht
  clear h
  go_enter Try.func31, Try.ntmps31
  go_wp2_with (at_builtin; refine wpList_append_lies _ rfl _ _ 63 rfl (q.B + 6) 125 i0 .nilIface 1 16 Try.underlying63 hi hz0 hz1 hz2 rfl (by decide) _ n xs rfl (ho.alloc _) ⟨W.heap.size, 0, none⟩ 1 1 [.iface ty x] rfl rfl (cell_one_new _ _ _) (by simp [Value.oneCell']) (by decide) (by unfold maxLen; omega) (by omega) (by simp; omega) (W.heap.size + 1) (by simp) ?_; intro g cap' w1 ho' hg _ hlt; have hb1 := HS.out.behind hg; unfold tcells at hb1; have hc1 := hb1.cell; have hf1 := hb1.frozen; have R := HS.out.events ho' hg; have HR : Hid (_ ∧ _) := R; clear hb1 R ht hf ho' hg ho)
  go_end0
  exact ⟨rfl, _, _, HR.out.1, HR.out.2.1, HR.out.2.2⟩
end Go.Proofs.Qxb6615073a.Vd
