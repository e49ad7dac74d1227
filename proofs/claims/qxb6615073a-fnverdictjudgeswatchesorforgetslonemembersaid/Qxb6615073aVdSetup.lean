/-
  FnVerdict..: contracts of the builders ZZnewRecords (10), ZZputMember (11), ZZnewTxn (12) and of the readers ZZeventCount (14), ZZhasMember (15), ZZmemberJudged (16); of the bound on lengths (9).
-/
import Derived.Test.Qxb6615073aVdFind
namespace Go.Proofs.Qxb6615073a.Vd
open Go.RowKit

/-- the records alone, and so many blocks behind them -/
structure Rc (q : Cn) (mo : Obj) (k : Nat) (W : World) : Prop where
  m : W.heap[q.B]? = some mo
  r : W.heap[q.B + 1]? = some (.map #[] 0)
  p : W.heap[q.B + 2]? = some (.map #[] 0)
  c : Blk W (q.B + 3) (ccells q.B q.L q.D q.ep) 58
  s : W.heap.size = q.B + k

theorem alloc4 (w : World) (a b c d : Obj) :
    ((((w.alloc a).alloc b).alloc c).alloc d).heap[w.heap.size]? = some a ∧ ((((w.alloc a).alloc b).alloc c).alloc d).heap[w.heap.size + 1]? = some b ∧ ((((w.alloc a).alloc b).alloc c).alloc d).heap[w.heap.size + 2]? = some c ∧
    ((((w.alloc a).alloc b).alloc c).alloc d).heap[w.heap.size + 3]? = some d ∧ ((((w.alloc a).alloc b).alloc c).alloc d).heap.size = w.heap.size + 4 := by
  have h0 := heap_alloc_new w a
  have h1 := heap_alloc_new (w.alloc a) b
  have h2 := heap_alloc_new ((w.alloc a).alloc b) c
  have h3 := heap_alloc_new (((w.alloc a).alloc b).alloc c) d
  simp only [World.size_alloc] at h1 h2 h3
  refine ⟨?_, ?_, ?_, h3, by simp⟩
  · rw [Below.heap_alloc _ _ _ (by simp <;> omega), Below.heap_alloc _ _ _ (by simp <;> omega), Below.heap_alloc _ _ _ (by simp)]; exact h0
  · rw [Below.heap_alloc _ _ _ (by simp <;> omega), Below.heap_alloc _ _ _ (by simp)]; exact h1
  · rw [Below.heap_alloc _ _ _ (by simp)]; exact h2

set_option maxRecDepth 100000 in
theorem newRecords_any (q : Cn) (w : World) (hB : q.B = w.heap.size) :
    Calls Try.prog 10 #[.int .i64 q.L, .int .i64 q.D, .int .i64 q.ep, .int .u64 0] w fun e W => e = .returned (.pointer (some ⟨q.B + 3, 0, none⟩)) ∧ Rc q (.map #[] 0) 4 W ∧ Below q.B w W := by
  have hmm := @run_makeMap Try.prog
  have HB : Hid (q.B = w.heap.size) := hB
  clear hB
  go_enter Try.func10, Try.ntmps10
  go_wp2
  go_ret
  have hb := HB.out
  refine ⟨by rw [hb]; rfl, ?_, by rw [hb]; exact ((((Below.refl _ _).alloc (Nat.le_refl _) _).alloc (by simp) _).alloc (by simp; omega) _).alloc (by simp; omega) _⟩
  obtain ⟨a0, a1, a2, a3, a4⟩ := alloc4 w (.map #[] 0) (.map #[] 0) (.map #[] 0) (.cells (ccells q.B q.L q.D q.ep) 58)
  unfold ccells at a0 a1 a2 a3 a4
  rw [hb] at a0 a1 a2 a3 a4
  exact ⟨by rw [hb]; exact a0, by rw [hb]; exact a1, by rw [hb]; exact a2, by unfold Blk ccells; rw [hb]; exact a3, by rw [hb]; exact a4⟩

theorem set_one {W : World} {b : Nat} {o : Obj} (hb : b < W.heap.size) : ({ W with heap := W.heap.setIfInBounds b o } : World).heap[b]? = some o ∧ ∀ k, k ≠ b → ({ W with heap := W.heap.setIfInBounds b o } : World).heap[k]? = W.heap[k]? :=
  ⟨by simp [hb], fun k hk => by simp [Ne.symm hk]⟩

set_option maxRecDepth 100000 in
theorem putMember_any (q : Cn) (en : Int) (W : World) (h : Rc q (.map #[] 0) 4 W) :
    Calls Try.prog 11 #[.pointer (some ⟨q.B + 3, 0, none⟩), .string q.nm, .int .i64 q.ep, .int .i64 q.la, .int .i64 q.fl, .bool q.lf, .bool false, .int .i64 en, .slice none 0 0] W fun e W' =>
      e = .returned (.tuple #[]) ∧ Rc q (moOf q) 5 W' ∧ Blk W' (q.B + 4) (kcells q.nm q.ep q.la q.fl q.lf false en) 62 ∧ Below q.B W W' := by
  have HR : Hid (Rc q (.map #[] 0) 4 W) := h
  have hs := h.s
  have cc := h.c.cell
  have l1 : q.B < W.heap.size := by omega
  have hm1 : (W.alloc (.cells (kcells q.nm q.ep q.la q.fl q.lf false en) 62)).heap[q.B]? = some (.map #[] 0) := (Below.heap_alloc W _ _ l1).trans h.m
  have hu := update_first (w := W.alloc (.cells (kcells q.nm q.ep q.la q.fl q.lf false en) 62)) (b := q.B) q.nm (.pointer (some ⟨W.heap.size, 0, none⟩)) hm1
  have HSZ : Hid (W.heap.size = q.B + 4) := hs
  unfold ccells at cc
  unfold kcells at hu
  clear h hs hm1
  go_enter Try.func11, Try.ntmps11
  go_wp2
  go_end0
  have hz := HSZ.out
  have hr := HR.out
  obtain ⟨x0, x1⟩ := set_one (W := W.alloc (.cells (kcells q.nm q.ep q.la q.fl q.lf false en) 62)) (b := q.B) (o := .map (one q.nm (.pointer (some ⟨W.heap.size, 0, none⟩))) 1) (by simp; omega)
  have e : ∀ k, k < W.heap.size → k ≠ q.B → _ := fun k hk hne => (x1 k hne).trans (Below.heap_alloc W (.cells (kcells q.nm q.ep q.la q.fl q.lf false en) 62) k hk)
  refine ⟨rfl, ⟨?_, (e _ (by omega) (by omega)).trans hr.r, (e _ (by omega) (by omega)).trans hr.p, (e _ (by omega) (by omega)).trans hr.c, by simp; omega⟩, ?_, ⟨rfl, rfl, rfl, by simp, fun k hk => e k (by omega) (by omega)⟩⟩
  · unfold moOf
    rw [show (⟨q.B + 4, 0, none⟩ : Addr) = ⟨W.heap.size, 0, none⟩ from by rw [hz]]
    exact x0
  · have h4 := (x1 W.heap.size (by omega)).trans (heap_alloc_new W (.cells (kcells q.nm q.ep q.la q.fl q.lf false en) 62))
    rw [← hz]
    exact h4

set_option maxRecDepth 100000 in
theorem newTxn_any (q : Cn) (en : Int) (W : World) (h : Rc q (moOf q) 5 W) (hk : Blk W (q.B + 4) (kcells q.nm q.ep q.la q.fl q.lf false en) 62) :
    Calls Try.prog 12 #[.pointer (some ⟨q.B + 3, 0, none⟩), .int .i64 q.now] W fun e W' => e = .returned (.pointer (some ⟨q.B + 5, 0, none⟩)) ∧ St q (moOf q) false en none 0 0 W' ∧ Below q.B W W' := by
  have HR : Hid (Rc q (moOf q) 5 W) := h
  have HK : Hid (Blk W (q.B + 4) (kcells q.nm q.ep q.la q.fl q.lf false en) 62) := hk
  clear h hk
  go_enter Try.func12, Try.ntmps12
  go_wp2
  go_ret
  have hr := HR.out
  have hz := hr.s
  have e : ∀ k, k < W.heap.size → (W.alloc (.cells (tcells q.B q.now (.slice none 0 0)) 75)).heap[k]? = W.heap[k]? := fun k hk => Below.heap_alloc W _ k hk
  have h5 := heap_alloc_new W (.cells (tcells q.B q.now (.slice none 0 0)) 75)
  rw [hz] at h5
  refine ⟨by rw [← hz]; rfl, ⟨(e _ (by omega)).trans hr.m, (e _ (by omega)).trans hr.r, (e _ (by omega)).trans hr.p, (e _ (by omega)).trans hr.c, (e _ (by omega)).trans HK.out, h5, [], World.ownsRow_nil _ _ _ _⟩, (Below.refl _ _).alloc (by omega) _⟩

set_option maxRecDepth 100000 in
theorem eventCount_any (q : Cn) (mo : Obj) (j : Bool) (en : Int) (a : Option Addr) (n cap : Nat) (W : World) (h : St q mo j en a n cap W) :
    Calls Try.prog 14 #[.pointer (some ⟨q.B + 5, 0, none⟩)] W fun e W' => e = .returned (.int .i64 (n : Int)) ∧ W' = W := by
  have tc := h.t.cell
  unfold tcells at tc
  clear h
  go_enter Try.func14, Try.ntmps14
  go_wp2
  go_ret
  exact ⟨rfl, rfl⟩

set_option maxRecDepth 100000 in
theorem hasMember_yes (q : Cn) (j : Bool) (en : Int) (a : Option Addr) (n cap : Nat) (W : World) (h : St q (moOf q) j en a n cap W) :
    Calls Try.prog 15 #[.pointer (some ⟨q.B + 3, 0, none⟩), .string q.nm] W fun e W' => e = .returned (.bool true) ∧ W' = W := by
  have cc := h.c.cell
  have hl := look_hit_ok _ _ _ h.m
  unfold ccells at cc
  clear h
  go_enter Try.func15, Try.ntmps15
  go_wp2
  go_ret
  exact ⟨rfl, rfl⟩

set_option maxRecDepth 100000 in
theorem hasMember_no (q : Cn) (j : Bool) (en : Int) (a : Option Addr) (n cap : Nat) (W : World) (h : St q (.map #[] 1) j en a n cap W) :
    Calls Try.prog 15 #[.pointer (some ⟨q.B + 3, 0, none⟩), .string q.nm] W fun e W' => e = .returned (.bool false) ∧ W' = W := by
  have cc := h.c.cell
  have hl := look_gone_ok q.nm _ h.m
  unfold ccells at cc
  clear h
  go_enter Try.func15, Try.ntmps15
  go_wp2
  go_ret
  exact ⟨rfl, rfl⟩

set_option maxRecDepth 100000 in
theorem memberJudged_any (q : Cn) (j : Bool) (en : Int) (a : Option Addr) (n cap : Nat) (W : World) (h : St q (moOf q) j en a n cap W) :
    Calls Try.prog 16 #[.pointer (some ⟨q.B + 3, 0, none⟩), .string q.nm] W fun e W' => e = .returned (.bool j) ∧ W' = W := by
  have cc := h.c.cell
  have kc := h.k.cell
  have hl := look_hit _ _ _ h.m
  unfold ccells at cc
  unfold kcells at kc
  clear h
  go_enter Try.func16, Try.ntmps16
  go_wp2
  go_ret
  exact ⟨rfl, rfl⟩

set_option maxRecDepth 100000 in
theorem zzBytes_any (x0 x1 x3 x4 x5 x7 x9 x10 : Int) (x6 : Bool) (nm vn : ByteArray) (w : World) :
    Calls Try.prog 9 #[.int .i64 x0, .int .i64 x1, .string nm, .int .i64 x3, .int .i64 x4, .int .i64 x5, .bool x6, .int .i64 x7, .string vn, .int .i64 x9, .int .i64 x10] w fun e w' =>
      (e = .returned (.bool true) ∨ e = .returned (.bool false)) ∧ w' = w := by
  go_enter Try.func9, Try.ntmps9
  go_wp2
  all_goals go_ret
  all_goals first | exact ⟨.inl rfl, rfl⟩ | exact ⟨.inr rfl, rfl⟩
end Go.Proofs.Qxb6615073a.Vd
