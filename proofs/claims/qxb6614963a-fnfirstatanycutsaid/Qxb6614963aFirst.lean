/-
  changelog.First (12) over slices.Values: the first release whose version is not 'Unreleased', or none.
-/
import Derived.Test.Qxb6614963aValues
namespace Go.Proofs.Qxb6614963a.Fst
open Go.RowKit Go.Shelf
attribute [local go_sem] Oper.semAt_some

/-- the version is that of the unreleased section -/
def unr (s : ByteArray) : Bool := s.toList == [85, 110, 114, 101, 108, 101, 97, 115, 101, 100]

/-- block B holds the cells cs, none frozen -/
def Blk (W : World) (B : Nat) (cs : Array Value) (t : TypeId) : Prop := W.heap[B]? = some (.cells cs t (0, 0))
theorem Blk.lt {W : World} {B : Nat} {cs : Array Value} {t : TypeId} (h : Blk W B cs t) : B < W.heap.size := (Array.getElem?_eq_some_iff.1 h).1
theorem Blk.new (W : World) (cs : Array Value) (t : TypeId) : Blk (W.alloc (.cells cs t)) W.heap.size cs t := World.alloc_heap_new W _
theorem Blk.kept {W W' : World} {row : Option Nat} {B : Nat} {cs : Array Value} {t : TypeId} (h : Blk W B cs t) (hg : W.grownBy W' row) (hne : some B ≠ row) : Blk W' B cs t := (hg.block B h.lt hne).trans h
theorem Blk.alloc {W : World} {B : Nat} {cs : Array Value} {t : TypeId} (h : Blk W B cs t) (o : Obj) : Blk (W.alloc o) B cs t := h.kept (World.grownBy_alloc W o none) (by simp)
theorem Blk.own {W W' : World} {row : Option Nat} {B : Nat} {cs : Array Value} {t : TypeId} (h : Blk W B cs t) (hg : W.grownBy W' row) (hr : ∀ r, row = some r → ∃ o : Obj, W.heap[r]? = some o ∧ o.isCells = false) : Blk W' B cs t :=
  h.kept hg (fun e => by obtain ⟨o, ho, hc⟩ := hr B e.symm; rw [show W.heap[B]? = _ from h] at ho; cases ho; cases hc)
theorem Blk.cell {W : World} {B : Nat} {cs : Array Value} {t : TypeId} (h : Blk W B cs t) (i : Nat) : W.cell? ⟨B, i, none⟩ = cs[i]? := by simp [World.cell?, show W.heap[B]? = _ from h]
theorem Blk.frozen {W : World} {B : Nat} {cs : Array Value} {t : TypeId} (h : Blk W B cs t) (i : Nat) : W.frozen? ⟨B, i, none⟩ = false := by simp [World.frozen?, show W.heap[B]? = _ from h]
theorem Blk.set {W : World} {B : Nat} {cs : Array Value} {t : TypeId} (h : Blk W B cs t) (i : Nat) (v : Value) : Blk (W.setCell ⟨B, i, none⟩ v) B (cs.setIfInBounds i v) t := by
  obtain ⟨hlt, hk⟩ := Array.getElem?_eq_some_iff.1 h
  show (W.heap.modify B _)[B]? = _
  rw [Array.getElem?_eq_getElem (by rw [Array.size_modify]; exact hlt), Array.getElem_modify_self, hk]
  rfl
theorem Blk.other {W : World} {B : Nat} {cs : Array Value} {t : TypeId} (h : Blk W B cs t) {B' : Nat} (hne : B ≠ B') (i : Nat) (v : Value) : Blk (W.setCell ⟨B', i, none⟩ v) B cs t :=
  (Below.heap_setCell _ _ _ B hne).trans h

/-- a release and a bool stored into the two result boxes -/
theorem res_stored {W w : World} {B : Nat} (s : ByteArray) (m : Int) (c : Bool) {c0 : Bool} (i2 : Blk W B #[.string ⟨#[]⟩, .slice none 0 0, .int .i64 0, .slice none 0 0, .bool false, .int .i64 0, .int .u8 0, .bool false, .slice none 0 0, .int .i64 0, .int .i64 0, .int .i64 0] 30) (i3 : Blk W (B + 1) #[.bool c0] 4) (i4 : Below B w W) :
    KeepsOthers W ((((((((((((((W).setCell ⟨B, 0, none⟩ (.string s)).setCell ⟨B, 1, none⟩ (.slice none 0 0)).setCell ⟨B, 2, none⟩ (.int .i64 m)).setCell ⟨B, 3, none⟩ (.slice none 0 0)).setCell ⟨B, 4, none⟩ (.bool false)).setCell ⟨B, 5, none⟩ (.int .i64 0)).setCell ⟨B, 6, none⟩ (.int .u8 0)).setCell ⟨B, 7, none⟩ (.bool false)).setCell ⟨B, 8, none⟩ (.slice none 0 0)).setCell ⟨B, 9, none⟩ (.int .i64 0)).setCell ⟨B, 10, none⟩ (.int .i64 0)).setCell ⟨B, 11, none⟩ (.int .i64 0)).setCell ⟨B + 1, 0, none⟩ (.bool c)) ∧ Blk ((((((((((((((W).setCell ⟨B, 0, none⟩ (.string s)).setCell ⟨B, 1, none⟩ (.slice none 0 0)).setCell ⟨B, 2, none⟩ (.int .i64 m)).setCell ⟨B, 3, none⟩ (.slice none 0 0)).setCell ⟨B, 4, none⟩ (.bool false)).setCell ⟨B, 5, none⟩ (.int .i64 0)).setCell ⟨B, 6, none⟩ (.int .u8 0)).setCell ⟨B, 7, none⟩ (.bool false)).setCell ⟨B, 8, none⟩ (.slice none 0 0)).setCell ⟨B, 9, none⟩ (.int .i64 0)).setCell ⟨B, 10, none⟩ (.int .i64 0)).setCell ⟨B, 11, none⟩ (.int .i64 0)).setCell ⟨B + 1, 0, none⟩ (.bool c)) B #[.string s, .slice none 0 0, .int .i64 m, .slice none 0 0, .bool false, .int .i64 0, .int .u8 0, .bool false, .slice none 0 0, .int .i64 0, .int .i64 0, .int .i64 0] 30 ∧ Blk ((((((((((((((W).setCell ⟨B, 0, none⟩ (.string s)).setCell ⟨B, 1, none⟩ (.slice none 0 0)).setCell ⟨B, 2, none⟩ (.int .i64 m)).setCell ⟨B, 3, none⟩ (.slice none 0 0)).setCell ⟨B, 4, none⟩ (.bool false)).setCell ⟨B, 5, none⟩ (.int .i64 0)).setCell ⟨B, 6, none⟩ (.int .u8 0)).setCell ⟨B, 7, none⟩ (.bool false)).setCell ⟨B, 8, none⟩ (.slice none 0 0)).setCell ⟨B, 9, none⟩ (.int .i64 0)).setCell ⟨B, 10, none⟩ (.int .i64 0)).setCell ⟨B, 11, none⟩ (.int .i64 0)).setCell ⟨B + 1, 0, none⟩ (.bool c)) (B + 1) #[.bool c] 4 ∧ Below B w ((((((((((((((W).setCell ⟨B, 0, none⟩ (.string s)).setCell ⟨B, 1, none⟩ (.slice none 0 0)).setCell ⟨B, 2, none⟩ (.int .i64 m)).setCell ⟨B, 3, none⟩ (.slice none 0 0)).setCell ⟨B, 4, none⟩ (.bool false)).setCell ⟨B, 5, none⟩ (.int .i64 0)).setCell ⟨B, 6, none⟩ (.int .u8 0)).setCell ⟨B, 7, none⟩ (.bool false)).setCell ⟨B, 8, none⟩ (.slice none 0 0)).setCell ⟨B, 9, none⟩ (.int .i64 0)).setCell ⟨B, 10, none⟩ (.int .i64 0)).setCell ⟨B, 11, none⟩ (.int .i64 0)).setCell ⟨B + 1, 0, none⟩ (.bool c)) := by
  refine ⟨((((((((((((KeepsOthers.setCell _ _ _).trans (KeepsOthers.setCell _ _ _)).trans (KeepsOthers.setCell _ _ _)).trans (KeepsOthers.setCell _ _ _)).trans (KeepsOthers.setCell _ _ _)).trans (KeepsOthers.setCell _ _ _)).trans (KeepsOthers.setCell _ _ _)).trans (KeepsOthers.setCell _ _ _)).trans (KeepsOthers.setCell _ _ _)).trans (KeepsOthers.setCell _ _ _)).trans (KeepsOthers.setCell _ _ _)).trans (KeepsOthers.setCell _ _ _)).trans (KeepsOthers.setCell _ _ _), ?_, ?_, (((((((((((((i4).setCell (p := ⟨B, 0, none⟩) (Nat.le_refl _) (.string s)).setCell (p := ⟨B, 1, none⟩) (Nat.le_refl _) (.slice none 0 0)).setCell (p := ⟨B, 2, none⟩) (Nat.le_refl _) (.int .i64 m)).setCell (p := ⟨B, 3, none⟩) (Nat.le_refl _) (.slice none 0 0)).setCell (p := ⟨B, 4, none⟩) (Nat.le_refl _) (.bool false)).setCell (p := ⟨B, 5, none⟩) (Nat.le_refl _) (.int .i64 0)).setCell (p := ⟨B, 6, none⟩) (Nat.le_refl _) (.int .u8 0)).setCell (p := ⟨B, 7, none⟩) (Nat.le_refl _) (.bool false)).setCell (p := ⟨B, 8, none⟩) (Nat.le_refl _) (.slice none 0 0)).setCell (p := ⟨B, 9, none⟩) (Nat.le_refl _) (.int .i64 0)).setCell (p := ⟨B, 10, none⟩) (Nat.le_refl _) (.int .i64 0)).setCell (p := ⟨B, 11, none⟩) (Nat.le_refl _) (.int .i64 0)).setCell (p := ⟨B + 1, 0, none⟩) (by simp) (.bool c)⟩
  · have h := (((((((((((((i2).set 0 (.string s)).set 1 (.slice none 0 0)).set 2 (.int .i64 m)).set 3 (.slice none 0 0)).set 4 (.bool false)).set 5 (.int .i64 0)).set 6 (.int .u8 0)).set 7 (.bool false)).set 8 (.slice none 0 0)).set 9 (.int .i64 0)).set 10 (.int .i64 0)).set 11 (.int .i64 0)).other (B' := B + 1) (by omega) 0 (.bool c)
    simp only [List.setIfInBounds_toArray, List.set_cons_zero, List.set_cons_succ] at h
    exact h
  · have h := (((((((((((((i3).other (B' := B) (by omega) 0 (.string s)).other (B' := B) (by omega) 1 (.slice none 0 0)).other (B' := B) (by omega) 2 (.int .i64 m)).other (B' := B) (by omega) 3 (.slice none 0 0)).other (B' := B) (by omega) 4 (.bool false)).other (B' := B) (by omega) 5 (.int .i64 0)).other (B' := B) (by omega) 6 (.int .u8 0)).other (B' := B) (by omega) 7 (.bool false)).other (B' := B) (by omega) 8 (.slice none 0 0)).other (B' := B) (by omega) 9 (.int .i64 0)).other (B' := B) (by omega) 10 (.int .i64 0)).other (B' := B) (by omega) 11 (.int .i64 0)).set 0 (.bool c)
    simp only [List.setIfInBounds_toArray, List.set_cons_zero] at h
    exact h

/-- a release stored into a box of its own -/
theorem rel_stored {W w : World} {B : Nat} (s : ByteArray) (m : Int) (i2 : Blk W B #[.string ⟨#[]⟩, .slice none 0 0, .int .i64 0, .slice none 0 0, .bool false, .int .i64 0, .int .u8 0, .bool false, .slice none 0 0, .int .i64 0, .int .i64 0, .int .i64 0] 30) (i4 : Below B w W) :
    Blk (((((((((((((W).setCell ⟨B, 0, none⟩ (.string s)).setCell ⟨B, 1, none⟩ (.slice none 0 0)).setCell ⟨B, 2, none⟩ (.int .i64 m)).setCell ⟨B, 3, none⟩ (.slice none 0 0)).setCell ⟨B, 4, none⟩ (.bool false)).setCell ⟨B, 5, none⟩ (.int .i64 0)).setCell ⟨B, 6, none⟩ (.int .u8 0)).setCell ⟨B, 7, none⟩ (.bool false)).setCell ⟨B, 8, none⟩ (.slice none 0 0)).setCell ⟨B, 9, none⟩ (.int .i64 0)).setCell ⟨B, 10, none⟩ (.int .i64 0)).setCell ⟨B, 11, none⟩ (.int .i64 0)) B #[.string s, .slice none 0 0, .int .i64 m, .slice none 0 0, .bool false, .int .i64 0, .int .u8 0, .bool false, .slice none 0 0, .int .i64 0, .int .i64 0, .int .i64 0] 30 ∧ Below B w (((((((((((((W).setCell ⟨B, 0, none⟩ (.string s)).setCell ⟨B, 1, none⟩ (.slice none 0 0)).setCell ⟨B, 2, none⟩ (.int .i64 m)).setCell ⟨B, 3, none⟩ (.slice none 0 0)).setCell ⟨B, 4, none⟩ (.bool false)).setCell ⟨B, 5, none⟩ (.int .i64 0)).setCell ⟨B, 6, none⟩ (.int .u8 0)).setCell ⟨B, 7, none⟩ (.bool false)).setCell ⟨B, 8, none⟩ (.slice none 0 0)).setCell ⟨B, 9, none⟩ (.int .i64 0)).setCell ⟨B, 10, none⟩ (.int .i64 0)).setCell ⟨B, 11, none⟩ (.int .i64 0)) := by
  refine ⟨?_, ((((((((((((i4).setCell (p := ⟨B, 0, none⟩) (Nat.le_refl _) (.string s)).setCell (p := ⟨B, 1, none⟩) (Nat.le_refl _) (.slice none 0 0)).setCell (p := ⟨B, 2, none⟩) (Nat.le_refl _) (.int .i64 m)).setCell (p := ⟨B, 3, none⟩) (Nat.le_refl _) (.slice none 0 0)).setCell (p := ⟨B, 4, none⟩) (Nat.le_refl _) (.bool false)).setCell (p := ⟨B, 5, none⟩) (Nat.le_refl _) (.int .i64 0)).setCell (p := ⟨B, 6, none⟩) (Nat.le_refl _) (.int .u8 0)).setCell (p := ⟨B, 7, none⟩) (Nat.le_refl _) (.bool false)).setCell (p := ⟨B, 8, none⟩) (Nat.le_refl _) (.slice none 0 0)).setCell (p := ⟨B, 9, none⟩) (Nat.le_refl _) (.int .i64 0)).setCell (p := ⟨B, 10, none⟩) (Nat.le_refl _) (.int .i64 0)).setCell (p := ⟨B, 11, none⟩) (Nat.le_refl _) (.int .i64 0)⟩
  have h := ((((((((((((i2).set 0 (.string s)).set 1 (.slice none 0 0)).set 2 (.int .i64 m)).set 3 (.slice none 0 0)).set 4 (.bool false)).set 5 (.int .i64 0)).set 6 (.int .u8 0)).set 7 (.bool false)).set 8 (.slice none 0 0)).set 9 (.int .i64 0)).set 10 (.int .i64 0)).set 11 (.int .i64 0)
  simp only [List.setIfInBounds_toArray, List.set_cons_zero, List.set_cons_succ] at h
  exact h

set_option maxRecDepth 100000 in
set_option maxHeartbeats 2000000 in
theorem first_in (F : Fence) (n : Nat) (h12 : F.fn 12) (h14 : F.fn 14) (hro : F.round = none) (hn : 3 ≤ n) (Bs b off len cap : Nat) (f : Nat → ByteArray × Int) (hreach : len ≤ 1048576) (w : World) (hBs : Bs < w.heap.size) (hb : b < w.heap.size)
    (hcs : w.cell? ⟨Bs, 0, none⟩ = some (.slice (some ⟨b, off, none⟩) len cap)) (hc : ∀ j, j < len → RelAt w b (off + j * 12) (f j)) :
    CallsIn F n Try.prog 12 #[.func (.func 14) #[] #[.pointer (some ⟨Bs, 0, none⟩)]] w fun e W' =>
      ((∃ k, k < len ∧ (∀ j, j < k → unr (f j).1 = true) ∧ unr (f k).1 = false ∧ e = .returned (.tuple #[.agg #[.string (f k).1, .slice none 0 0, .int .i64 (f k).2, .slice none 0 0, .bool false, .int .i64 0, .int .u8 0, .bool false, .slice none 0 0, .int .i64 0, .int .i64 0, .int .i64 0], .bool true])) ∨
       ((∀ j, j < len → unr (f j).1 = true) ∧ e = .returned (.tuple #[.agg #[.string ⟨#[]⟩, .slice none 0 0, .int .i64 0, .slice none 0 0, .bool false, .int .i64 0, .int .u8 0, .bool false, .slice none 0 0, .int .i64 0, .int .i64 0, .int .i64 0], .bool false]))) ∧ Below w.heap.size w W' := by
  have h1 : 1 ≤ n := by omega
  refine callsIn_of_wp_marks Try.func12 rfl h12 ?_ hro
  simp only [Try.ntmps12, List.size_toArray, List.length_cons, List.length_nil, Nat.reduceAdd, Nat.reduceSub, Array.replicate_succ, Array.replicate_zero, List.push_toArray, List.append_toArray, List.nil_append, List.cons_append]
  gi_wp2
  have bR := Blk.new w #[.string ⟨#[]⟩, .slice none 0 0, .int .i64 0, .slice none 0 0, .bool false, .int .i64 0, .int .u8 0, .bool false, .slice none 0 0, .int .i64 0, .int .i64 0, .int .i64 0] 30
  have bO := Blk.new (w.alloc (.cells #[.string ⟨#[]⟩, .slice none 0 0, .int .i64 0, .slice none 0 0, .bool false, .int .i64 0, .int .u8 0, .bool false, .slice none 0 0, .int .i64 0, .int .i64 0, .int .i64 0] 30)) #[.bool false] 4
  rw [World.size_alloc] at bO
  have hB0 : Below w.heap.size w ((w.alloc (.cells #[.string ⟨#[]⟩, .slice none 0 0, .int .i64 0, .slice none 0 0, .bool false, .int .i64 0, .int .u8 0, .bool false, .slice none 0 0, .int .i64 0, .int .i64 0, .int .i64 0] 30)).alloc (.cells #[.bool false] 4)) := ((Below.refl _ w).alloc (Nat.le_refl _) _).alloc (by simp) _
  refine wpIn_rangeFunc_ownH hro h1 (gf := 14) (lb := #[.pointer (some ⟨Bs, 0, none⟩)]) rfl h14 (enters_of Try.func14 (by kernel_rfl) rfl)
    (values_stops F (n - 1) h14 hro (by omega) Bs w.heap.size b off len cap f hreach _ (by simp; omega) (by simp; omega) hb ((hB0.cell (p := ⟨Bs, 0, none⟩) hBs).trans hcs) (fun j hj => (hc j hj).below hB0 hb)) belowK_t (belowK_b (by simp; omega)) (Below.refl _ _) (fun _ => rfl)
    (fun pre W => ((∀ p ∈ pre, unr p.1 = true) ∧ Blk W w.heap.size #[.string ⟨#[]⟩, .slice none 0 0, .int .i64 0, .slice none 0 0, .bool false, .int .i64 0, .int .u8 0, .bool false, .slice none 0 0, .int .i64 0, .int .i64 0, .int .i64 0] 30 ∧ Blk W (w.heap.size + 1) #[.bool false] 4) ∧ Below w.heap.size w W)
    (fun c pre W => (c = .ret ∧ ∃ ini x, pre = ini ++ [x] ∧ (∀ p ∈ ini, unr p.1 = true) ∧ unr x.1 = false ∧ Blk W w.heap.size #[.string x.1, .slice none 0 0, .int .i64 x.2, .slice none 0 0, .bool false, .int .i64 0, .int .u8 0, .bool false, .slice none 0 0, .int .i64 0, .int .i64 0, .int .i64 0] 30 ∧ Blk W (w.heap.size + 1) #[.bool true] 4) ∧ Below w.heap.size w W)
    (OwnFrom.and (Own.from (fun s A B row hs hg hr => ⟨hs.1, hs.2.1.own hg hr, hs.2.2.own hg hr⟩) _) (ownFrom_below (Nat.le_refl _) (by simp; omega)))
    (fun c => OwnFrom.and (Own.from (fun s A B row hs hg hr => by obtain ⟨hc, ini, last, e1, e2, e3, e4, e5⟩ := hs; exact ⟨hc, ini, last, e1, e2, e3, e4.own hg hr, e5.own hg hr⟩) _) (ownFrom_below (Nat.le_refl _) (by simp; omega)))
    ⟨⟨by simp, bR.alloc _, bO⟩, hB0⟩
    (fun x a' W => ∃ Bx, w.heap.size + 1 < Bx ∧ Blk W Bx #[.string x.1, .slice none 0 0, .int .i64 x.2, .slice none 0 0, .bool false, .int .i64 0, .int .u8 0, .bool false, .slice none 0 0, .int .i64 0, .int .i64 0, .int .i64 0] 30 ∧ a' = { tmps := #[.func (.func 14) #[] #[.pointer (some ⟨Bs, 0, none⟩)], undef, .pointer (some ⟨w.heap.size, 0, none⟩), .pointer (some ⟨w.heap.size + 1, 0, none⟩), .pointer (some ⟨Bx, 0, none⟩), .func (.func 14) #[] #[.pointer (some ⟨Bs, 0, none⟩)], .agg #[.string x.1, .slice none 0 0, .int .i64 x.2, .slice none 0 0, .bool false, .int .i64 0, .int .u8 0, .bool false, .slice none 0 0, .int .i64 0, .int .i64 0, .int .i64 0], undef, undef, undef, undef, undef], defers := [] })
    (fun x a' => Own.from (fun s A B row hs hg hr => by obtain ⟨Bx, h1, h2, h3⟩ := hs; exact ⟨Bx, h1, h2.own hg hr, h3⟩) _) ?assign ?body ?done ?stop
  case assign =>
    rintro l pre x W K ⟨⟨i1, i2, i3⟩, i4⟩ hK
    gi_wp2
    refine hK _ _ ((KeepsOthers.alloc _ _).from _) ((Below.refl _ W).alloc i4.size _) ⟨⟨i1, i2.alloc _, i3.alloc _⟩, i4.alloc i4.size _⟩ ⟨W.heap.size, i3.lt, Blk.new W _ _, ?_⟩
    rfl
  case body =>
    rintro l pre x a' W hl ⟨r, hr⟩ ⟨⟨i1, i2, i3⟩, i4⟩ ⟨Bx, hBx, bX, rfl⟩ hlt
    have cx := bX.cell
    have c0 := i2.cell
    have c1 := i3.cell
    have fx := bX.frozen
    have f0 := i2.frozen
    have f1 := i3.frozen
    cases hu : unr x.1
    · have hd : (x.1.toList == [85, 110, 114, 101, 108, 101, 97, 115, 101, 100]) = false := hu
      gi_wp2
      clear cx c0 c1 fx f0 f1 bX
      obtain ⟨k13, b0, b1, lo⟩ := res_stored x.1 x.2 true i2 i3 i4
      exact ⟨k13.from _, ⟨rfl, pre, x, rfl, i1, hu, b0, b1⟩, lo⟩
    · have hd : (x.1.toList == [85, 110, 114, 101, 108, 101, 97, 115, 101, 100]) = true := hu
      gi_wp2
      exact ⟨KeepsFrom.refl _ _, Below.refl _ _, ⟨fun p hp' => (List.mem_append.1 hp').elim (i1 p) (fun e => by simp at e; subst e; exact hu), i2, i3⟩, i4⟩
  case done =>
    rintro D ys W hD rfl ⟨⟨i1, i2, i3⟩, i4⟩ hK
    have c0 := i2.cell
    have c1 := i3.cell
    have f0 := i2.frozen
    have f1 := i3.frozen
    gi_wp2
    obtain ⟨k13, b0, b1, lo⟩ := res_stored ⟨#[]⟩ 0 false i2 i3 i4
    have hK' := k13.same D _ hK rfl
    refine ⟨by simp, .inl ⟨_, _, rfl, run_takeDeferred hK', ?_⟩⟩
    have g0 := b0.own (grownBy_putObj' _ D (.deferred none)) (fun r e => by cases e; exact ⟨_, hK', rfl⟩)
    have g1 := b1.own (grownBy_putObj' _ D (.deferred none)) (fun r e => by cases e; exact ⟨_, hK', rfl⟩)
    have hfin := lo.trans (belowK_b (w := w) (Nat.le_refl _) _ D _ (.deferred none) (by simp at hD; omega) hK' rfl rfl)
    have d0 := g0.cell
    have d1 := g1.cell
    refine ⟨.tuple #[.agg #[.string ⟨#[]⟩, .slice none 0 0, .int .i64 0, .slice none 0 0, .bool false, .int .i64 0, .int .u8 0, .bool false, .slice none 0 0, .int .i64 0, .int .i64 0, .int .i64 0], .bool false], ?_, .inr ⟨fun j hj => i1 (f j) (by simp only [upto, List.mem_map, List.mem_range]; exact ⟨j, hj, rfl⟩), rfl⟩, hfin⟩
    clear hK hK' hfin b0 b1 lo k13 g0 g1 i2 i3 i4 c0 c1 f0 f1 hc hcs i1
    simp [results, Try.f12, go_sem, d0, d1]
  case stop =>
    rintro D c pre W hD ⟨k, hk, rfl⟩ ⟨⟨rfl, ini, x, e1, e2, e3, e4, e5⟩, hB⟩ hK
    gi_wp2
    refine ⟨by simp, .inl ⟨_, _, rfl, run_takeDeferred hK, ?_⟩⟩
    have g0 := e4.own (grownBy_putObj' _ D (.deferred none)) (fun r e => by cases e; exact ⟨_, hK, rfl⟩)
    have g1 := e5.own (grownBy_putObj' _ D (.deferred none)) (fun r e => by cases e; exact ⟨_, hK, rfl⟩)
    have hfin := hB.trans (belowK_b (w := w) (Nat.le_refl _) _ D _ (.deferred none) (by simp at hD; omega) hK rfl rfl)
    have d0 := g0.cell
    have d1 := g1.cell
    obtain ⟨k', rfl⟩ : ∃ k', k = k' + 1 := by
      cases k with
      | zero => simp [upto] at e1
      | succ k' => exact ⟨k', rfl⟩
    rw [upto_succ] at e1
    obtain ⟨rfl, e6⟩ := List.append_inj' e1 rfl
    obtain rfl : f k' = x := by simpa using e6
    refine ⟨.tuple #[.agg #[.string (f k').1, .slice none 0 0, .int .i64 (f k').2, .slice none 0 0, .bool false, .int .i64 0, .int .u8 0, .bool false, .slice none 0 0, .int .i64 0, .int .i64 0, .int .i64 0], .bool true], ?_, .inl ⟨k', by omega, fun j hj => e2 (f j) (by simp only [upto, List.mem_map, List.mem_range]; exact ⟨j, hj, rfl⟩), e3, rfl⟩, hfin⟩
    clear hK hfin g0 g1 e4 e5 hB hc hcs e2
    simp [results, Try.f12, go_sem, d0, d1]
set_option maxRecDepth 100000 in
set_option maxHeartbeats 2000000 in
theorem zzFirst_in (F : Fence) (n : Nat) (h9 : F.fn 9) (h12 : F.fn 12) (h13 : F.fn 13) (h14 : F.fn 14) (hro : F.round = none) (hn : 4 ≤ n) (b off len cap : Nat) (f : Nat → ByteArray × Int) (hreach : len ≤ 1048576) (w : World) (hb : b < w.heap.size)
    (hc : ∀ j, j < len → RelAt w b (off + j * 12) (f j)) :
    CallsIn F n Try.prog 9 #[.slice (some ⟨b, off, none⟩) len cap] w fun e W' =>
      ((∃ k, k < len ∧ (∀ j, j < k → unr (f j).1 = true) ∧ unr (f k).1 = false ∧ e = .returned (.tuple #[.agg #[.string (f k).1, .slice none 0 0, .int .i64 (f k).2, .slice none 0 0, .bool false, .int .i64 0, .int .u8 0, .bool false, .slice none 0 0, .int .i64 0, .int .i64 0, .int .i64 0], .bool true])) ∨
       ((∀ j, j < len → unr (f j).1 = true) ∧ e = .returned (.tuple #[.agg #[.string ⟨#[]⟩, .slice none 0 0, .int .i64 0, .slice none 0 0, .bool false, .int .i64 0, .int .u8 0, .bool false, .slice none 0 0, .int .i64 0, .int .i64 0, .int .i64 0], .bool false]))) ∧ Below w.heap.size w W' := by
  have h1 : 1 ≤ n := by omega
  refine callsIn_of_wp Try.func9 rfl h9 ?_ hro
  simp only [Try.ntmps9, List.size_toArray, List.length_cons, List.length_nil, Nat.reduceAdd, Nat.reduceSub, Array.replicate_succ, Array.replicate_zero, List.push_toArray, List.append_toArray, List.nil_append, List.cons_append]
  have H : Hid (∀ j, j < len → RelAt w b (off + j * 12) (f j)) := hc
  clear hc
  gi_wp2_with fail
  refine (values_in F (n - 1) h13 hro _ _ _ _).mono ?_
  rintro e w' ⟨rfl, rfl⟩
  gi_wp2_with fail
  have bR := Blk.new w #[.string ⟨#[]⟩, .slice none 0 0, .int .i64 0, .slice none 0 0, .bool false, .int .i64 0, .int .u8 0, .bool false, .slice none 0 0, .int .i64 0, .int .i64 0, .int .i64 0] 30
  have bN := Blk.new (w.alloc (.cells #[.string ⟨#[]⟩, .slice none 0 0, .int .i64 0, .slice none 0 0, .bool false, .int .i64 0, .int .u8 0, .bool false, .slice none 0 0, .int .i64 0, .int .i64 0, .int .i64 0] 30)) #[.slice (some ⟨b, off, none⟩) len cap] 25
  rw [World.size_alloc] at bN
  have hB0 : Below w.heap.size w ((w.alloc (.cells #[.string ⟨#[]⟩, .slice none 0 0, .int .i64 0, .slice none 0 0, .bool false, .int .i64 0, .int .u8 0, .bool false, .slice none 0 0, .int .i64 0, .int .i64 0, .int .i64 0] 30)).alloc (.cells #[.slice (some ⟨b, off, none⟩) len cap] 25)) := ((Below.refl _ w).alloc (Nat.le_refl _) _).alloc (by simp) _
  refine (first_in F (n - 1) h12 h14 hro (by omega) (w.heap.size + 1) b off len cap f hreach _ (by simp) (by simp; omega) (bN.cell 0) (fun j hj => (H.out j hj).below hB0 hb)).mono ?_
  rintro e W' ⟨⟨k, hk, hk1, hk2, rfl⟩ | ⟨hk1, rfl⟩, hB⟩
  · have bR' : Blk W' w.heap.size #[.string ⟨#[]⟩, .slice none 0 0, .int .i64 0, .slice none 0 0, .bool false, .int .i64 0, .int .u8 0, .bool false, .slice none 0 0, .int .i64 0, .int .i64 0, .int .i64 0] 30 := (hB.block _ (by simp; omega)).trans (bR.alloc _)
    have hB2 := hB0.trans (hB.mono (by simp; omega))
    have c0 := bR'.cell
    have f0 := bR'.frozen
    gi_wp2
    obtain ⟨g0, hfin⟩ := rel_stored (f k).1 (f k).2 bR' hB2
    have d0 := g0.cell
    exact bodyPost_ret (v := .tuple #[.agg #[.string (f k).1, .slice none 0 0, .int .i64 (f k).2, .slice none 0 0, .bool false, .int .i64 0, .int .u8 0, .bool false, .slice none 0 0, .int .i64 0, .int .i64 0, .int .i64 0], .bool true]) (by simp [results, Try.results9, go_sem, d0]) rfl ⟨.inl ⟨k, hk, hk1, hk2, rfl⟩, hfin⟩
  · have bR' : Blk W' w.heap.size #[.string ⟨#[]⟩, .slice none 0 0, .int .i64 0, .slice none 0 0, .bool false, .int .i64 0, .int .u8 0, .bool false, .slice none 0 0, .int .i64 0, .int .i64 0, .int .i64 0] 30 := (hB.block _ (by simp; omega)).trans (bR.alloc _)
    have hB2 := hB0.trans (hB.mono (by simp; omega))
    have c0 := bR'.cell
    have f0 := bR'.frozen
    gi_wp2
    obtain ⟨g0, hfin⟩ := rel_stored ⟨#[]⟩ 0 bR' hB2
    have d0 := g0.cell
    exact bodyPost_ret (v := .tuple #[.agg #[.string ⟨#[]⟩, .slice none 0 0, .int .i64 0, .slice none 0 0, .bool false, .int .i64 0, .int .u8 0, .bool false, .slice none 0 0, .int .i64 0, .int .i64 0, .int .i64 0], .bool false]) (by simp [results, Try.results9, go_sem, d0]) rfl ⟨.inr ⟨hk1, rfl⟩, hfin⟩
end Go.Proofs.Qxb6614963a.Fst
