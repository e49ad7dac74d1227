/-
  FnFirstAtAnyCut: the row of releases as it is filled; ZZFirst's contract, once where the first release that counts is known, once where there is none.
-/
import Derived.Test.Qxb6614963aFirst
namespace Go.Proofs.Qxb6614963a.Fst
open Go.RowKit Go.Shelf

def put12 (cs : Array Value) (o : Nat) (x : ByteArray × Int) : Array Value := ((((((((((((cs).setIfInBounds (o) (.string x.1)).setIfInBounds (o + 1) (.slice none 0 0)).setIfInBounds (o + 2) (.int .i64 x.2)).setIfInBounds (o + 3) (.slice none 0 0)).setIfInBounds (o + 4) (.bool false)).setIfInBounds (o + 5) (.int .i64 0)).setIfInBounds (o + 6) (.int .u8 0)).setIfInBounds (o + 7) (.bool false)).setIfInBounds (o + 8) (.slice none 0 0)).setIfInBounds (o + 9) (.int .i64 0)).setIfInBounds (o + 10) (.int .i64 0)).setIfInBounds (o + 11) (.int .i64 0)
theorem put12_size (cs : Array Value) (o : Nat) (x : ByteArray × Int) : (put12 cs o x).size = cs.size := by simp [put12]
theorem put12_other (cs : Array Value) (o i : Nat) (x : ByteArray × Int) (h : i < o ∨ o + 12 ≤ i) : (put12 cs o x)[i]? = cs[i]? := by
  unfold put12
  iterate 12 rw [Array.getElem?_setIfInBounds_ne (by omega)]
theorem set_ne (cs : Array Value) (i j : Nat) (v : Value) (h : i ≠ j) : (cs.setIfInBounds i v)[j]? = cs[j]? := Array.getElem?_setIfInBounds_ne h
theorem set_eq (cs : Array Value) (i : Nat) (v : Value) (h : i < cs.size) : (cs.setIfInBounds i v)[i]? = some v := by simp [h]
theorem put12_at (cs : Array Value) (o : Nat) (x : ByteArray × Int) (h : o + 12 ≤ cs.size) : (put12 cs o x)[o]? = some (.string x.1) ∧ (put12 cs o x)[o + 1]? = some (.slice none 0 0) ∧ (put12 cs o x)[o + 2]? = some (.int .i64 x.2) ∧ (put12 cs o x)[o + 3]? = some (.slice none 0 0) ∧ (put12 cs o x)[o + 4]? = some (.bool false) ∧ (put12 cs o x)[o + 5]? = some (.int .i64 0) ∧ (put12 cs o x)[o + 6]? = some (.int .u8 0) ∧ (put12 cs o x)[o + 7]? = some (.bool false) ∧ (put12 cs o x)[o + 8]? = some (.slice none 0 0) ∧ (put12 cs o x)[o + 9]? = some (.int .i64 0) ∧ (put12 cs o x)[o + 10]? = some (.int .i64 0) ∧ (put12 cs o x)[o + 11]? = some (.int .i64 0) := by
  unfold put12
  refine ⟨?_, ?_, ?_, ?_, ?_, ?_, ?_, ?_, ?_, ?_, ?_, ?_⟩
  all_goals
    repeat rw [set_ne _ _ _ _ (by omega)]
    exact set_eq _ _ _ (by first | (simp only [Array.size_setIfInBounds]; omega) | omega)

theorem relAt_blk {W : World} {B : Nat} {cs : Array Value} (h : Blk W B cs 30) (o : Nat) (x : ByteArray × Int) : RelAt W B o x ↔ cs[o]? = some (.string x.1) ∧ cs[o + 1]? = some (.slice none 0 0) ∧ cs[o + 2]? = some (.int .i64 x.2) ∧ cs[o + 3]? = some (.slice none 0 0) ∧ cs[o + 4]? = some (.bool false) ∧ cs[o + 5]? = some (.int .i64 0) ∧ cs[o + 6]? = some (.int .u8 0) ∧ cs[o + 7]? = some (.bool false) ∧ cs[o + 8]? = some (.slice none 0 0) ∧ cs[o + 9]? = some (.int .i64 0) ∧ cs[o + 10]? = some (.int .i64 0) ∧ cs[o + 11]? = some (.int .i64 0) := by
  unfold RelAt; simp only [h.cell]

/-- one release more has been laid -/
theorem rels_stored {W w : World} {B k len : Nat} {cs : Array Value} {f : Nat → ByteArray × Int} (x : ByteArray × Int) (hx : x = f k) (i2 : Blk W B cs 30) (hsz : cs.size = len * 12) (hk : k < len)
    (hr : ∀ j, j < k → RelAt W B (j * 12) (f j)) (hb : Below B w W) :
    ∃ cs', Blk (((((((((((((W).setCell ⟨B, k * 12, none⟩ (.string x.1)).setCell ⟨B, k * 12 + 1, none⟩ (.slice none 0 0)).setCell ⟨B, k * 12 + 2, none⟩ (.int .i64 x.2)).setCell ⟨B, k * 12 + 3, none⟩ (.slice none 0 0)).setCell ⟨B, k * 12 + 4, none⟩ (.bool false)).setCell ⟨B, k * 12 + 5, none⟩ (.int .i64 0)).setCell ⟨B, k * 12 + 6, none⟩ (.int .u8 0)).setCell ⟨B, k * 12 + 7, none⟩ (.bool false)).setCell ⟨B, k * 12 + 8, none⟩ (.slice none 0 0)).setCell ⟨B, k * 12 + 9, none⟩ (.int .i64 0)).setCell ⟨B, k * 12 + 10, none⟩ (.int .i64 0)).setCell ⟨B, k * 12 + 11, none⟩ (.int .i64 0)) B cs' 30 ∧ cs'.size = len * 12 ∧ (∀ j, j < k + 1 → RelAt (((((((((((((W).setCell ⟨B, k * 12, none⟩ (.string x.1)).setCell ⟨B, k * 12 + 1, none⟩ (.slice none 0 0)).setCell ⟨B, k * 12 + 2, none⟩ (.int .i64 x.2)).setCell ⟨B, k * 12 + 3, none⟩ (.slice none 0 0)).setCell ⟨B, k * 12 + 4, none⟩ (.bool false)).setCell ⟨B, k * 12 + 5, none⟩ (.int .i64 0)).setCell ⟨B, k * 12 + 6, none⟩ (.int .u8 0)).setCell ⟨B, k * 12 + 7, none⟩ (.bool false)).setCell ⟨B, k * 12 + 8, none⟩ (.slice none 0 0)).setCell ⟨B, k * 12 + 9, none⟩ (.int .i64 0)).setCell ⟨B, k * 12 + 10, none⟩ (.int .i64 0)).setCell ⟨B, k * 12 + 11, none⟩ (.int .i64 0)) B (j * 12) (f j)) ∧ Below B w (((((((((((((W).setCell ⟨B, k * 12, none⟩ (.string x.1)).setCell ⟨B, k * 12 + 1, none⟩ (.slice none 0 0)).setCell ⟨B, k * 12 + 2, none⟩ (.int .i64 x.2)).setCell ⟨B, k * 12 + 3, none⟩ (.slice none 0 0)).setCell ⟨B, k * 12 + 4, none⟩ (.bool false)).setCell ⟨B, k * 12 + 5, none⟩ (.int .i64 0)).setCell ⟨B, k * 12 + 6, none⟩ (.int .u8 0)).setCell ⟨B, k * 12 + 7, none⟩ (.bool false)).setCell ⟨B, k * 12 + 8, none⟩ (.slice none 0 0)).setCell ⟨B, k * 12 + 9, none⟩ (.int .i64 0)).setCell ⟨B, k * 12 + 10, none⟩ (.int .i64 0)).setCell ⟨B, k * 12 + 11, none⟩ (.int .i64 0)) := by
  have h : Blk (((((((((((((W).setCell ⟨B, k * 12, none⟩ (.string x.1)).setCell ⟨B, k * 12 + 1, none⟩ (.slice none 0 0)).setCell ⟨B, k * 12 + 2, none⟩ (.int .i64 x.2)).setCell ⟨B, k * 12 + 3, none⟩ (.slice none 0 0)).setCell ⟨B, k * 12 + 4, none⟩ (.bool false)).setCell ⟨B, k * 12 + 5, none⟩ (.int .i64 0)).setCell ⟨B, k * 12 + 6, none⟩ (.int .u8 0)).setCell ⟨B, k * 12 + 7, none⟩ (.bool false)).setCell ⟨B, k * 12 + 8, none⟩ (.slice none 0 0)).setCell ⟨B, k * 12 + 9, none⟩ (.int .i64 0)).setCell ⟨B, k * 12 + 10, none⟩ (.int .i64 0)).setCell ⟨B, k * 12 + 11, none⟩ (.int .i64 0)) B (put12 cs (k * 12) x) 30 := ((((((((((((i2).set (k * 12) (.string x.1)).set (k * 12 + 1) (.slice none 0 0)).set (k * 12 + 2) (.int .i64 x.2)).set (k * 12 + 3) (.slice none 0 0)).set (k * 12 + 4) (.bool false)).set (k * 12 + 5) (.int .i64 0)).set (k * 12 + 6) (.int .u8 0)).set (k * 12 + 7) (.bool false)).set (k * 12 + 8) (.slice none 0 0)).set (k * 12 + 9) (.int .i64 0)).set (k * 12 + 10) (.int .i64 0)).set (k * 12 + 11) (.int .i64 0)
  refine ⟨_, h, by rw [put12_size]; exact hsz, ?_, ((((((((((((hb).setCell (p := ⟨B, k * 12, none⟩) (Nat.le_refl _) (.string x.1)).setCell (p := ⟨B, k * 12 + 1, none⟩) (Nat.le_refl _) (.slice none 0 0)).setCell (p := ⟨B, k * 12 + 2, none⟩) (Nat.le_refl _) (.int .i64 x.2)).setCell (p := ⟨B, k * 12 + 3, none⟩) (Nat.le_refl _) (.slice none 0 0)).setCell (p := ⟨B, k * 12 + 4, none⟩) (Nat.le_refl _) (.bool false)).setCell (p := ⟨B, k * 12 + 5, none⟩) (Nat.le_refl _) (.int .i64 0)).setCell (p := ⟨B, k * 12 + 6, none⟩) (Nat.le_refl _) (.int .u8 0)).setCell (p := ⟨B, k * 12 + 7, none⟩) (Nat.le_refl _) (.bool false)).setCell (p := ⟨B, k * 12 + 8, none⟩) (Nat.le_refl _) (.slice none 0 0)).setCell (p := ⟨B, k * 12 + 9, none⟩) (Nat.le_refl _) (.int .i64 0)).setCell (p := ⟨B, k * 12 + 10, none⟩) (Nat.le_refl _) (.int .i64 0)).setCell (p := ⟨B, k * 12 + 11, none⟩) (Nat.le_refl _) (.int .i64 0)⟩
  intro j hj
  rw [relAt_blk h]
  by_cases e : j = k
  · subst e
    rw [← hx]
    exact put12_at cs (j * 12) x (by omega)
  · have hj' : j < k := by omega
    have hr' := (relAt_blk i2 _ _).1 (hr j hj')
    simp only [put12_other cs (k * 12) (j * 12) x (by omega), put12_other cs (k * 12) (j * 12 + 1) x (by omega), put12_other cs (k * 12) (j * 12 + 2) x (by omega), put12_other cs (k * 12) (j * 12 + 3) x (by omega), put12_other cs (k * 12) (j * 12 + 4) x (by omega), put12_other cs (k * 12) (j * 12 + 5) x (by omega), put12_other cs (k * 12) (j * 12 + 6) x (by omega), put12_other cs (k * 12) (j * 12 + 7) x (by omega), put12_other cs (k * 12) (j * 12 + 8) x (by omega), put12_other cs (k * 12) (j * 12 + 9) x (by omega), put12_other cs (k * 12) (j * 12 + 10) x (by omega), put12_other cs (k * 12) (j * 12 + 11) x (by omega)]
    exact hr'

theorem zzFirst_hit (b off len cap : Nat) (f : Nat → ByteArray × Int) (hreach : len ≤ 1048576) (w : World) (hb : b < w.heap.size) (hc : ∀ j, j < len → RelAt w b (off + j * 12) (f j))
    (k : Nat) (hk : k < len) (h1 : ∀ j, j < k → unr (f j).1 = true) (h2 : unr (f k).1 = false) :
    Calls Try.prog 9 #[.slice (some ⟨b, off, none⟩) len cap] w fun e W' => e = .returned (.tuple #[.agg #[.string (f k).1, .slice none 0 0, .int .i64 (f k).2, .slice none 0 0, .bool false, .int .i64 0, .int .u8 0, .bool false, .slice none 0 0, .int .i64 0, .int .i64 0, .int .i64 0], .bool true]) ∧ Below w.heap.size w W' := by
  refine callsIn_wide.1 ((zzFirst_in Fence.wide 4 trivial trivial trivial trivial rfl (by omega) b off len cap f hreach w hb hc).mono ?_)
  rintro e W' ⟨⟨k', hk', h1', h2', rfl⟩ | ⟨h1', rfl⟩, hB⟩
  · have e1 : k' = k := by
      by_cases e2 : k' < k
      · rw [h1 k' e2] at h2'; cases h2'
      · by_cases e3 : k < k'
        · rw [h1' k e3] at h2; cases h2
        · omega
    subst e1
    exact ⟨rfl, hB⟩
  · rw [h1' k hk] at h2; cases h2

theorem zzFirst_none (b off len cap : Nat) (f : Nat → ByteArray × Int) (hreach : len ≤ 1048576) (w : World) (hb : b < w.heap.size) (hc : ∀ j, j < len → RelAt w b (off + j * 12) (f j))
    (h1 : ∀ j, j < len → unr (f j).1 = true) :
    Calls Try.prog 9 #[.slice (some ⟨b, off, none⟩) len cap] w fun e W' => e = .returned (.tuple #[.agg #[.string ⟨#[]⟩, .slice none 0 0, .int .i64 0, .slice none 0 0, .bool false, .int .i64 0, .int .u8 0, .bool false, .slice none 0 0, .int .i64 0, .int .i64 0, .int .i64 0], .bool false]) ∧ Below w.heap.size w W' := by
  refine callsIn_wide.1 ((zzFirst_in Fence.wide 4 trivial trivial trivial trivial rfl (by omega) b off len cap f hreach w hb hc).mono ?_)
  rintro e W' ⟨⟨k', hk', h1', h2', rfl⟩ | ⟨h1', rfl⟩, hB⟩
  · rw [h1 k' hk'] at h2'; cases h2'
  · exact ⟨rfl, hB⟩

theorem zzFirst_hit' (b off len cap : Nat) (f : Nat → ByteArray × Int) (hreach : len ≤ 1048576) (w : World) (hb : b < w.heap.size) (hc : ∀ j, j < len → RelAt w b (off + j * 12) (f j))
    (k : Nat) (hk : k < len) (h1 : ∀ j, j < k → unr (f j).1 = true) (s : ByteArray) (m : Int) (hs : f k = (s, m)) (h2 : unr s = false) :
    Calls Try.prog 9 #[.slice (some ⟨b, off, none⟩) len cap] w fun e W' => e = .returned (.tuple #[.agg #[.string s, .slice none 0 0, .int .i64 m, .slice none 0 0, .bool false, .int .i64 0, .int .u8 0, .bool false, .slice none 0 0, .int .i64 0, .int .i64 0, .int .i64 0], .bool true]) ∧ Below w.heap.size w W' := by
  have h := zzFirst_hit b off len cap f hreach w hb hc k hk h1 (by rw [hs]; exact h2)
  rw [hs] at h
  exact h
theorem Blk.below {W W' : World} {B n : Nat} {cs : Array Value} {t : TypeId} (h : Blk W B cs t) (hb : Below n W W') (hn : B < n) : Blk W' B cs t := (hb.block B hn).trans h

/-- whatever it finds -/
theorem zzFirst_some (b off len cap : Nat) (f : Nat → ByteArray × Int) (hreach : len ≤ 1048576) (w : World) (hb : b < w.heap.size) (hc : ∀ j, j < len → RelAt w b (off + j * 12) (f j)) :
    Calls Try.prog 9 #[.slice (some ⟨b, off, none⟩) len cap] w fun e W' => (∃ (s : ByteArray) (m : Int) (c : Bool), e = .returned (.tuple #[.agg #[.string s, .slice none 0 0, .int .i64 m, .slice none 0 0, .bool false, .int .i64 0, .int .u8 0, .bool false, .slice none 0 0, .int .i64 0, .int .i64 0, .int .i64 0], .bool c])) ∧ Below w.heap.size w W' := by
  refine callsIn_wide.1 ((zzFirst_in Fence.wide 4 trivial trivial trivial trivial rfl (by omega) b off len cap f hreach w hb hc).mono ?_)
  rintro e W' ⟨⟨k', hk', h1', h2', rfl⟩ | ⟨h1', rfl⟩, hB⟩
  · exact ⟨⟨_, _, _, rfl⟩, hB⟩
  · exact ⟨⟨_, _, _, rfl⟩, hB⟩
end Go.Proofs.Qxb6614963a.Fst
