/-
  FnFirstAtAnyCut: the walk.
-/
import Derived.Test.Qxb6614963aCutParts
import Derived.Test.Qxb6614963aRelRow
import Derived.WalkSpells
import Derived.Deep.QuietTactic
import Derived.BigQuiet
namespace Go.Proofs.Qxb6614963a.Cut
open Go.RowKit Fst

theorem drewN_below {B : Nat} {a w : World} (h : Below B a w) (n : Nat) : Below B a (w.drewN n) := h.trans ⟨rfl, rfl, rfl, Nat.le_refl _, fun _ _ => rfl⟩
theorem info30 : (Try.prog.info? 30).map (fun i => (i.zero, i.size, i.bytes)) = some (some (.agg #[.string ⟨#[]⟩, .slice none 0 0, .int .i64 0, .slice none 0 0, .bool false, .int .i64 0, .int .u8 0, .bool false, .slice none 0 0, .int .i64 0, .int .i64 0, .int .i64 0]), 12, 144) := by kernel_rfl

/-- 'make([]Release, n)' -/
theorem make_run (len : Nat) (hl : len ≤ 1048576) : ∃ cs : Array Value, cs.size = len * 12 ∧ ∀ w : World,
    (Instr.makeSlice 25 (.int .i64 (len : Int)) (.int .i64 (len : Int))).run Try.prog w = .ok (.slice (some ⟨w.heap.size, 0, none⟩) len len) (w.alloc (.cells cs 30)) := by
  obtain ⟨i0, hi, hz0, hz1, hz2⟩ := info_parts info30
  refine ⟨madeCells (Value.cells (.agg #[.string ⟨#[]⟩, .slice none 0 0, .int .i64 0, .slice none 0 0, .bool false, .int .i64 0, .int .u8 0, .bool false, .slice none 0 0, .int .i64 0, .int .i64 0, .int .i64 0])) (len * 12), size_madeCells _ _, fun w => ?_⟩
  have h := run_make (P := Try.prog) w 25 30 i0 _ Try.underlying25 hi hz0 .i64 .i64 (len : Int) (len : Int) (by omega) (by omega) (by rw [hz2]; omega) (by omega)
  rw [hz1] at h
  exact h

/-- the j-th release: the j-th version, line j + 1 -/
def rl (ss : Nat → ByteArray) (j : Nat) : ByteArray × Int := (ss j, (j : Int) + 1)

theorem cells_there {W : World} {B n k : Nat} {cs : Array Value} (h : Blk W B cs 30) (hs : cs.size = n * 12) (hk : k < n) :
    ∃ v0 v1 v2 v3 v4 v5 v6 v7 v8 v9 v10 v11, W.cell? ⟨B, k * 12, none⟩ = some v0 ∧ W.cell? ⟨B, k * 12 + 1, none⟩ = some v1 ∧ W.cell? ⟨B, k * 12 + 2, none⟩ = some v2 ∧ W.cell? ⟨B, k * 12 + 3, none⟩ = some v3 ∧ W.cell? ⟨B, k * 12 + 4, none⟩ = some v4 ∧ W.cell? ⟨B, k * 12 + 5, none⟩ = some v5 ∧ W.cell? ⟨B, k * 12 + 6, none⟩ = some v6 ∧ W.cell? ⟨B, k * 12 + 7, none⟩ = some v7 ∧ W.cell? ⟨B, k * 12 + 8, none⟩ = some v8 ∧ W.cell? ⟨B, k * 12 + 9, none⟩ = some v9 ∧ W.cell? ⟨B, k * 12 + 10, none⟩ = some v10 ∧ W.cell? ⟨B, k * 12 + 11, none⟩ = some v11 := by
  have e : ∀ i, i < n * 12 → W.cell? ⟨B, i, none⟩ = some (cs[i]?.getD (.bool false)) := fun i hi => by
    rw [h.cell i, Array.getElem?_eq_getElem (by omega)]; rfl
  exact ⟨_, _, _, _, _, _, _, _, _, _, _, _, e _ (by omega), e _ (by omega), e _ (by omega), e _ (by omega), e _ (by omega), e _ (by omega), e _ (by omega), e _ (by omega), e _ (by omega), e _ (by omega), e _ (by omega), e _ (by omega)⟩

set_option maxRecDepth 100000 in
set_option maxHeartbeats 4000000 in
theorem walk (a : Option Addr) (len cap : Nat) (cut : Int) (ss : Nat → ByteArray) (w : World)
    (hA : len = 0 ∨ ∃ vb voff, a = some ⟨vb, voff, none⟩ ∧ vb < w.heap.size ∧ ∀ j, j < len → w.cell? ⟨vb, voff + j, none⟩ = some (.string (ss j))) :
    Calls Try.prog 5 #[.slice a len cap, .int .i64 cut] w fun e w' => e = .returned (.bool true) ∧ Below w.heap.size w w' := by
  go_enter Try.func5, Try.ntmps5
  go_wp2_with fail
  refine (zzBytes_any a len cap cut ss w (hA.imp id fun ⟨vb, voff, e, _, hc⟩ => ⟨vb, voff, e, hc⟩)).mono ?_
  rintro e w' (⟨rfl, rfl⟩ | ⟨rfl, rfl, hlen⟩)
  · go_wp2
    go_ret
    exact ⟨rfl, Below.refl _ _⟩
  go_wp2
  go_loop [5, 6] (fun n i => ∃ k : Nat, k ≤ len ∧ i = .int .i64 k ∧ ∃ t : Int, n = .int .i64 t) (fun _ i => len - (intOf i).toNat)
  case atStart => exact ⟨0, by omega, rfl, _, rfl⟩
  case round =>
    obtain ⟨n, hk, rfl, t, rfl⟩ := hrel
    by_cases hlt : n < len
    · rcases hA with h0 | ⟨vb, voff, rfl, hvb, hc⟩
      · omega
      · have hck := hc n hlt
        clear hc
        go_wp2
        · go_ret
          exact ⟨rfl, Below.refl _ _⟩
        · go_round
          case rel => exact ⟨n + 1, by omega, by go_num, _, rfl⟩
          case measure => simp [intOf]; omega
    · obtain rfl : n = len := by omega
      clear hlt hk
      by_cases c1 : cut < 0
      · go_wp2
        go_ret
        exact ⟨rfl, Below.refl _ _⟩
      by_cases c2 : (n : Int) < cut
      · go_wp2
        go_ret
        exact ⟨rfl, Below.refl _ _⟩
      obtain ⟨c, rfl⟩ := Int.eq_ofNat_of_zero_le (by omega : 0 ≤ cut)
      obtain ⟨cs0, hcs0, hmk⟩ := make_run n hlen
      have HA : Hid (n = 0 ∨ ∃ vb voff, a = some ⟨vb, voff, none⟩ ∧ vb < w'.heap.size ∧ ∀ j, j < n → w'.cell? ⟨vb, voff + j, none⟩ = some (.string (ss j))) := hA
      have HC : Hid (cs0.size = n * 12) := hcs0
      clear hA hcs0
      go_wp2
      clear hmk
      go_loopw [8] (fun i wr => ∃ (k : Nat) (cs : Array Value), k ≤ n ∧ i = .int .i64 k ∧ Blk wr w'.heap.size cs 30 ∧ cs.size = n * 12 ∧ (∀ j, j < k → RelAt wr w'.heap.size (j * 12) (rl ss j)) ∧ Below w'.heap.size w' wr)
        (fun i _ => n - (intOf i).toNat)
      case atStart => exact ⟨0, cs0, by omega, rfl, Blk.new w' cs0 30, HC.out, fun j hj => by omega, (Below.refl _ _).alloc (Nat.le_refl _) _⟩
      case round =>
        clear HC
        obtain ⟨k, cs, hk, rfl, hblk, hsz, hrel, hbel⟩ := hrel
        by_cases hlt : k < n
        · rcases HA.out with h0 | ⟨vb, voff, rfl, hvb, hc⟩
          · omega
          · have hck : wr.cell? ⟨vb, voff + k, none⟩ = some (.string (ss k)) := (hbel.cell (p := ⟨vb, voff + k, none⟩) hvb).trans (hc k hlt)
            obtain ⟨x0, x1, x2, x3, x4, x5, x6, x7, x8, x9, x10, x11, d0, d1, d2, d3, d4, d5, d6, d7, d8, d9, d10, d11⟩ := cells_there hblk hsz hlt
            have hf := hblk.frozen
            have R := fun x hx => rels_stored (len := n) (f := rl ss) x hx hblk hsz hlt hrel hbel
            have HR : Hid (∀ x, x = rl ss k → _) := R
            clear hc R hrel hsz hblk HA
            go_wp2
            go_roundw
            case rel =>
              obtain ⟨cs', r1, r2, r3, r4⟩ := HR.out (ss k, (k : Int) + 1) rfl
              exact ⟨k + 1, cs', by omega, by go_num, r1, r2, r3, r4⟩
            case measure => simp [intOf]; omega
        · obtain rfl : n = k := by omega
          clear hlt hk
          have hBl := hblk.lt
          have HR : Hid (∀ j, j < n → RelAt wr w'.heap.size (j * 12) (rl ss j)) := hrel
          clear hrel hblk hsz
          go_wp2
          go_loop [9, 10] (fun wv i => ∃ m : Nat, m ≤ n ∧ i = .int .i64 m ∧ wv = .int .i64 (-1) ∧ ∀ j, j < m → unr (ss j) = true) (fun _ i => n - (intOf i).toNat)
          case atStart => exact ⟨0, by omega, rfl, rfl, fun j hj => by omega⟩
          case round =>
            obtain ⟨m, hm, rfl, rfl, hno⟩ := hrel
            by_cases hlt : m < n
            · rcases HA.out with h0 | ⟨vb, voff, rfl, hvb, hc⟩
              · omega
              · have hcm : wr.cell? ⟨vb, voff + m, none⟩ = some (.string (ss m)) := (hbel.cell (p := ⟨vb, voff + m, none⟩) hvb).trans (hc m hlt)
                cases hu : unr (ss m)
                · have hd : ((ss m).toList == [85, 110, 114, 101, 108, 101, 97, 115, 101, 100]) = false := hu
                  have HN : Hid (∀ j, j < m → unr (ss j) = true) := hno
                  have HU : Hid (unr (ss m) = false) := hu
                  have hcw := hc m hlt
                  have hi1 : (m : Int) < (n : Int) := by omega
                  clear hc hno hu HA
                  have n23 := fun wx => run_neq_slice_nil_any (P := Try.prog) wx 23 9 none 0 0 0 0 Try.underlying23
                  have n26 := fun wx => run_neq_slice_nil_any (P := Try.prog) wx 26 5 none 0 0 0 0 Try.underlying26
                  go_wp2_with fail
                  refine (zzFirst_hit' w'.heap.size 0 n n (rl ss) hlen wr hBl (fun j hj => by rw [Nat.zero_add]; exact HR.out j hj) m hlt (fun j hj => HN.out j hj) (ss m) ((m : Int) + 1) rfl HU.out).mono ?_
                  rintro e W1 ⟨rfl, hW1⟩
                  have b1 := Blk.new W1 #[.string (ss m), .slice none 0 0, .int .i64 ((m : Int) + 1), .slice none 0 0, .bool false, .int .i64 0, .int .u8 0, .bool false, .slice none 0 0, .int .i64 0, .int .i64 0, .int .i64 0] 30
                  have bw1 := hW1.alloc hW1.size (.cells #[.string (ss m), .slice none 0 0, .int .i64 ((m : Int) + 1), .slice none 0 0, .bool false, .int .i64 0, .int .u8 0, .bool false, .slice none 0 0, .int .i64 0, .int .i64 0, .int .i64 0] 30)
                  have z1 := bw1.size
                  by_cases hmc : m < c
                  · go_wp2_with fail
                    refine (zzFirst_hit' w'.heap.size 0 c n (rl ss) (by omega) _ (by omega) (fun j hj => by rw [Nat.zero_add]; exact (HR.out j (by omega)).below bw1 hBl) m hmc (fun j hj => HN.out j hj) (ss m) ((m : Int) + 1) rfl HU.out).mono ?_
                    rintro e W2 ⟨rfl, hW2⟩
                    have b2 := Blk.new W2 #[.string (ss m), .slice none 0 0, .int .i64 ((m : Int) + 1), .slice none 0 0, .bool false, .int .i64 0, .int .u8 0, .bool false, .slice none 0 0, .int .i64 0, .int .i64 0, .int .i64 0] 30
                    have bw2 := (bw1.trans (hW2.mono z1)).alloc (by have := hW2.size; omega) (.cells #[.string (ss m), .slice none 0 0, .int .i64 ((m : Int) + 1), .slice none 0 0, .bool false, .int .i64 0, .int .u8 0, .bool false, .slice none 0 0, .int .i64 0, .int .i64 0, .int .i64 0] 30)
                    have z2 := bw2.size
                    by_cases hcn : c < n
                    · go_wp2_with fail
                      refine (zzFirst_some w'.heap.size (c * 12) (n - c) (n - c) (fun j => rl ss (c + j)) (by omega) _ (by omega) (fun j hj => by rw [← Nat.add_mul]; exact (HR.out (c + j) (by omega)).below bw2 hBl)).mono ?_
                      rintro e W3 ⟨⟨s3, m3, c3, rfl⟩, hW3⟩
                      have b3 := Blk.new W3 #[.string s3, .slice none 0 0, .int .i64 m3, .slice none 0 0, .bool false, .int .i64 0, .int .u8 0, .bool false, .slice none 0 0, .int .i64 0, .int .i64 0, .int .i64 0] 30
                      have bw3 := (bw2.trans (hW3.mono z2)).alloc (by have := hW3.size; omega) (.cells #[.string s3, .slice none 0 0, .int .i64 m3, .slice none 0 0, .bool false, .int .i64 0, .int .u8 0, .bool false, .slice none 0 0, .int .i64 0, .int .i64 0, .int .i64 0] 30)
                      have z3 := bw3.size
                      have zz1 := hW2.size
                      have zz2 := hW3.size
                      simp only [World.size_alloc] at zz1 zz2
                      have q1 := (((b1.below hW2 (by simp)).alloc (.cells #[.string (ss m), .slice none 0 0, .int .i64 ((m : Int) + 1), .slice none 0 0, .bool false, .int .i64 0, .int .u8 0, .bool false, .slice none 0 0, .int .i64 0, .int .i64 0, .int .i64 0] 30)).below hW3 (by simp only [World.size_alloc]; omega)).alloc (.cells #[.string s3, .slice none 0 0, .int .i64 m3, .slice none 0 0, .bool false, .int .i64 0, .int .u8 0, .bool false, .slice none 0 0, .int .i64 0, .int .i64 0, .int .i64 0] 30)
                      have q2 := (b2.below hW3 (by simp)).alloc (.cells #[.string s3, .slice none 0 0, .int .i64 m3, .slice none 0 0, .bool false, .int .i64 0, .int .u8 0, .bool false, .slice none 0 0, .int .i64 0, .int .i64 0, .int .i64 0] 30)
                      have q3 := b3
                      have r1 := q1.cell
                      have r2 := q2.cell
                      have r3 := q3.cell
                      have hfin := hbel.trans (bw3.mono (by have := hbel.size; omega))
                      clear b1 b2 b3 bw1 bw2 bw3 z1 z2 z3 q1 q2 q3 hW1 hW2 hW3
                      have hcv := (hfin.cell (p := ⟨vb, voff + m, none⟩) hvb).trans hcw
                      clear hcm hbel
                      go_wp2_with fail
                      go_quiet (fail)
                      go_wp2
                      go_ret
                      exact ⟨rfl, drewN_below hfin _⟩
                    · obtain rfl : c = n := by omega
                      go_wp2_with fail
                      refine (zzFirst_some w'.heap.size 0 0 0 (rl ss) (by omega) _ (by omega) (fun j hj => by omega)).mono ?_
                      rintro e W3 ⟨⟨s3, m3, c3, rfl⟩, hW3⟩
                      have b3 := Blk.new W3 #[.string s3, .slice none 0 0, .int .i64 m3, .slice none 0 0, .bool false, .int .i64 0, .int .u8 0, .bool false, .slice none 0 0, .int .i64 0, .int .i64 0, .int .i64 0] 30
                      have bw3 := (bw2.trans (hW3.mono z2)).alloc (by have := hW3.size; omega) (.cells #[.string s3, .slice none 0 0, .int .i64 m3, .slice none 0 0, .bool false, .int .i64 0, .int .u8 0, .bool false, .slice none 0 0, .int .i64 0, .int .i64 0, .int .i64 0] 30)
                      have z3 := bw3.size
                      have zz1 := hW2.size
                      have zz2 := hW3.size
                      simp only [World.size_alloc] at zz1 zz2
                      have q1 := (((b1.below hW2 (by simp)).alloc (.cells #[.string (ss m), .slice none 0 0, .int .i64 ((m : Int) + 1), .slice none 0 0, .bool false, .int .i64 0, .int .u8 0, .bool false, .slice none 0 0, .int .i64 0, .int .i64 0, .int .i64 0] 30)).below hW3 (by simp only [World.size_alloc]; omega)).alloc (.cells #[.string s3, .slice none 0 0, .int .i64 m3, .slice none 0 0, .bool false, .int .i64 0, .int .u8 0, .bool false, .slice none 0 0, .int .i64 0, .int .i64 0, .int .i64 0] 30)
                      have q2 := (b2.below hW3 (by simp)).alloc (.cells #[.string s3, .slice none 0 0, .int .i64 m3, .slice none 0 0, .bool false, .int .i64 0, .int .u8 0, .bool false, .slice none 0 0, .int .i64 0, .int .i64 0, .int .i64 0] 30)
                      have q3 := b3
                      have r1 := q1.cell
                      have r2 := q2.cell
                      have r3 := q3.cell
                      have hfin := hbel.trans (bw3.mono (by have := hbel.size; omega))
                      clear b1 b2 b3 bw1 bw2 bw3 z1 z2 z3 q1 q2 q3 hW1 hW2 hW3
                      have hcv := (hfin.cell (p := ⟨vb, voff + m, none⟩) hvb).trans hcw
                      clear hcm hbel
                      go_wp2_with fail
                      go_quiet (fail)
                      go_wp2
                      go_ret
                      exact ⟨rfl, drewN_below hfin _⟩

                  · go_wp2_with fail
                    refine (zzFirst_none w'.heap.size 0 c n (rl ss) (by omega) _ (by omega) (fun j hj => by rw [Nat.zero_add]; exact (HR.out j (by omega)).below bw1 hBl) (fun j hj => HN.out j (by omega))).mono ?_
                    rintro e W2 ⟨rfl, hW2⟩
                    have b2 := Blk.new W2 #[.string ⟨#[]⟩, .slice none 0 0, .int .i64 0, .slice none 0 0, .bool false, .int .i64 0, .int .u8 0, .bool false, .slice none 0 0, .int .i64 0, .int .i64 0, .int .i64 0] 30
                    have bw2 := (bw1.trans (hW2.mono z1)).alloc (by have := hW2.size; omega) (.cells #[.string ⟨#[]⟩, .slice none 0 0, .int .i64 0, .slice none 0 0, .bool false, .int .i64 0, .int .u8 0, .bool false, .slice none 0 0, .int .i64 0, .int .i64 0, .int .i64 0] 30)
                    have z2 := bw2.size
                    have hcn : c < n := by omega
                    go_wp2_with fail
                    refine (zzFirst_hit' w'.heap.size (c * 12) (n - c) (n - c) (fun j => rl ss (c + j)) (by omega) _ (by omega) (fun j hj => by rw [← Nat.add_mul]; exact (HR.out (c + j) (by omega)).below bw2 hBl) (m - c) (by omega) (fun j hj => HN.out (c + j) (by omega)) (ss m) ((m : Int) + 1) (by show rl ss (c + (m - c)) = _; rw [show c + (m - c) = m from by omega]; rfl) HU.out).mono ?_
                    rintro e W3 ⟨rfl, hW3⟩
                    have b3 := Blk.new W3 #[.string (ss m), .slice none 0 0, .int .i64 ((m : Int) + 1), .slice none 0 0, .bool false, .int .i64 0, .int .u8 0, .bool false, .slice none 0 0, .int .i64 0, .int .i64 0, .int .i64 0] 30
                    have bw3 := (bw2.trans (hW3.mono z2)).alloc (by have := hW3.size; omega) (.cells #[.string (ss m), .slice none 0 0, .int .i64 ((m : Int) + 1), .slice none 0 0, .bool false, .int .i64 0, .int .u8 0, .bool false, .slice none 0 0, .int .i64 0, .int .i64 0, .int .i64 0] 30)
                    have z3 := bw3.size
                    have zz1 := hW2.size
                    have zz2 := hW3.size
                    simp only [World.size_alloc] at zz1 zz2
                    have q1 := (((b1.below hW2 (by simp)).alloc (.cells #[.string ⟨#[]⟩, .slice none 0 0, .int .i64 0, .slice none 0 0, .bool false, .int .i64 0, .int .u8 0, .bool false, .slice none 0 0, .int .i64 0, .int .i64 0, .int .i64 0] 30)).below hW3 (by simp only [World.size_alloc]; omega)).alloc (.cells #[.string (ss m), .slice none 0 0, .int .i64 ((m : Int) + 1), .slice none 0 0, .bool false, .int .i64 0, .int .u8 0, .bool false, .slice none 0 0, .int .i64 0, .int .i64 0, .int .i64 0] 30)
                    have q2 := (b2.below hW3 (by simp)).alloc (.cells #[.string (ss m), .slice none 0 0, .int .i64 ((m : Int) + 1), .slice none 0 0, .bool false, .int .i64 0, .int .u8 0, .bool false, .slice none 0 0, .int .i64 0, .int .i64 0, .int .i64 0] 30)
                    have q3 := b3
                    have r1 := q1.cell
                    have r2 := q2.cell
                    have r3 := q3.cell
                    have hfin := hbel.trans (bw3.mono (by have := hbel.size; omega))
                    clear b1 b2 b3 bw1 bw2 bw3 z1 z2 z3 q1 q2 q3 hW1 hW2 hW3
                    have hcv := (hfin.cell (p := ⟨vb, voff + m, none⟩) hvb).trans hcw
                    clear hcm hbel
                    go_wp2_with fail
                    go_quiet (fail)
                    go_wp2
                    go_ret
                    exact ⟨rfl, drewN_below hfin _⟩

                · have hd : ((ss m).toList == [85, 110, 114, 101, 108, 101, 97, 115, 101, 100]) = true := hu
                  have HN : Hid (∀ j, j < m → unr (ss j) = true) := hno
                  have HU : Hid (unr (ss m) = true) := hu
                  clear hc hno hu
                  go_wp2
                  go_round
                  case rel => exact ⟨m + 1, by omega, by go_num, rfl, fun j hj => if e : j = m then e ▸ HU.out else HN.out j (by omega)⟩
                  case measure => simp [intOf]; omega
            · obtain rfl : n = m := by omega
              clear hlt hm HA
              have HN : Hid (∀ j, j < n → unr (ss j) = true) := hno
              clear hno
              have n23 := fun wx => run_neq_slice_nil_any (P := Try.prog) wx 23 9 none 0 0 0 0 Try.underlying23
              have n26 := fun wx => run_neq_slice_nil_any (P := Try.prog) wx 26 5 none 0 0 0 0 Try.underlying26
              go_wp2_with fail
              refine (zzFirst_none w'.heap.size 0 n n (rl ss) hlen wr hBl (fun j hj => by rw [Nat.zero_add]; exact HR.out j hj) HN.out).mono ?_
              rintro e W1 ⟨rfl, hW1⟩
              have b1 := Blk.new W1 #[.string ⟨#[]⟩, .slice none 0 0, .int .i64 0, .slice none 0 0, .bool false, .int .i64 0, .int .u8 0, .bool false, .slice none 0 0, .int .i64 0, .int .i64 0, .int .i64 0] 30
              have bw1 := hW1.alloc hW1.size (.cells #[.string ⟨#[]⟩, .slice none 0 0, .int .i64 0, .slice none 0 0, .bool false, .int .i64 0, .int .u8 0, .bool false, .slice none 0 0, .int .i64 0, .int .i64 0, .int .i64 0] 30)
              have z1 := bw1.size
              go_wp2_with fail
              refine (zzFirst_none w'.heap.size 0 c n (rl ss) (by omega) _ (by omega) (fun j hj => by rw [Nat.zero_add]; exact (HR.out j (by omega)).below bw1 hBl) (fun j hj => HN.out j (by omega))).mono ?_
              rintro e W2 ⟨rfl, hW2⟩
              have b2 := Blk.new W2 #[.string ⟨#[]⟩, .slice none 0 0, .int .i64 0, .slice none 0 0, .bool false, .int .i64 0, .int .u8 0, .bool false, .slice none 0 0, .int .i64 0, .int .i64 0, .int .i64 0] 30
              have bw2 := (bw1.trans (hW2.mono z1)).alloc (by have := hW2.size; omega) (.cells #[.string ⟨#[]⟩, .slice none 0 0, .int .i64 0, .slice none 0 0, .bool false, .int .i64 0, .int .u8 0, .bool false, .slice none 0 0, .int .i64 0, .int .i64 0, .int .i64 0] 30)
              have z2 := bw2.size
              by_cases hcn : c < n
              · go_wp2_with fail
                refine (zzFirst_none w'.heap.size (c * 12) (n - c) (n - c) (fun j => rl ss (c + j)) (by omega) _ (by omega) (fun j hj => by rw [← Nat.add_mul]; exact (HR.out (c + j) (by omega)).below bw2 hBl) (fun j hj => HN.out (c + j) (by omega))).mono ?_
                rintro e W3 ⟨rfl, hW3⟩
                have b3 := Blk.new W3 #[.string ⟨#[]⟩, .slice none 0 0, .int .i64 0, .slice none 0 0, .bool false, .int .i64 0, .int .u8 0, .bool false, .slice none 0 0, .int .i64 0, .int .i64 0, .int .i64 0] 30
                have bw3 := (bw2.trans (hW3.mono z2)).alloc (by have := hW3.size; omega) (.cells #[.string ⟨#[]⟩, .slice none 0 0, .int .i64 0, .slice none 0 0, .bool false, .int .i64 0, .int .u8 0, .bool false, .slice none 0 0, .int .i64 0, .int .i64 0, .int .i64 0] 30)
                have z3 := bw3.size
                have zz1 := hW2.size
                have zz2 := hW3.size
                simp only [World.size_alloc] at zz1 zz2
                have q1 := (((b1.below hW2 (by simp)).alloc (.cells #[.string ⟨#[]⟩, .slice none 0 0, .int .i64 0, .slice none 0 0, .bool false, .int .i64 0, .int .u8 0, .bool false, .slice none 0 0, .int .i64 0, .int .i64 0, .int .i64 0] 30)).below hW3 (by simp only [World.size_alloc]; omega)).alloc (.cells #[.string ⟨#[]⟩, .slice none 0 0, .int .i64 0, .slice none 0 0, .bool false, .int .i64 0, .int .u8 0, .bool false, .slice none 0 0, .int .i64 0, .int .i64 0, .int .i64 0] 30)
                have q2 := (b2.below hW3 (by simp)).alloc (.cells #[.string ⟨#[]⟩, .slice none 0 0, .int .i64 0, .slice none 0 0, .bool false, .int .i64 0, .int .u8 0, .bool false, .slice none 0 0, .int .i64 0, .int .i64 0, .int .i64 0] 30)
                have q3 := b3
                have r1 := q1.cell
                have r2 := q2.cell
                have r3 := q3.cell
                have hfin := hbel.trans (bw3.mono (by have := hbel.size; omega))
                clear b1 b2 b3 bw1 bw2 bw3 z1 z2 z3 q1 q2 q3 hW1 hW2 hW3
                go_wp2
                go_ret
                exact ⟨rfl, hfin⟩
              · obtain rfl : c = n := by omega
                go_wp2_with fail
                refine (zzFirst_none w'.heap.size 0 0 0 (rl ss) (by omega) _ (by omega) (fun j hj => by omega) (fun j hj => by omega)).mono ?_
                rintro e W3 ⟨rfl, hW3⟩
                have b3 := Blk.new W3 #[.string ⟨#[]⟩, .slice none 0 0, .int .i64 0, .slice none 0 0, .bool false, .int .i64 0, .int .u8 0, .bool false, .slice none 0 0, .int .i64 0, .int .i64 0, .int .i64 0] 30
                have bw3 := (bw2.trans (hW3.mono z2)).alloc (by have := hW3.size; omega) (.cells #[.string ⟨#[]⟩, .slice none 0 0, .int .i64 0, .slice none 0 0, .bool false, .int .i64 0, .int .u8 0, .bool false, .slice none 0 0, .int .i64 0, .int .i64 0, .int .i64 0] 30)
                have z3 := bw3.size
                have zz1 := hW2.size
                have zz2 := hW3.size
                simp only [World.size_alloc] at zz1 zz2
                have q1 := (((b1.below hW2 (by simp)).alloc (.cells #[.string ⟨#[]⟩, .slice none 0 0, .int .i64 0, .slice none 0 0, .bool false, .int .i64 0, .int .u8 0, .bool false, .slice none 0 0, .int .i64 0, .int .i64 0, .int .i64 0] 30)).below hW3 (by simp only [World.size_alloc]; omega)).alloc (.cells #[.string ⟨#[]⟩, .slice none 0 0, .int .i64 0, .slice none 0 0, .bool false, .int .i64 0, .int .u8 0, .bool false, .slice none 0 0, .int .i64 0, .int .i64 0, .int .i64 0] 30)
                have q2 := (b2.below hW3 (by simp)).alloc (.cells #[.string ⟨#[]⟩, .slice none 0 0, .int .i64 0, .slice none 0 0, .bool false, .int .i64 0, .int .u8 0, .bool false, .slice none 0 0, .int .i64 0, .int .i64 0, .int .i64 0] 30)
                have q3 := b3
                have r1 := q1.cell
                have r2 := q2.cell
                have r3 := q3.cell
                have hfin := hbel.trans (bw3.mono (by have := hbel.size; omega))
                clear b1 b2 b3 bw1 bw2 bw3 z1 z2 z3 q1 q2 q3 hW1 hW2 hW3
                go_wp2
                go_ret
                exact ⟨rfl, hfin⟩

end Go.Proofs.Qxb6614963a.Cut
