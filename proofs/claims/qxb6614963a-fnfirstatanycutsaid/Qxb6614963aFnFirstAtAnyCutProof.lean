/-
  A PROOF OF 'Rows.FnFirstAtAnyCutSaid': the frame after the guide's worked frame for slices (howto/shells/bytes-and-an-int), turned to a slice of strings; the walk: Qxb6614963aCutWalk.
-/
import Derived.Test.Qxb6614963aRows
import Derived.Test.Qxb6614963aCutWalk
import Derived.WalkKit
import Derived.ProofKit
import Derived.OpenShut
import Derived.ShutString
import Derived.ChangeOld
import Derived.Below
import Derived.SliceStrings
namespace Go.Proofs.Qxb6614963a.fnFirstAtAnyCut
open Go.ChangeShapes Go.WideShapes Go.ChangeAt Go.RowKit
set_option linter.unusedVariables false

theorem own : ownKnob Try.prog.godebug = none := by kernel_rfl
theorem laidOut : laidOutB Try.prog = true := by kernel_rfl

set_option maxRecDepth 100000 in
theorem lifted (os : Os) (started : os.Started) (H : Type) (enc : TypeId × Value → H) :
    ReturnsInHanded {} Try.checked os 5 .any (Rows.fnFirstAtAnyCutSpec.pre6 enc Try.prog Try.f5 Rows.fnFirstAtAnyCutRow.domain false) (Rows.fnFirstAtAnyCutSpec.post enc Try.prog Try.f5 false true false false) := by
  refine returnsInHanded_of_change (C := Try.checked) own started (by kernel_rfl) Try.func5
    (ChangeSpec.witness6 (enc := enc) (C := Try.checked) false ⟨#[], #[.slice none 0 0, .int .i64 0], []⟩ 8 (by kernel_rfl) (by kernel_rfl) (by kernel_rfl) (by kernel_rfl)) ?_
  intro W base args ds gs before hval0 hW hcnd _
  have hval : ∀ (j : Nat) t v, Try.f5.params[j]? = some t → args[j]? = some v → Value.okWide Try.prog W .any base t v := hval0
  have hW' := hW
  obtain ⟨p, q, hA0, hV, rfl, hfz, hnd⟩ := hW
  have hA : DataW.TrodAll enc Try.prog W 0 (fun _ => true) true Try.f5.params.toList args.toList ds p := hA0
  rw [Try.params5] at hA hval
  obtain ⟨v0, vs0, d0, ds0, p0, q0, hargs, rfl, rfl, h0, r0⟩ := trodAll_cons hA
  obtain ⟨v1, vs1, d1, ds1, p1, q1, rfl, rfl, rfl, h1, r1⟩ := trodAll_cons r0
  obtain ⟨rfl, rfl, rfl⟩ := trodAll_nil r1
  obtain rfl : args = #[v0, v1] := by cases args; simp_all
  obtain ⟨rfl, rfl⟩ := trodVars_none hV
  obtain ⟨a0, len0, cap0, rfl⟩ := okWide_slice Try.underlying23 (hval 0 23 v0 rfl rfl)
  have k0 := h0
  have lt0 : ∀ x ∈ p0, x.block < W.heap.size := by obtain ⟨m, hm⟩ := k0; exact DataW.trod_lt m _ _ _ hm
  obtain ⟨ss, hA1⟩ : ∃ ss : Nat → ByteArray, len0 = 0 ∨ ∃ vb voff, a0 = some ⟨vb, voff, none⟩ ∧ vb < W.heap.size ∧ ∀ j, j < len0 → W.cell? ⟨vb, voff + j, none⟩ = some (.string (ss j)) := by
    obtain ⟨fuel, hf⟩ := h0
    rcases open_strings Try.underlying23 Try.underlying9 (by kernel_rfl) hf with ⟨hcs, _⟩ | ⟨x, l, c, zs, hcs, _, hl, hm, hz, _, hcell, hwz⟩
    · simp [Value.cells] at hcs
      exact ⟨fun _ => ByteArray.empty, .inl hcs.2.1⟩
    · simp [Value.cells] at hcs
      obtain ⟨rfl, rfl, rfl⟩ := hcs
      refine ⟨fun j => zs.getD j ByteArray.empty, ?_⟩
      by_cases e0 : len0 = 0
      · exact .inl e0
      · have hz' : zs.length = cap0 := by simpa using hz
        have hall : ∀ j, j < len0 → W.cell? (x.add j) = some (.string (zs.getD j ByteArray.empty)) := fun j hj => hcell j (by omega)
        obtain ⟨b, off, spot⟩ := x
        have hc0 := hall 0 (by omega)
        have hspot : spot = none := by simpa [Addr.add] using World.cell?_spot hc0
        subst hspot
        have hb : b < W.heap.size := by
          have h : W.cell? ⟨b, off, none⟩ = some (.string (zs.getD 0 ByteArray.empty)) := by simpa [Addr.add] using hc0
          by_cases hlt : b < W.heap.size
          · exact hlt
          · simp [World.cell?, Array.getElem?_eq_none (by omega : W.heap.size ≤ b)] at h
        exact .inr ⟨b, off, rfl, hb, fun j hj => by
          have h := hall j hj
          by_cases ej : j = 0
          · subst ej; simpa [Addr.add] using h
          · simpa [Addr.add, ej] using h⟩
  obtain ⟨a1, rfl, rfl, rfl, w1⟩ := open_int Try.underlying3 (hval 1 3 v1 rfl rfl) h1
  clear hA0 hval0
  refine (Cut.walk a0 len0 cap0 a1 ss W hA1).mono fun e W' ⟨he, bel⟩ => ?_
  subst he
  exact ⟨_, rfl, _, _, _, [], _, [], hW', trodAll_mk1 (shut_bool Try.underlying4 _), (trodAll_cons_mk (Below.trod laidOut (by kernel_rfl) (of_decide_eq_true (by kernel_rfl)) k0 bel lt0) (trodAll_cons_mk (shut_int Try.underlying3 w1) trodAll_mk0)), rfl, bel.frame _, fun h => by cases h⟩

theorem over : Rows.fnFirstAtAnyCutRow.holds Try.pinned (OpenSpec.ofChange Rows.fnFirstAtAnyCutSpec) :=
  OpenClaim.holds_of_wide 5 Try.f5 rfl rfl rfl rfl rfl rfl rfl ⟨rfl, rfl, rfl, rfl, rfl⟩ rfl rfl rfl rfl rfl (by kernel_rfl) Try.func5 (by kernel_rfl)
    (of_decide_eq_true (by kernel_rfl)) (by unfold Func.isWrapper; first | (rw [if_pos (by decide +kernel)]; kernel_rfl) | (rw [if_neg (by decide +kernel)]; exact ⟨rfl, rfl⟩))
    (fun os started H enc _ => lifted os started H enc)

theorem proved : Rows.FnFirstAtAnyCutSaid := over
#print axioms proved
end Go.Proofs.Qxb6614963a.fnFirstAtAnyCut
