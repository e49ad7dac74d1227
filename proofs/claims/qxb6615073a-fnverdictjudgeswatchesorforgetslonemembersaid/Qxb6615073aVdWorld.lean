/-
  FnVerdictJudgesWatchesOrForgetsLoneMember: blocks of cells and maps known whole; what the map operations of this program do to them.
-/
import Derived.Test.Qxb6615073aLease
import Derived.Laws.AppendOwn
import Derived.Maps.RangeRun
import Derived.WideMake
import Derived.MapKept
namespace Go.Proofs.Qxb6615073a.Vd
open Go.RowKit

/-- block B holds the cells cs, none frozen -/
def Blk (W : World) (B : Nat) (cs : Array Value) (t : TypeId) : Prop := W.heap[B]? = some (.cells cs t (0, 0))
theorem Blk.lt {W : World} {B : Nat} {cs : Array Value} {t : TypeId} (h : Blk W B cs t) : B < W.heap.size := (Array.getElem?_eq_some_iff.1 h).1
theorem Blk.cell {W : World} {B : Nat} {cs : Array Value} {t : TypeId} (h : Blk W B cs t) (i : Nat) : W.cell? ⟨B, i, none⟩ = cs[i]? := by simp [World.cell?, show W.heap[B]? = _ from h]
theorem Blk.frozen {W : World} {B : Nat} {cs : Array Value} {t : TypeId} (h : Blk W B cs t) (i : Nat) : W.frozen? ⟨B, i, none⟩ = false := by simp [World.frozen?, show W.heap[B]? = _ from h]
theorem Blk.set {W : World} {B : Nat} {cs : Array Value} {t : TypeId} (h : Blk W B cs t) (i : Nat) (v : Value) : Blk (W.setCell ⟨B, i, none⟩ v) B (cs.setIfInBounds i v) t := by
  obtain ⟨hlt, hk⟩ := Array.getElem?_eq_some_iff.1 h
  show (W.heap.modify B _)[B]? = _
  rw [Array.getElem?_eq_getElem (by rw [Array.size_modify]; exact hlt), Array.getElem_modify_self, hk]
  rfl

/-- the members' map with its one entry -/
def one (nm : ByteArray) (v : Value) : Array MapEntry := #[{ key := .string nm, val := v, born := 0 }]

theorem beq_self (s : ByteArray) : (s == s) = true := (MapKept.bytes_beq s s).2 rfl
theorem beq_ne {a b : ByteArray} (h : ¬ a = b) : (a == b) = false := by
  cases e : (a == b)
  · rfl
  · exact absurd ((MapKept.bytes_beq a b).1 e) h

section
variable {w : World} {b : Nat}

theorem key_str (e : Bool) (s : ByteArray) : (Instr.checkKey e 10000 9 (.string s)).run Try.prog w = .ok () w :=
  MapKept.run_checkKey (k := .string s) Try.underlying9 (by simp [MapKept.IsKey]) e 9999
theorem key_int (e : Bool) (n : Int) : (Instr.checkKey e 10000 2 (.int .i64 n)).run Try.prog w = .ok () w :=
  MapKept.run_checkKey (k := .int .i64 n) Try.underlying2 (by simp [MapKept.IsKey]) e 9999

theorem look_hit (nm : ByteArray) (v : Value) (cl : Nat) (h : w.heap[b]? = some (.map (one nm v) cl)) :
    (Instr.lookup 52 (.map (some b)) (.string nm) false).run Try.prog w = .ok v w := by
  have hf : Instr.findNow .string (.string nm) (one nm v).toList 0 = some (some (0, v)) := by simp [one, Instr.findNow, Instr.sameNow, beq_self]
  simp [Instr.lookup, run_underlying Try.underlying52, MapKept.run_getObj_map h, key_str, MapKept.run_findKey Try.underlying9 hf]
theorem look_hit_ok (nm : ByteArray) (v : Value) (cl : Nat) (h : w.heap[b]? = some (.map (one nm v) cl)) :
    (Instr.lookup 52 (.map (some b)) (.string nm) true).run Try.prog w = .ok (.tuple #[v, .bool true]) w := by
  have hf : Instr.findNow .string (.string nm) (one nm v).toList 0 = some (some (0, v)) := by simp [one, Instr.findNow, Instr.sameNow, beq_self]
  simp [Instr.lookup, run_underlying Try.underlying52, MapKept.run_getObj_map h, key_str, MapKept.run_findKey Try.underlying9 hf]
theorem look_miss (k nm : ByteArray) (v : Value) (cl : Nat) (hne : ¬ k = nm) (h : w.heap[b]? = some (.map (one nm v) cl)) :
    (Instr.lookup 52 (.map (some b)) (.string k) false).run Try.prog w = .ok (.pointer none) w := by
  have hb := beq_ne hne
  have hf : Instr.findNow .string (.string k) (one nm v).toList 0 = some none := by simp [one, Instr.findNow, Instr.sameNow, hb]
  simp [Instr.lookup, run_underlying Try.underlying52, MapKept.run_getObj_map h, key_str, MapKept.run_findKey Try.underlying9 hf]
theorem look_gone_ok (k : ByteArray) (cl : Nat) (h : w.heap[b]? = some (.map #[] cl)) :
    (Instr.lookup 52 (.map (some b)) (.string k) true).run Try.prog w = .ok (.tuple #[.pointer none, .bool false]) w := by
  have hf : Instr.findNow .string (.string k) ([] : List MapEntry) 0 = some none := rfl
  simp [Instr.lookup, run_underlying Try.underlying52, MapKept.run_getObj_map h, key_str, MapKept.run_findKey Try.underlying9 hf]
theorem look_replaced (k : Int) (cl : Nat) (h : w.heap[b]? = some (.map #[] cl)) :
    (Instr.lookup 54 (.map (some b)) (.int .i64 k) false).run Try.prog w = .ok (.pointer none) w := by
  have hf : Instr.findNow (.int .i64) (.int .i64 k) ([] : List MapEntry) 0 = some none := rfl
  simp [Instr.lookup, run_underlying Try.underlying54, MapKept.run_getObj_map h, key_int, MapKept.run_findKey Try.underlying2 hf]
theorem delete_one (nm : ByteArray) (v : Value) (cl : Nat) (ty : TypeId) (h : w.heap[b]? = some (.map (one nm v) cl)) :
    (Builtin.delete_ #[52, 9] ty #[.map (some b), .string nm]).run Try.prog w = .ok (.tuple #[]) { w with heap := w.heap.setIfInBounds b (.map #[] cl) } := by
  have hf : Instr.findNow .string (.string nm) (one nm v).toList 0 = some (some (0, v)) := by simp [one, Instr.findNow, Instr.sameNow, beq_self]
  simp [Builtin.delete_, run_underlying Try.underlying52, MapKept.run_getObj_map h, key_str, MapKept.run_findKey Try.underlying9 hf, MapKept.run_setObj_map _ h]
  simp [one]
theorem update_first (nm : ByteArray) (v : Value) (h : w.heap[b]? = some (.map #[] 0)) :
    (Instr.mapUpdate 52 (.map (some b)) (.string nm) v).run Try.prog w = .ok () { w with heap := w.heap.setIfInBounds b (.map (one nm v) 1) } :=
  run_mapUpdate_first w 52 9 39 b 0 nm v Try.underlying52 Try.underlying9 h
end
end Go.Proofs.Qxb6615073a.Vd
