import Derived.Test.YbulkadqmK8
import Derived.MapKept
import Derived.Maps.RangeRun
import Derived.Deep.MidRow
namespace Go.Proofs.Ybulkadqm.AK
open Go.RowKit

/-- the node's id and no hash, as cells -/
def k1L : List Value := [.int .u8 1, .int .u8 0, .int .u8 0, .int .u8 0, .int .u8 0, .int .u8 0, .int .u8 0, .int .u8 0, .int .u8 0, .int .u8 0, .int .u8 0, .int .u8 0, .int .u8 0, .int .u8 0, .int .u8 0, .int .u8 0, .int .u8 0, .int .u8 0, .int .u8 0, .int .u8 0, .int .u8 0, .int .u8 0, .int .u8 0, .int .u8 0, .int .u8 0, .int .u8 0, .int .u8 0, .int .u8 0, .int .u8 0, .int .u8 0, .int .u8 0, .int .u8 0]
def h0L : List Value := [.int .u8 0, .int .u8 0, .int .u8 0, .int .u8 0, .int .u8 0, .int .u8 0, .int .u8 0, .int .u8 0, .int .u8 0, .int .u8 0, .int .u8 0, .int .u8 0, .int .u8 0, .int .u8 0, .int .u8 0, .int .u8 0, .int .u8 0, .int .u8 0, .int .u8 0, .int .u8 0, .int .u8 0, .int .u8 0, .int .u8 0, .int .u8 0, .int .u8 0, .int .u8 0, .int .u8 0, .int .u8 0, .int .u8 0, .int .u8 0, .int .u8 0, .int .u8 0]
abbrev k1 : Value := .agg k1L.toArray
abbrev h0 : Value := .agg h0L.toArray
theorem find47 (v : Value) (b : Nat) (w : World) : (Instr.findKey 47 k1 [⟨k1, v, b⟩]).run Yba.prog w = .ok (some (0, v)) w := by kernel_rfl
theorem find48 (v : Value) (b : Nat) (w : World) : (Instr.findKey 48 h0 [⟨h0, v, b⟩]).run Yba.prog w = .ok (some (0, v)) w := by kernel_rfl
theorem find47_none (w : World) : (Instr.findKey 47 k1 []).run Yba.prog w = .ok none w := by kernel_rfl
theorem check47 (e : Bool) (w : World) : (Instr.checkKey e 10000 47 k1).run Yba.prog w = .ok () w := by cases e <;> kernel_rfl
theorem check48 (e : Bool) (w : World) : (Instr.checkKey e 10000 48 h0).run Yba.prog w = .ok () w := by cases e <;> kernel_rfl
theorem obj_map {w : World} {r : Nat} {es : Array MapEntry} {c : Nat} (hb : w.heap[r]? = some (.map es c)) : (getObj r).run Yba.prog w = .ok (.map es c) w := by simp [getObj, Sem.run, hb]
theorem set_map {w : World} {r : Nat} {es : Array MapEntry} {c : Nat} (o : Obj) (hb : w.heap[r]? = some (.map es c)) : (setObj r o).run Yba.prog w = .ok () { w with heap := w.heap.setIfInBounds r o } := by simp [setObj, Sem.run, hb]
theorem look60 {w : World} {kb : Nat} {v : Value} (hb : w.heap[kb]? = some (.map #[⟨h0, v, 0⟩] 1)) : (Instr.lookup 60 (.map (some kb)) h0 false).run Yba.prog w = .ok v w := by
  simp only [Instr.lookup, Sem.run_bind, run_underlying Yba.underlying60, obj_map hb, Sem.run_pure, check48, find48, Result.andThen]
  rfl
theorem look129 {w : World} {kb : Nat} {v : Value} (hb : w.heap[kb]? = some (.map #[⟨k1, v, 0⟩] 1)) : (Instr.lookup 129 (.map (some kb)) k1 false).run Yba.prog w = .ok v w := by
  simp only [Instr.lookup, Sem.run_bind, run_underlying Yba.underlying129, obj_map hb, Sem.run_pure, check47, find47, Result.andThen]
  rfl
theorem look32 {w : World} {kb : Nat} {v : Value} (hb : w.heap[kb]? = some (.map #[⟨k1, v, 0⟩] 1)) : (Instr.lookup 32 (.map (some kb)) k1 false).run Yba.prog w = .ok v w := by
  simp only [Instr.lookup, Sem.run_bind, run_underlying Yba.underlying32, obj_map hb, Sem.run_pure, check47, find47, Result.andThen]
  rfl
theorem zero4 (w : World) : (zeroValue 4).run Yba.prog w = .ok (.bool false) w := by kernel_rfl
theorem look32_none {w : World} {kb c : Nat} (hb : w.heap[kb]? = some (.map #[] c)) : (Instr.lookup 32 (.map (some kb)) k1 false).run Yba.prog w = .ok (.bool false) w := by
  simp only [Instr.lookup, Sem.run_bind, run_underlying Yba.underlying32, obj_map hb, Sem.run_pure, check47, find47_none, zero4, Result.andThen]
  rfl
theorem put_new {w : World} {T E b c : Nat} (v : Value) (hT : Yba.prog.underlying T = some (.map 47 E)) (hb : w.heap[b]? = some (.map #[] c)) : (Instr.mapUpdate T (.map (some b)) k1 v).run Yba.prog w = .ok () { w with heap := w.heap.setIfInBounds b (.map #[⟨k1, v, c⟩] (c + 1)) } := by
  simp only [Instr.mapUpdate, Sem.run_bind, run_underlying hT, obj_map hb, check47, find47_none, Result.andThen]
  rw [set_map _ hb]
  rfl
end Go.Proofs.Ybulkadqm.AK
