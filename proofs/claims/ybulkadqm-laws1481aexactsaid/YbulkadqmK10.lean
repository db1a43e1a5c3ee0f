import Derived.Test.YbulkadqmK9
namespace Go.Proofs.Ybulkadqm.AK
open Go.RowKit

/-- the slices of the one known set: none -/
abbrev s0 : Value := .agg #[.int .u32 0, .slice none 0 0, .slice none 0 0]

theorem heap_old {w : World} {b : Nat} {o : Obj} (o' : Obj) (h : w.heap[b]? = some o) : (w.alloc o').heap[b]? = some o :=
  (Below.heap_alloc w o' b (Array.getElem?_eq_some_iff.1 h).1).trans h
theorem heap_at {w : World} {b : Nat} (o : Obj) (h : b = w.heap.size) : (w.alloc o).heap[b]? = some o := by
  subst h
  show (w.heap.push o)[w.heap.size]? = some o
  simp
theorem len_map {w : World} {b : Nat} {es : Array MapEntry} {c : Nat} (h : w.heap[b]? = some (.map es c)) : (Builtin.len_ #[129] 3 #[.map (some b)]).run Yba.prog w = .ok (.int .i64 es.size) w := by
  simp [Builtin.len_, Sem.run_bind, obj_map h, go_sem]
theorem make_map (n : Int) (w : World) : (Instr.makeMap 32 (some (.int .i64 n))).run Yba.prog w = .ok (.map (some w.heap.size)) (w.alloc (.map #[] 0)) := by
  simp only [Instr.makeMap, Sem.run_bind, run_underlying Yba.underlying32, Result.andThen]
  rfl

theorem range_map {w : World} {T K E b : Nat} {es : Array MapEntry} {c : Nat} (hT : Yba.prog.underlying T = some (.map K E)) (h : w.heap[b]? = some (.map es c)) : (Instr.range T (.map (some b))).run Yba.prog w = .ok (.pointer (some ⟨w.heap.size, 0, none⟩)) (w.alloc (.mapIter (some b) c #[] c)) := by
  simp only [Instr.range, Sem.run_bind, run_underlying hT, obj_map h, Result.andThen]
  rfl
theorem next_none {w : World} {ty r b c : Nat} (hr : w.heap[r]? = some (.mapIter (some b) c #[] c)) (h : w.heap[b]? = some (.map #[] c)) : (Instr.next (.pointer (some ⟨r, 0, none⟩)) false ty).run Yba.prog w = .ok (.tuple #[.bool false]) w := by
  rcases run_next_at (P := Yba.prog) w ty r b c c #[] #[] c hr h (by simp) (Nat.le_refl _) with ⟨_, h1⟩ | ⟨e, he, _⟩
  · exact h1
  · simp [leftOf] at he

theorem range_k1 (w : World) : (w.alloc (.cells k1L.toArray 47)).rangeAt w.heap.size 0 k1L := by
  have := World.rangeAt_of_block (w := w.alloc (.cells k1L.toArray 47)) (heap_at _ rfl) 0 32
  exact this

set_option maxRecDepth 100000 in
set_option maxHeartbeats 3200000 in
theorem quorum_none (ib : Nat) (w : World) (hib : w.heap[ib]? = some (.map #[] 0)) :
    Calls Yba.prog 39 #[k1, .map (some ib)] w fun e w' => e = .returned (.bool false) ∧ Below w.heap.size w w' := by
  have hmk := make_map
  go_enter Yba.func39, Yba.ntmps39
  go_wp2_with fail
  rw [len_map (heap_old _ hib)]
  simp only [Result.andThen]
  rw [Oper.upon_value]
  go_wp2_with fail
  rw [range_map Yba.underlying129 (heap_old _ (heap_old _ (heap_old _ hib)))]
  simp only [Result.andThen]
  rw [Oper.upon_value]
  go_wp2_with fail
  generalize hW : World.alloc _ (Obj.mapIter (some ib) 0 #[] 0) = W
  have f1 : W.heap[ib]? = some (.map #[] 0) := by rw [← hW]; exact heap_old _ (heap_old _ (heap_old _ (heap_old _ hib)))
  have f2 : W.heap[w.heap.size + 1]? = some (.map #[] 0) := by rw [← hW]; exact heap_old _ (heap_old _ (heap_at _ (by simp [go_sem])))
  have f3 : W.heap[w.heap.size + 1 + 1 + 1]? = some (.mapIter (some ib) 0 #[] 0) := by rw [← hW]; exact heap_at _ (by simp [go_sem])
  have g0 : W.cell? ⟨w.heap.size + 1 + 1, 0, none⟩ = some (.map (some (w.heap.size + 1))) := by rw [← hW]; simp [go_sem]
  have hr : W.rangeAt w.heap.size 0 k1L := by rw [← hW]; exact World.rangeAt_alloc (World.rangeAt_alloc (World.rangeAt_alloc (range_k1 w) _) _) _
  have HW : Hid (Below w.heap.size w W) := by rw [← hW]; exact ((((Below.refl _ w).alloc (Nat.le_refl _) _).alloc (by simp [go_sem]) _).alloc (by simp [go_sem]; omega) _).alloc (by simp [go_sem]; omega) _
  have q1 : w.heap.size + 1 + 1 < W.heap.size := World.block_lt_of_cell? W _ g0
  clear hW hib hmk
  refine wp_loop_rounds 1 ?_
  rw [rounds_succ]
  go_wp2_with fail
  rw [next_none f3 f1]
  simp only [Result.andThen]
  rw [Oper.upon_value]
  go_wp2_with fail
  refine wp_loop_rounds 2 ?_
  rw [rounds_succ]
  go_wp2_with fail
  rw [range_map Yba.underlying32 f2]
  simp only [Result.andThen]
  rw [Oper.upon_value]
  go_wp2_with fail
  refine wp_loop_rounds 1 ?_
  rw [rounds_succ]
  go_wp2_with fail
  rw [next_none (heap_at _ rfl) (heap_old _ f2)]
  simp only [Result.andThen]
  rw [Oper.upon_value]
  have hlk := look32_none (heap_old (.mapIter (some (w.heap.size + 1)) 0 #[] 0) f2)
  have HW2 : Hid (Below w.heap.size w (W.alloc (.mapIter (some (w.heap.size + 1)) 0 #[] 0))) := HW.out.trans ((Below.refl _ _).alloc HW.out.size _)
  replace g0 := alloc_keep (.mapIter (some (w.heap.size + 1)) 0 #[] 0) g0
  replace hr := World.rangeAt_alloc hr (.mapIter (some (w.heap.size + 1)) 0 #[] 0)
  replace q1 := World.block_lt_of_cell? _ _ g0
  clear f1 f2 f3 HW
  generalize World.alloc W (Obj.mapIter (some (w.heap.size + 1)) 0 #[] 0) = W2 at *
  go_wp2_with fail
  rw [rounds_succ]
  go_wp2_with (refine wpList_load_mid rfl 47 _ rfl _ 0 rfl k1L _ hr Yba.underlying47 rfl (by kernel_rfl) ?_)
  go_ret
  exact ⟨rfl, HW2.out⟩
end Go.Proofs.Ybulkadqm.AK
