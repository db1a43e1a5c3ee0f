import Derived.Test.YbulkadqmK10
import Derived.Deep.WholeRow
namespace Go.Proofs.Ybulkadqm.AK
open Go.RowKit

/-- one block alone may be another -/
structure Only (r : Nat) (w w' : World) : Prop where
  os : w'.os = w.os
  tape : w'.tape = w.tape
  output : w'.output = w.output
  size : w'.heap.size = w.heap.size
  block : ∀ k, k ≠ r → w'.heap[k]? = w.heap[k]?
theorem Only.below {r B : Nat} {a w w' : World} (h : Only r w w') (hb : Below B a w) (hr : B ≤ r) : Below B a w' :=
  hb.trans ⟨h.os, h.tape, h.output, Nat.le_of_eq h.size.symm, fun k hk => h.block k (by omega)⟩
theorem Only.cell {r : Nat} {w w' : World} (h : Only r w w') {p : Addr} {v : Value} (hp : p.block ≠ r) (hv : w.cell? p = some v) : w'.cell? p = some v :=
  (World.cell?_of_block (w := w) (h.block p.block hp)).trans hv
theorem Only.obj {r : Nat} {w w' : World} (h : Only r w w') {b : Nat} {o : Obj} (hp : b ≠ r) (hv : w.heap[b]? = some o) : w'.heap[b]? = some o := (h.block b hp).trans hv
theorem Only.range {r : Nat} {w w' : World} (h : Only r w w') {b o : Nat} {cs : List Value} (hp : b ≠ r) (hv : w.rangeAt b o cs) : w'.rangeAt b o cs :=
  fun j v hj => h.cell hp (hv j v hj)
theorem only_set (w : World) (r : Nat) (o : Obj) : Only r w { w with heap := w.heap.setIfInBounds r o } :=
  ⟨rfl, rfl, rfl, by simp, fun k hk => by simp only [Array.getElem?_setIfInBounds]; rw [if_neg (fun h => hk h.symm)]⟩
theorem set_at {w : World} {r : Nat} {o' : Obj} (o : Obj) (h : w.heap[r]? = some o') : ({ w with heap := w.heap.setIfInBounds r o } : World).heap[r]? = some o := by
  have := (Array.getElem?_eq_some_iff.1 h).1
  simp [this]

theorem next_one {w : World} {ty r b : Nat} {v : Value} (hr : w.heap[r]? = some (.mapIter (some b) 1 #[] 1)) (h : w.heap[b]? = some (.map #[⟨k1, v, 0⟩] 1)) :
    ∃ W, (Instr.next (.pointer (some ⟨r, 0, none⟩)) false ty).run Yba.prog w = .ok (.tuple #[.bool true, k1, v]) W ∧ Only r w W ∧ W.heap[r]? = some (.mapIter (some b) 1 #[0] 1) := by
  rcases run_next_at (P := Yba.prog) w ty r b 1 1 #[] #[⟨k1, v, 0⟩] 1 hr h (by simp) (Nat.le_refl _) with ⟨h0, _⟩ | ⟨e, he, w1, hw, h1⟩
  · simp [leftOf] at h0
  · have he' : e = ⟨k1, v, 0⟩ := by simpa [leftOf] using he
    subst he'
    refine ⟨_, h1, ?_, ?_⟩
    · rcases hw with rfl | rfl
      · exact only_set _ _ _
      · exact ⟨rfl, rfl, rfl, (only_set w.drew r _).size, (only_set w.drew r _).block⟩
    · rcases hw with rfl | rfl
      · exact set_at _ hr
      · exact set_at (w := w.drew) _ hr
theorem next_done {w : World} {ty r b : Nat} {v : Value} (hr : w.heap[r]? = some (.mapIter (some b) 1 #[0] 1)) (h : w.heap[b]? = some (.map #[⟨k1, v, 0⟩] 1)) :
    (Instr.next (.pointer (some ⟨r, 0, none⟩)) false ty).run Yba.prog w = .ok (.tuple #[.bool false]) w := by
  rcases run_next_at (P := Yba.prog) w ty r b 1 1 #[0] #[⟨k1, v, 0⟩] 1 hr h (by simp) (Nat.le_refl _) with ⟨_, h1⟩ | ⟨e, he, _⟩
  · exact h1
  · simp [leftOf] at he
theorem entry_one {w : World} {r b : Nat} {v : Value} (hr : w.heap[r]? = some (.mapIter (some b) 1 #[0] 1)) (h : w.heap[b]? = some (.map #[⟨k1, v, 0⟩] 1)) :
    (Instr.entry (.pointer (some ⟨r, 0, none⟩))).run Yba.prog w = .ok (.tuple #[k1, v]) w :=
  run_entry_at (P := Yba.prog) w r b 1 #[] #[⟨k1, v, 0⟩] 1 ⟨k1, v, 0⟩ hr h (by simp) (by simp)

theorem put_one {w : World} {T E b : Nat} (v : Value) (hT : Yba.prog.underlying T = some (.map 47 E)) (hb : w.heap[b]? = some (.map #[] 0)) :
    ∃ W, (Instr.mapUpdate T (.map (some b)) k1 v).run Yba.prog w = .ok () W ∧ Only b w W ∧ W.heap[b]? = some (.map #[⟨k1, v, 0⟩] 1) :=
  ⟨_, put_new v hT hb, only_set _ _ _, set_at _ hb⟩

theorem below_obj {w w' : World} {b : Nat} {o : Obj} (hb : Below w.heap.size w w') (h : w.heap[b]? = some o) : w'.heap[b]? = some o := (hb.block b (Array.getElem?_eq_some_iff.1 h).1).trans h
theorem below_range {w w' : World} {b o : Nat} {cs : List Value} (hb : Below w.heap.size w w') (h : w.rangeAt b o cs) : w'.rangeAt b o cs := fun j v hj => below_keep hb (h j v hj)

theorem range_new (w : World) (cs : List Value) (t : TypeId) : (w.alloc (.cells cs.toArray t)).rangeAt w.heap.size 0 cs := by
  have h := World.rangeAt_of_block (w := w.alloc (.cells cs.toArray t)) (heap_at _ rfl) 0 cs.length
  simpa using h
theorem wpList_store_new {P : Program} {ops : Array Oper} {rest : List Oper} {op : Oper} {a : Act} {w : World} {Q : Exit → Act → World → Prop} (hgd : op.guard = none) (ty : TypeId) (x y : Operand) (ho : op.op = .store ty x y)
    (b : Nat) (c c' : Array Value) (hx : a.eval x = .pointer (some ⟨b, 0, none⟩)) (hb : b = w.heap.size) (hy : a.eval y = .agg c') (hi : (P.info? ty).map (·.size) = some c'.size) (hs : c.size = c'.size) (h1 : c'.all (·.oneCell') = true)
    (h : wpList P ops Q rest (a.put op.dst undef) (w.alloc (.cells c' ty))) : wpList P ops Q (op :: rest) a (w.alloc (.cells c ty)) :=
  wpList_plain hgd fun K hK => by
    subst hb
    have e := run_storeAt_new (P := P) w ty c c' hi hs h1
    unfold Oper.wp execOp
    simp only [ho, hx, hy, e, Sem.run_bind, Result.andThen_ok]
    exact hK _ _ h

set_option maxRecDepth 100000 in
set_option maxHeartbeats 3200000 in
theorem quorum_one (ib : Nat) (w : World) (hib : w.heap[ib]? = some (.map #[⟨k1, s0, 0⟩] 1)) :
    Calls Yba.prog 39 #[k1, .map (some ib)] w fun e w' => e = .returned (.bool true) ∧ Below w.heap.size w w' := by
  have hmk := make_map
  have hi0 : ib < w.heap.size := (Array.getElem?_eq_some_iff.1 hib).1
  go_enter Yba.func39, Yba.ntmps39
  go_wp2_with fail
  rw [len_map (heap_old _ hib)]
  simp only [Result.andThen]
  rw [Oper.upon_value]
  go_wp2_with fail
  rw [range_map Yba.underlying129 (heap_old _ (heap_old _ (heap_old _ hib)))]
  simp only [Result.andThen]
  rw [Oper.upon_value]
  go_wp2_with fail
  generalize hW : World.alloc _ (Obj.mapIter (some ib) 1 #[] 1) = W
  have f1 : W.heap[ib]? = some (.map #[⟨k1, s0, 0⟩] 1) := by rw [← hW]; exact heap_old _ (heap_old _ (heap_old _ (heap_old _ hib)))
  have f2 : W.heap[w.heap.size + 1]? = some (.map #[] 0) := by rw [← hW]; exact heap_old _ (heap_old _ (heap_at _ (by simp [go_sem])))
  have f3 : W.heap[w.heap.size + 1 + 1 + 1]? = some (.mapIter (some ib) 1 #[] 1) := by rw [← hW]; exact heap_at _ (by simp [go_sem])
  have g0 : W.cell? ⟨w.heap.size + 1 + 1, 0, none⟩ = some (.map (some (w.heap.size + 1))) := by rw [← hW]; simp [go_sem]
  have hr : W.rangeAt w.heap.size 0 k1L := by rw [← hW]; exact World.rangeAt_alloc (World.rangeAt_alloc (World.rangeAt_alloc (range_k1 w) _) _) _
  have HW : Hid (Below w.heap.size w W) := by rw [← hW]; exact ((((Below.refl _ w).alloc (Nat.le_refl _) _).alloc (by simp [go_sem]) _).alloc (by simp [go_sem]; omega) _).alloc (by simp [go_sem]; omega) _
  clear hW hib hmk
  refine wp_loop_rounds 2 ?_
  rw [rounds_succ]
  go_wp2_with fail
  obtain ⟨W1, hn, O1, f3'⟩ := next_one (ty := 0) f3 f1
  rw [hn]
  simp only [Result.andThen]
  rw [Oper.upon_value]
  replace f1 := O1.obj (by omega) f1
  replace f2 := O1.obj (by omega) f2
  replace g0 := O1.cell (by show w.heap.size + 1 + 1 ≠ _; omega) g0
  replace hr := O1.range (by omega) hr
  have HW1 : Hid (Below w.heap.size w W1) := O1.below HW.out (by omega)
  have q1 : w.heap.size + 1 + 1 < W1.heap.size := World.block_lt_of_cell? _ _ g0
  clear hn O1 HW f3
  have he := entry_one f3' f1
  go_wp2_with (first | refine wpList_store_new rfl 47 _ _ rfl _ _ k1L.toArray rfl rfl rfl (by kernel_rfl) (by kernel_rfl) (by kernel_rfl) ?_ | refine wpList_load_mid rfl 47 _ rfl _ 0 rfl k1L _ (range_new _ _ _) Yba.underlying47 rfl (by kernel_rfl) ?_)
  have hA := (Below.refl W1.heap.size W1).alloc (Nat.le_refl _) (.cells k1L.toArray 47)
  obtain ⟨W2, hp, O2, f2'⟩ := put_one (.bool true) Yba.underlying32 (heap_old (.cells k1L.toArray 47) f2)
  rw [hp]
  simp only [Result.andThen]
  rw [Oper.upon_skip]
  replace f1 := O2.obj (by omega) (heap_old _ f1)
  replace f3 := O2.obj (by omega) (heap_old _ f3')
  replace g0 := O2.cell (by show w.heap.size + 1 + 1 ≠ _; omega) (alloc_keep _ g0)
  replace hr := O2.range (by omega) (World.rangeAt_alloc hr _)
  have HW2 : Hid (Below w.heap.size w W2) := O2.below (HW1.out.trans (hA.mono HW1.out.size)) (by omega)
  replace q1 : w.heap.size + 1 + 1 < W2.heap.size := World.block_lt_of_cell? _ _ g0
  clear hp O2 HW1 f3' f2 he hA
  go_wp2_with fail
  rw [rounds_succ]
  go_wp2_with fail
  rw [next_done f3 f1]
  simp only [Result.andThen]
  rw [Oper.upon_value]
  go_wp2_with fail
  refine wp_loop_rounds 2 ?_
  rw [rounds_succ]
  go_wp2_with fail
  rw [range_map Yba.underlying32 f2']
  simp only [Result.andThen]
  rw [Oper.upon_value]
  have f4 := heap_at (w := W2) (.mapIter (some (w.heap.size + 1)) 1 #[] 1) rfl
  replace f1 := heap_old (.mapIter (some (w.heap.size + 1)) 1 #[] 1) f1
  replace f2' := heap_old (.mapIter (some (w.heap.size + 1)) 1 #[] 1) f2'
  replace g0 := alloc_keep (.mapIter (some (w.heap.size + 1)) 1 #[] 1) g0
  replace hr := World.rangeAt_alloc hr (.mapIter (some (w.heap.size + 1)) 1 #[] 1)
  have HW3 : Hid (Below w.heap.size w (W2.alloc (.mapIter (some (w.heap.size + 1)) 1 #[] 1))) := HW2.out.alloc HW2.out.size _
  generalize World.alloc W2 (Obj.mapIter (some (w.heap.size + 1)) 1 #[] 1) = W3 at *
  clear f3 HW2
  go_wp2_with fail
  refine wp_loop_rounds 2 ?_
  rw [rounds_succ]
  go_wp2_with fail
  obtain ⟨W4, hn, O4, f4'⟩ := next_one (ty := 0) f4 f2'
  rw [hn]
  simp only [Result.andThen]
  rw [Oper.upon_value]
  replace f1 := O4.obj (by omega) f1
  replace f2' := O4.obj (by omega) f2'
  replace g0 := O4.cell (by show w.heap.size + 1 + 1 ≠ _; omega) g0
  replace hr := O4.range (by omega) hr
  have HW4 : Hid (Below w.heap.size w W4) := O4.below HW3.out (by omega)
  replace q1 : w.heap.size + 1 + 1 < W4.heap.size := World.block_lt_of_cell? _ _ g0
  clear hn O4 HW3 f4
  have he := entry_one f4' f2'
  have hl := look129 (heap_old (.cells k1L.toArray 47) f1)
  have hS := fun cs => sat_walk cs (W4.alloc (.cells k1L.toArray 47))
  go_wp2_with (first | refine wpList_store_new rfl 47 _ _ rfl _ _ k1L.toArray rfl rfl rfl (by kernel_rfl) (by kernel_rfl) (by kernel_rfl) ?_ | refine wpList_load_mid rfl 47 _ rfl _ 0 rfl k1L _ (range_new _ _ _) Yba.underlying47 rfl (by kernel_rfl) ?_ | (go_at_call 45; refine (hS _).mono ?_; rintro e W5 ⟨rfl, B5⟩))
  have B4 := ((Below.refl W4.heap.size W4).alloc (Nat.le_refl _) (.cells k1L.toArray 47)).trans (B5.mono (by simp [go_sem]))
  replace f2' := below_obj B4 f2'
  replace f4' := below_obj B4 f4'
  replace g0 := below_keep B4 g0
  replace hr := below_range B4 hr
  have HW5 : Hid (Below w.heap.size w W5) := HW4.out.trans (B4.mono HW4.out.size)
  replace q1 : w.heap.size + 1 + 1 < W5.heap.size := World.block_lt_of_cell? _ _ g0
  clear HW4 B4 B5 hS hl he f1
  rw [rounds_succ]
  go_wp2_with fail
  rw [next_done f4' f2']
  simp only [Result.andThen]
  rw [Oper.upon_value]
  have hl := look32 f2'
  go_wp2_with fail
  rw [rounds_succ]
  go_wp2_with (refine wpList_load_mid rfl 47 _ rfl _ 0 rfl k1L _ hr Yba.underlying47 rfl (by kernel_rfl) ?_)
  go_ret
  exact ⟨rfl, HW5.out⟩
end Go.Proofs.Ybulkadqm.AK
