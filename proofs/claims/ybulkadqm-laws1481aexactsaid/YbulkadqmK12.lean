import Derived.Test.YbulkadqmK11
import Derived.Deep.RegionHeld3
namespace Go.Proofs.Ybulkadqm.AK
open Go.RowKit
set_option linter.unusedSimpArgs false

/-- the statement's cells -/
def stL (pl : Value) : List Value := k1L ++ (.int .u64 0 :: (h0L ++ [pl]))
theorem stv_eq (pl : Value) : stv pl = .agg (stL pl).toArray := rfl
def s0L : List Value := [.int .u32 0, .slice none 0 0, .slice none 0 0]
theorem range_hash {w : World} {b : Nat} {pl : Value} (h : w.rangeAt b 0 (stL pl)) : w.rangeAt b 33 h0L := fun j v hj => by
  have hl : j < 32 := (List.getElem?_eq_some_iff.1 hj).1
  have := h (33 + j) v (by
    show (k1L ++ (.int .u64 0 :: (h0L ++ [pl])))[33 + j]? = some v
    rw [List.getElem?_append_right (by show 32 ≤ 33 + j; omega), show 33 + j - k1L.length = j + 1 by show 33 + j - 32 = j + 1; omega, List.getElem?_cons_succ, List.getElem?_append_left (by show j < 32; exact hl)]
    exact hj)
  rwa [Nat.zero_add] at this
theorem only_setCells (b : Nat) : ∀ (vs : List Value) (o : Nat) (w : World), Only b w (w.setCells b o vs)
  | [], _, w => ⟨rfl, rfl, rfl, rfl, fun _ _ => rfl⟩
  | v :: r, o, w => by
    have h := only_setCells b r (o + 1) (w.setCell ⟨b, o, none⟩ v)
    have hs : (w.setCell ⟨b, o, none⟩ v).heap.size = w.heap.size := by simp
    exact ⟨h.os, h.tape, h.output, h.size.trans hs, fun k hk => (h.block k hk).trans (Below.heap_setCell w ⟨b, o, none⟩ v k hk)⟩
theorem there_new (w : World) (cs : Array Value) (t : TypeId) : (w.alloc (.cells cs t)).there w.heap.size 0 cs.size := fun j hj => by
  refine ⟨?_, ?_⟩
  · rw [cell_of_row _ _ (0 + j) cs t (0, 0) (heap_at _ rfl)]; simp [hj]
  · have := heap_at (w := w) (.cells cs t) rfl
    unfold World.frozen?
    rw [this]
    simp
theorem range_newb (w : World) (cs : List Value) (t : TypeId) {b : Nat} (h : b = w.heap.size) : (w.alloc (.cells cs.toArray t)).rangeAt b 0 cs := by subst h; exact range_new w cs t
theorem setRow_alloc_past (w : World) (o : Obj) (b : Nat) (c : Array Value) (hb : b < w.heap.size) : (w.alloc o).setRow b c = (w.setRow b c).alloc o := by
  simp only [World.setRow, World.alloc]
  congr 1
  apply Array.ext_getElem?
  intro i
  rw [Array.getElem?_modify, Array.getElem?_push, Array.getElem?_push, Array.getElem?_modify]
  by_cases h : b = i
  · subst h
    have hne : ¬ b = w.heap.size := by omega
    simp [hne]
  · by_cases h2 : i = w.heap.size
    · subst h2; simp [h]
    · simp [h, h2]
theorem wpList_store_new2 {P : Program} {ops : Array Oper} {rest : List Oper} {op : Oper} {a : Act} {w : World} {Q : Exit → Act → World → Prop} (hgd : op.guard = none) (ty : TypeId) (x y : Operand) (ho : op.op = .store ty x y)
    (b : Nat) (c c' : Array Value) (o : Obj) (hx : a.eval x = .pointer (some ⟨b, 0, none⟩)) (hb : b = w.heap.size) (hy : a.eval y = .agg c') (hi : (P.info? ty).map (·.size) = some c'.size) (hs : c.size = c'.size) (h1 : c'.all (·.oneCell') = true)
    (h : wpList P ops Q rest (a.put op.dst undef) ((w.alloc (.cells c' ty)).alloc o)) : wpList P ops Q (op :: rest) a ((w.alloc (.cells c ty)).alloc o) :=
  wpList_plain hgd fun K hK => by
    subst hb
    have e := run_storeVar_row (P := P) ((w.alloc (.cells c ty)).alloc o) w.heap.size ty ty c c' (heap_old _ (heap_at _ rfl)) hi hs h1
    rw [setRow_alloc_past _ _ _ _ (by simp [go_sem]), World.setRow_alloc_new] at e
    unfold Oper.wp execOp
    simp only [ho, hx, hy, Instr.storeAt, Instr.sureAddr, e, Sem.run_bind, Sem.run_pure, Result.andThen_ok]
    exact hK _ _ h

set_option maxRecDepth 100000 in
set_option maxHeartbeats 3200000 in
theorem threshold_walk (eb kb sb mb xb : Nat) (pl : Value) (hpl : pl.oneCell' = true) (acc : Bool) (w : World)
    (he : w.rangeAt eb 0 k1L) (hk : w.cell? ⟨eb, 69, none⟩ = some (.map (some kb))) (hkb : w.heap[kb]? = some (.map #[⟨h0, .pointer (some ⟨sb, 0, none⟩), 0⟩] 1)) (hs : w.rangeAt sb 0 s0L) (hm : w.heap[mb]? = some (.map #[⟨k1, .agg (stL pl).toArray, 0⟩] 1))
    (HV : ∀ w', Below w.heap.size w w' → Calls Yba.prog 27 #[stv pl, .pointer (some ⟨xb, 0, none⟩)] w' fun e w'' => e = .returned (.bool acc) ∧ Below w'.heap.size w' w'') :
    Calls Yba.prog 24 #[.pointer (some ⟨eb, 0, none⟩), .map (some mb), .func (.func 27) #[] #[.pointer (some ⟨xb, 0, none⟩)]] w fun e w' => e = .returned (.bool acc) ∧ Below w.heap.size w w' := by
  have HV2 : Hid (∀ w', Below w.heap.size w w' → Calls Yba.prog 27 #[.agg (stL pl).toArray, .pointer (some ⟨xb, 0, none⟩)] w' fun e w'' => e = .returned (.bool acc) ∧ Below w'.heap.size w' w'') := by
    intro w' hb; have := HV w' hb; rwa [stv_eq] at this
  clear HV
  have hz1 : (stL pl).toArray.all (·.oneCell') = true := by
    rw [Array.all_eq_true_iff_forall_mem]
    intro v hv
    simp only [stL, List.mem_toArray, List.mem_append, List.mem_cons, List.not_mem_nil, or_false] at hv
    rcases hv with hv | rfl | hv | rfl
    · exact (by decide : ∀ v ∈ k1L, v.oneCell' = true) v hv
    · rfl
    · exact (by decide : ∀ v ∈ h0L, v.oneCell' = true) v hv
    · exact hpl
  have hk0 := World.block_lt_of_cell? w _ hk
  have hmk : ∀ w, (Instr.makeMap 129 none).run Yba.prog w = .ok (.map (some w.heap.size)) (w.alloc (.map #[] 0)) := fun w => rfl
  go_enter Yba.func24, Yba.ntmps24
  go_wp2_with fail
  rw [range_map Yba.underlying31 (heap_old _ hm)]
  simp only [Result.andThen]
  rw [Oper.upon_value]
  go_wp2_with fail
  generalize hW : World.alloc _ (Obj.mapIter (some mb) 1 #[] 1) = W
  have f1 : W.heap[mb]? = some (.map #[⟨k1, .agg (stL pl).toArray, 0⟩] 1) := by rw [← hW]; exact heap_old _ (heap_old _ hm)
  have f2 : W.heap[w.heap.size]? = some (.map #[] 0) := by rw [← hW]; exact heap_old _ (heap_at _ rfl)
  have f3 : W.heap[w.heap.size + 1]? = some (.mapIter (some mb) 1 #[] 1) := by rw [← hW]; exact heap_at _ (by simp [go_sem])
  have HW : Hid (Below w.heap.size w W) := by rw [← hW]; exact ((Below.refl _ w).alloc (Nat.le_refl _) _).alloc (by simp [go_sem]) _
  have hm0 : mb < w.heap.size := (Array.getElem?_eq_some_iff.1 hm).1
  clear hW hm hmk
  refine wp_loop_rounds 2 ?_
  rw [rounds_succ]
  go_wp2_with fail
  obtain ⟨W1, hn, O1, f3'⟩ := next_one (ty := 0) f3 f1
  rw [hn]
  simp only [Result.andThen]
  rw [Oper.upon_value]
  replace f1 := O1.obj (by omega) f1
  replace f2 := O1.obj (by omega) f2
  have HW1 : Hid (Below w.heap.size w W1) := O1.below HW.out (by omega)
  clear hn O1 HW f3
  have hen := entry_one f3' f1
  have q1 : w.heap.size + 1 < W1.heap.size := (Array.getElem?_eq_some_iff.1 f3').1
  have hkb0 : kb < w.heap.size := (Array.getElem?_eq_some_iff.1 hkb).1
  have hs0 : sb < w.heap.size := World.block_lt_of_cell? _ _ (hs 0 _ rfl)
  have HB2 : Hid (Below w.heap.size w ((W1.alloc (.cells k1L.toArray 47)).alloc (.cells (stL pl).toArray 52))) := (HW1.out.alloc HW1.out.size _).alloc (by have := HW1.out.size; simp [go_sem]; omega) _
  go_wp2_with (first | refine wpList_store_new2 rfl 47 _ _ rfl _ _ k1L.toArray _ rfl rfl rfl (by kernel_rfl) (by kernel_rfl) (by kernel_rfl) ?_ | refine wpList_store_new rfl 52 _ _ rfl _ _ (stL pl).toArray rfl (by simp [go_sem]) rfl (by kernel_rfl) (by kernel_rfl) hz1 ?_ | refine wpList_load_mid rfl 52 _ rfl (W1.heap.size + 1) 0 rfl (stL pl) _ (range_newb _ _ _ (by simp [go_sem])) Yba.underlying52 rfl (by kernel_rfl) ?_ | (go_at_call 27; refine (HV2.out _ HB2.out).mono ?_; rintro e W2 ⟨rfl, B2⟩) | fail)
  · have B1 := below2 W1 (.cells k1L.toArray 47) (.cells (stL pl).toArray 52)
    have hr1 := below_range B2 (World.rangeAt_alloc (range_new W1 k1L 47) (.cells (stL pl).toArray 52))
    have hr2 := below_range B2 (range_hash (range_newb (W1.alloc (.cells k1L.toArray 47)) (stL pl) 52 (b := W1.heap.size + 1) (by simp [go_sem])))
    have hz2 := range_newb (W1.alloc (.cells k1L.toArray 47)) (stL pl) 52 (b := W1.heap.size + 1) (by simp [go_sem])
    have B3 := B1.trans (B2.mono B1.size)
    have HW2 : Hid (Below w.heap.size w W2) := HW1.out.trans (B3.mono HW1.out.size)
    replace f1 := below_obj B3 f1
    replace f2 := below_obj B3 f2
    replace f3' := below_obj B3 f3'
    have he2 := below_range HW2.out he
    have hk2 := below_keep HW2.out hk
    have hkb2 := below_obj HW2.out hkb
    have hs2 := below_range HW2.out hs
    have hk02 : eb < W2.heap.size := World.block_lt_of_cell? _ _ hk2
    clear HV2 hen HB2 HW1 hz1 hz2 B1 B2 B3 hk hkb hs he
    refine wp_region_held_drew (S := fun w' => w'.rangeAt W1.heap.size 0 k1L ∧ w'.cell? ⟨eb, 69, none⟩ = some (.map (some kb)) ∧ w'.rangeAt (W1.heap.size + 1) 33 h0L ∧ w'.heap[kb]? = some (.map #[⟨h0, .pointer (some ⟨sb, 0, none⟩), 0⟩] 1) ∧ w'.rangeAt sb 0 s0L) (by kernel_rfl) ⟨hr1, hk2, hr2, hkb2, hs2⟩ (fun hHeld => ?_)
    refine wpAnyH_take (i := 0) (v := ?v0) rfl (by kernel_rfl) (by kernel_rfl) (by kernel_rfl) (fun _ _ _ h => h) (Or.inl ⟨by rfl, ?hy0⟩) (by assumption) ?rest0
    case hy0 => (intro w hSw; (try dsimp only at hSw); go_simp) <;> (try with_reducible rfl)
    simp only [Act.put, List.getElem_toArray, List.getElem_cons_zero, List.getElem_cons_succ, List.setIfInBounds_toArray, List.set_cons_zero, List.set_cons_succ]
    refine wpAnyH_take (i := 1) (v := .agg (k1L).toArray) rfl (by kernel_rfl) (by kernel_rfl) (by kernel_rfl) (fun _ _ _ h => h) (yieldsIf_load_mid (by rfl) 47 _ rfl _ 0 rfl (k1L) _ (fun w h => h.1) Yba.underlying47 rfl (by kernel_rfl)) (by assumption) ?_
    simp only [Act.put, List.getElem_toArray, List.getElem_cons_zero, List.getElem_cons_succ, List.setIfInBounds_toArray, List.set_cons_zero, List.set_cons_succ]
    refine wpAnyH_take (i := 2) (v := ?v2) rfl (by kernel_rfl) (by kernel_rfl) (by kernel_rfl) (fun _ _ _ h => h) (Or.inl ⟨by rfl, ?hy2⟩) (by assumption) ?rest2
    case hy2 => (intro w hSw; (try dsimp only at hSw); go_simp) <;> (try with_reducible rfl)
    simp only [Act.put, List.getElem_toArray, List.getElem_cons_zero, List.getElem_cons_succ, List.setIfInBounds_toArray, List.set_cons_zero, List.set_cons_succ]
    refine wpAnyH_take (i := 3) (v := ?v3) rfl (by kernel_rfl) (by kernel_rfl) (by kernel_rfl) (fun _ _ _ h => h) (Or.inl ⟨by rfl, ?hy3⟩) (by assumption) ?rest3
    case hy3 => (intro w hSw; (try dsimp only at hSw); go_simp) <;> (try with_reducible rfl)
    simp only [Act.put, List.getElem_toArray, List.getElem_cons_zero, List.getElem_cons_succ, List.setIfInBounds_toArray, List.set_cons_zero, List.set_cons_succ]
    refine wpAnyH_take (i := 4) (v := ?v4) rfl (by kernel_rfl) (by kernel_rfl) (by kernel_rfl) (fun _ _ _ h => h) (Or.inl ⟨by rfl, ?hy4⟩) (by assumption) ?rest4
    case hy4 => (intro w hSw; (try dsimp only at hSw); go_simp) <;> (try with_reducible rfl)
    simp only [Act.put, List.getElem_toArray, List.getElem_cons_zero, List.getElem_cons_succ, List.setIfInBounds_toArray, List.set_cons_zero, List.set_cons_succ]
    refine wpAnyH_take (i := 5) (v := ?v5) rfl (by kernel_rfl) (by kernel_rfl) (by kernel_rfl) (fun _ _ _ h => h) (Or.inl ⟨by rfl, ?hy5⟩) (by assumption) ?rest5
    case hy5 => (intro w hSw; (try dsimp only at hSw); go_simp) <;> (try with_reducible rfl)
    simp only [Act.put, List.getElem_toArray, List.getElem_cons_zero, List.getElem_cons_succ, List.setIfInBounds_toArray, List.set_cons_zero, List.set_cons_succ]
    refine wpAnyH_take (i := 6) (v := ?v6) rfl (by kernel_rfl) (by kernel_rfl) (by kernel_rfl) (fun _ _ _ h => h) (Or.inl ⟨by rfl, ?hy6⟩) (by assumption) ?rest6
    case hy6 => (intro w hSw; (try dsimp only at hSw); go_simp) <;> (try with_reducible rfl)
    simp only [Act.put, List.getElem_toArray, List.getElem_cons_zero, List.getElem_cons_succ, List.setIfInBounds_toArray, List.set_cons_zero, List.set_cons_succ]
    refine wpAnyH_take (i := 7) (v := .agg (h0L).toArray) rfl (by kernel_rfl) (by kernel_rfl) (by kernel_rfl) (fun _ _ _ h => h) (yieldsIf_load_mid (by rfl) 48 _ rfl _ 33 rfl (h0L) _ (fun w h => h.2.2.1) Yba.underlying48 rfl (by kernel_rfl)) (by assumption) ?_
    simp only [Act.put, List.getElem_toArray, List.getElem_cons_zero, List.getElem_cons_succ, List.setIfInBounds_toArray, List.set_cons_zero, List.set_cons_succ]
    refine wpAnyH_take (i := 8) (v := ?v8) rfl (by kernel_rfl) (by kernel_rfl) (by kernel_rfl) (fun _ _ _ h => h) (Or.inl ⟨by rfl, ?hy8⟩) (by assumption) ?rest8
    case hy8 => (intro w hSw; (try dsimp only at hSw); have hq := look60 hSw.2.2.2.1; go_simp) <;> (try with_reducible rfl)
    simp only [Act.put, List.getElem_toArray, List.getElem_cons_zero, List.getElem_cons_succ, List.setIfInBounds_toArray, List.set_cons_zero, List.set_cons_succ]
    refine wpAnyH_take (i := 9) (v := ?v9) rfl (by kernel_rfl) (by kernel_rfl) (by kernel_rfl) (fun _ _ _ h => h) (Or.inl ⟨by rfl, ?hy9⟩) (by assumption) ?rest9
    case hy9 => (intro w hSw; (try dsimp only at hSw); go_simp) <;> (try with_reducible rfl)
    simp only [Act.put, List.getElem_toArray, List.getElem_cons_zero, List.getElem_cons_succ, List.setIfInBounds_toArray, List.set_cons_zero, List.set_cons_succ]
    refine wpAnyH_take (i := 10) (v := ?v10) rfl (by kernel_rfl) (by kernel_rfl) (by kernel_rfl) (fun _ _ _ h => h) (Or.inl ⟨by rfl, ?hy10⟩) (by assumption) ?rest10
    case hy10 => (intro w hSw; (try dsimp only at hSw); go_simp) <;> (try with_reducible rfl)
    simp only [Act.put, List.getElem_toArray, List.getElem_cons_zero, List.getElem_cons_succ, List.setIfInBounds_toArray, List.set_cons_zero, List.set_cons_succ]
    refine wpAnyH_take (i := 11) (v := .agg (s0L).toArray) rfl (by kernel_rfl) (by kernel_rfl) (by kernel_rfl) (fun _ _ _ h => h) (yieldsIf_load_mid (by rfl) 57 _ rfl _ 0 rfl (s0L) _ (fun w h => h.2.2.2.2) Yba.underlying57 rfl (by kernel_rfl)) (by assumption) ?_
    simp only [Act.put, List.getElem_toArray, List.getElem_cons_zero, List.getElem_cons_succ, List.setIfInBounds_toArray, List.set_cons_zero, List.set_cons_succ]
    refine wpAnyH_ready (rs := [12]) (by kernel_rfl) (by simp) ?_
    refine AllReadyH.cons rfl (fun K hK => ?_) AllReadyH.nil
    rw [if_pos (by rfl)]
    go_simp
    obtain ⟨W3, hp, O3, f2'⟩ := put_one (w := W2.drew) (.agg s0L.toArray) Yba.underlying129 f2
    have O3' : Only w.heap.size W2 W3 := ⟨O3.os, O3.tape, O3.output, O3.size, O3.block⟩
    rw [hp]
    simp only [Result.andThen]
    rw [Oper.upon_skip]
    replace f1 := O3'.obj (by omega) f1
    replace f3' := O3'.obj (by omega) f3'
    have he3 := O3'.range (by omega) he2
    have HW3 : Hid (Below w.heap.size w W3) := O3'.below HW2.out (by omega)
    refine hK.out _ _ ⟨O3'.range (by omega) hr1, O3'.cell (by show eb ≠ _; omega) hk2, O3'.range (by omega) hr2, O3'.obj (by omega) hkb2, O3'.range (by omega) hs2⟩ (fun hHeld2 => ?_)
    clear hK K hHeld hp O3 O3' f2 hr1 hk2 hr2 hkb2 hs2 HW2 he2 hk02
    refine wpAnyH_done (by kernel_rfl) ?_ _
    have hk03 : eb < W3.heap.size := World.block_lt_of_cell? _ _ (he3 0 _ rfl)
    have HQ : Hid (Calls Yba.prog 39 #[k1, .map (some w.heap.size)] W3 fun e w' => e = .returned (.bool true) ∧ Below W3.heap.size W3 w') := quorum_one w.heap.size W3 f2'
    go_wp2_with fail
    rw [rounds_succ]
    go_wp2_with fail
    rw [next_done f3' f1]
    simp only [Result.andThen]
    rw [Oper.upon_value]
    go_wp2_with (first | refine wpList_load_mid rfl 47 _ rfl eb 0 rfl k1L _ he3 Yba.underlying47 rfl (by kernel_rfl) ?_ | (go_at_call 39; refine HQ.out.mono ?_; rintro e W4 ⟨rfl, B4⟩) | fail)
    go_ret
    exact ⟨ret_bool (by simp [*]), HW3.out.trans (B4.mono HW3.out.size)⟩
  · have B1 := below2 W1 (.cells k1L.toArray 47) (.cells (stL pl).toArray 52)
    have B3 := B1.trans (B2.mono B1.size)
    have HW2 : Hid (Below w.heap.size w W2) := HW1.out.trans (B3.mono HW1.out.size)
    replace f1 := below_obj B3 f1
    replace f2 := below_obj B3 f2
    replace f3' := below_obj B3 f3'
    have he3 := below_range HW2.out he
    have hk03 : eb < W2.heap.size := World.block_lt_of_cell? _ _ (he3 0 _ rfl)
    have HQ : Hid (Calls Yba.prog 39 #[k1, .map (some w.heap.size)] W2 fun e w' => e = .returned (.bool false) ∧ Below W2.heap.size W2 w') := quorum_none w.heap.size W2 f2
    clear HV2 hen HB2 HW1 hz1 B1 B2 B3 hk hkb hs he
    rw [rounds_succ]
    go_wp2_with fail
    rw [next_done f3' f1]
    simp only [Result.andThen]
    rw [Oper.upon_value]
    go_wp2_with (first | refine wpList_load_mid rfl 47 _ rfl eb 0 rfl k1L _ he3 Yba.underlying47 rfl (by kernel_rfl) ?_ | (go_at_call 39; refine HQ.out.mono ?_; rintro e W4 ⟨rfl, B4⟩) | fail)
    go_ret
    exact ⟨ret_bool (by simp [*]), HW2.out.trans (B4.mono HW2.out.size)⟩
end Go.Proofs.Ybulkadqm.AK
