import Derived.Test.YbulkadqmK15
import Derived.Deep.DeepCutAuto
namespace Go.Proofs.Ybulkadqm.AK
open Go.RowKit
set_option linter.unusedSimpArgs false

theorem info81 : (Yba.prog.info? 81).map (fun i => (i.zero, i.size, i.bytes)) = some (some (.agg #[.int .i64 0, .int .u64 0, .int .u32 0, .int .u32 0, .int .u32 0]), 5, 32) := by kernel_rfl

set_option maxRecDepth 100000 in
set_option maxHeartbeats 1600000 in
theorem stop_true (sb : Nat) (w : World) (h5 : w.cell? ⟨sb, 5, none⟩ = some (.bool true)) :
    Calls Yba.prog 25 #[.pointer (some ⟨sb, 0, none⟩)] w fun e w' => e = .returned (.tuple #[]) ∧ w' = w := by
  go_enter Yba.func25, Yba.ntmps25
  go_wp2_with fail
  (try simp only [Exit.inBlock, Exit.then])
  refine bodyPost_ret (results_none rfl _ _ _) rfl ?_
  exact ⟨rfl, rfl⟩

theorem grown_none2 {w w' : World} {o : Obj} (h : (w.drew.alloc o).grownBy w' none) : Below w.heap.size w w' :=
  (((Below.refl _ w).drew.alloc (Nat.le_refl _) o).grown h (by simp [go_sem]) (by intro k hk; cases hk))
/-- the timer -/
abbrev timL (idx : Int) : List Value := [.int .i64 1, .int .u64 (IntKind.u64.wrap (idx + 1)), .int .u32 0, .int .u32 0, .int .u32 5000]

set_option maxRecDepth 100000 in
set_option maxHeartbeats 3200000 in
theorem stop_false (sb eb : Nat) (idx : Int) (w : World) (h0 : w.cell? ⟨sb, 0, none⟩ = some (.pointer (some ⟨eb, 0, none⟩))) (h1 : w.cell? ⟨sb, 1, none⟩ = some (.int .u64 idx))
    (h5 : w.cell? ⟨sb, 5, none⟩ = some (.bool false)) (f5 : w.frozen? ⟨sb, 5, none⟩ = false) (ht : w.cell? ⟨eb, 79, none⟩ = some (.slice none 0 0)) (ft : w.frozen? ⟨eb, 79, none⟩ = false) :
    Calls Yba.prog 25 #[.pointer (some ⟨sb, 0, none⟩)] w fun e w' => e = .returned (.tuple #[]) ∧ ∃ g cap w1, w' = w1.setCell ⟨eb, 79, none⟩ (.slice (some ⟨g, 0, none⟩) 1 cap) ∧ w1.rangeAt g 0 (timL idx) ∧ w.heap.size ≤ g ∧ Below w.heap.size (w.setCell ⟨sb, 5, none⟩ (.bool true)) w1 := by
  have hsb : sb < w.heap.size := World.block_lt_of_cell? _ _ h0
  have heb : eb < w.heap.size := World.block_lt_of_cell? _ _ ht
  obtain ⟨w1, E1⟩ : ∃ w1, Hid (w1 = w.setCell ⟨sb, 5, none⟩ (.bool true)) := ⟨_, rfl⟩
  have g0 : w1.cell? ⟨sb, 0, none⟩ = some (.pointer (some ⟨eb, 0, none⟩)) := by rw [E1.out, World.cell?_setCell_other _ _ _ _ (by simp)]; exact h0
  have g1 : w1.cell? ⟨sb, 1, none⟩ = some (.int .u64 idx) := by rw [E1.out, World.cell?_setCell_other _ _ _ _ (by simp)]; exact h1
  have gt : w1.cell? ⟨eb, 79, none⟩ = some (.slice none 0 0) := by rw [E1.out, World.cell?_setCell_other _ _ _ _ (by simp)]; exact ht
  have gf : w1.frozen? ⟨eb, 79, none⟩ = false := by rw [E1.out]; simpa using ft
  have HZ : Hid (w1.heap.size = w.heap.size) := by show w1.heap.size = _; rw [E1.out]; simp
  have hs1 : sb < w1.heap.size := World.block_lt_of_cell? _ _ g0
  have he1 : eb < w1.heap.size := World.block_lt_of_cell? _ _ gt
  obtain ⟨i0, hi0, hz0, hz2, hz3⟩ := info_parts info81
  go_enter Yba.func25, Yba.ntmps25
  go_wp2_with fail
  rw [← E1.out]
  refine wp_region_held_drew (S := fun w' => w'.cell? ⟨sb, 0, none⟩ = some (.pointer (some ⟨eb, 0, none⟩)) ∧ w'.cell? ⟨sb, 1, none⟩ = some (.int .u64 idx)) (by kernel_rfl) ⟨g0, g1⟩ (fun hHeld => ?_)
  refine wpAnyH_take (i := 0) (v := ?v0) rfl (by kernel_rfl) (by kernel_rfl) (by kernel_rfl) (fun _ _ _ h => h) (Or.inl ⟨by rfl, ?hy0⟩) (by assumption) ?rest0
  case hy0 => (intro w hSw; (try dsimp only at hSw); go_simp) <;> (try with_reducible rfl)
  simp only [Act.put, List.getElem_toArray, List.getElem_cons_zero, List.getElem_cons_succ, List.setIfInBounds_toArray, List.set_cons_zero, List.set_cons_succ]
  refine wpAnyH_take (i := 1) (v := ?v1) rfl (by kernel_rfl) (by kernel_rfl) (by kernel_rfl) (fun _ _ _ h => h) (Or.inl ⟨by rfl, ?hy1⟩) (by assumption) ?rest1
  case hy1 => (intro w hSw; (try dsimp only at hSw); go_simp) <;> (try with_reducible rfl)
  simp only [Act.put, List.getElem_toArray, List.getElem_cons_zero, List.getElem_cons_succ, List.setIfInBounds_toArray, List.set_cons_zero, List.set_cons_succ]
  refine wpAnyH_take (i := 2) (v := ?v2) rfl (by kernel_rfl) (by kernel_rfl) (by kernel_rfl) (fun _ _ _ h => h) (Or.inl ⟨by rfl, ?hy2⟩) (by assumption) ?rest2
  case hy2 => (intro w hSw; (try dsimp only at hSw); go_simp) <;> (try with_reducible rfl)
  simp only [Act.put, List.getElem_toArray, List.getElem_cons_zero, List.getElem_cons_succ, List.setIfInBounds_toArray, List.set_cons_zero, List.set_cons_succ]
  refine wpAnyH_take (i := 3) (v := ?v3) rfl (by kernel_rfl) (by kernel_rfl) (by kernel_rfl) (fun _ _ _ h => h) (Or.inl ⟨by rfl, ?hy3⟩) (by assumption) ?rest3
  case hy3 => (intro w hSw; (try dsimp only at hSw); go_simp) <;> (try with_reducible rfl)
  simp only [Act.put, List.getElem_toArray, List.getElem_cons_zero, List.getElem_cons_succ, List.setIfInBounds_toArray, List.set_cons_zero, List.set_cons_succ]
  refine wpAnyH_take (i := 4) (v := ?v4) rfl (by kernel_rfl) (by kernel_rfl) (by kernel_rfl) (fun _ _ _ h => h) (Or.inl ⟨by rfl, ?hy4⟩) (by assumption) ?rest4
  case hy4 => (intro w hSw; (try dsimp only at hSw); go_simp) <;> (try with_reducible rfl)
  simp only [Act.put, List.getElem_toArray, List.getElem_cons_zero, List.getElem_cons_succ, List.setIfInBounds_toArray, List.set_cons_zero, List.set_cons_succ]
  refine wpAnyH_take (i := 5) (v := ?v5) rfl (by kernel_rfl) (by kernel_rfl) (by kernel_rfl) (fun _ _ _ h => h) (Or.inl ⟨by rfl, ?hy5⟩) (by assumption) ?rest5
  case hy5 => (intro w hSw; (try dsimp only at hSw); go_simp) <;> (try with_reducible rfl)
  simp only [Act.put, List.getElem_toArray, List.getElem_cons_zero, List.getElem_cons_succ, List.setIfInBounds_toArray, List.set_cons_zero, List.set_cons_succ]
  refine wpAnyH_take (i := 6) (v := ?v6) rfl (by kernel_rfl) (by kernel_rfl) (by kernel_rfl) (fun _ _ _ h => h) (Or.inl ⟨by rfl, ?hy6⟩) (by assumption) ?rest6
  case hy6 => (intro w hSw; (try dsimp only at hSw); go_simp) <;> (try with_reducible rfl)
  simp only [Act.put, List.getElem_toArray, List.getElem_cons_zero, List.getElem_cons_succ, List.setIfInBounds_toArray, List.set_cons_zero, List.set_cons_succ]
  refine wpAnyH_take (i := 7) (v := ?v7) rfl (by kernel_rfl) (by kernel_rfl) (by kernel_rfl) (fun _ _ _ h => h) (Or.inl ⟨by rfl, ?hy7⟩) (by assumption) ?rest7
  case hy7 => (intro w hSw; (try dsimp only at hSw); go_simp) <;> (try with_reducible rfl)
  simp only [Act.put, List.getElem_toArray, List.getElem_cons_zero, List.getElem_cons_succ, List.setIfInBounds_toArray, List.set_cons_zero, List.set_cons_succ]
  refine wpAnyH_take (i := 8) (v := ?v8) rfl (by kernel_rfl) (by kernel_rfl) (by kernel_rfl) (fun _ _ _ h => h) (Or.inl ⟨by rfl, ?hy8⟩) (by assumption) ?rest8
  case hy8 => (intro w hSw; (try dsimp only at hSw); go_simp) <;> (try with_reducible rfl)
  simp only [Act.put, List.getElem_toArray, List.getElem_cons_zero, List.getElem_cons_succ, List.setIfInBounds_toArray, List.set_cons_zero, List.set_cons_succ]
  refine wpAnyH_take (i := 9) (v := ?v9) rfl (by kernel_rfl) (by kernel_rfl) (by kernel_rfl) (fun _ _ _ h => h) (Or.inl ⟨by rfl, ?hy9⟩) (by assumption) ?rest9
  case hy9 => (intro w hSw; (try dsimp only at hSw); go_simp) <;> (try with_reducible rfl)
  simp only [Act.put, List.getElem_toArray, List.getElem_cons_zero, List.getElem_cons_succ, List.setIfInBounds_toArray, List.set_cons_zero, List.set_cons_succ]
  refine wpAnyH_take (i := 10) (v := ?v10) rfl (by kernel_rfl) (by kernel_rfl) (by kernel_rfl) (fun _ _ _ h => h) (Or.inl ⟨by rfl, ?hy10⟩) (by assumption) ?rest10
  case hy10 => (intro w hSw; (try dsimp only at hSw); go_simp) <;> (try with_reducible rfl)
  simp only [Act.put, List.getElem_toArray, List.getElem_cons_zero, List.getElem_cons_succ, List.setIfInBounds_toArray, List.set_cons_zero, List.set_cons_succ]
  refine wpAnyH_take (i := 12) (v := ?v12) rfl (by kernel_rfl) (by kernel_rfl) (by kernel_rfl) (fun _ _ _ h => h) (Or.inl ⟨by rfl, ?hy12⟩) (by assumption) ?rest12
  case hy12 => (intro w hSw; (try dsimp only at hSw); go_simp) <;> (try with_reducible rfl)
  simp only [Act.put, List.getElem_toArray, List.getElem_cons_zero, List.getElem_cons_succ, List.setIfInBounds_toArray, List.set_cons_zero, List.set_cons_succ]
  refine wpAnyH_take (i := 13) (v := ?v13) rfl (by kernel_rfl) (by kernel_rfl) (by kernel_rfl) (fun _ _ _ h => h) (Or.inl ⟨by rfl, ?hy13⟩) (by assumption) ?rest13
  case hy13 => (intro w hSw; (try dsimp only at hSw); go_simp) <;> (try with_reducible rfl)
  simp only [Act.put, List.getElem_toArray, List.getElem_cons_zero, List.getElem_cons_succ, List.setIfInBounds_toArray, List.set_cons_zero, List.set_cons_succ]
  refine wpAnyH_take (i := 14) (v := ?v14) rfl (by kernel_rfl) (by kernel_rfl) (by kernel_rfl) (fun _ _ _ h => h) (Or.inl ⟨by rfl, ?hy14⟩) (by assumption) ?rest14
  case hy14 => (intro w hSw; (try dsimp only at hSw); go_simp) <;> (try with_reducible rfl)
  simp only [Act.put, List.getElem_toArray, List.getElem_cons_zero, List.getElem_cons_succ, List.setIfInBounds_toArray, List.set_cons_zero, List.set_cons_succ]
  refine wpAnyH_take (i := 15) (v := ?v15) rfl (by kernel_rfl) (by kernel_rfl) (by kernel_rfl) (fun _ _ _ h => h) (Or.inl ⟨by rfl, ?hy15⟩) (by assumption) ?rest15
  case hy15 => (intro w hSw; (try dsimp only at hSw); go_simp) <;> (try with_reducible rfl)
  simp only [Act.put, List.getElem_toArray, List.getElem_cons_zero, List.getElem_cons_succ, List.setIfInBounds_toArray, List.set_cons_zero, List.set_cons_succ]
  refine wpAnyH_take (i := 16) (v := ?v16) rfl (by kernel_rfl) (by kernel_rfl) (by kernel_rfl) (fun _ _ _ h => h) (Or.inl ⟨by rfl, ?hy16⟩) (by assumption) ?rest16
  case hy16 => (intro w hSw; (try dsimp only at hSw); go_simp) <;> (try with_reducible rfl)
  simp only [Act.put, List.getElem_toArray, List.getElem_cons_zero, List.getElem_cons_succ, List.setIfInBounds_toArray, List.set_cons_zero, List.set_cons_succ]
  refine wpAnyH_take (i := 17) (v := ?v17) rfl (by kernel_rfl) (by kernel_rfl) (by kernel_rfl) (fun _ _ _ h => h) (Or.inl ⟨by rfl, ?hy17⟩) (by assumption) ?rest17
  case hy17 => (intro w hSw; (try dsimp only at hSw); go_simp) <;> (try with_reducible rfl)
  simp only [Act.put, List.getElem_toArray, List.getElem_cons_zero, List.getElem_cons_succ, List.setIfInBounds_toArray, List.set_cons_zero, List.set_cons_succ]
  refine wpAnyH_ready (rs := [11, 18]) (by kernel_rfl) (by simp) ?_
  refine AllReadyH.cons rfl (fun K hK => ?_) (AllReadyH.cons rfl (fun K hK => ?_) AllReadyH.nil)
  · rw [if_pos (by rfl)]
    go_simp
    refine hK.out _ _ ⟨g0, g1⟩ (fun hHeld2 => ?_)
    clear hK K hHeld
    refine wpAnyH_ready (rs := [18]) (by kernel_rfl) (by simp) ?_
    refine AllReadyH.cons rfl (fun K hK => ?_) AllReadyH.nil
    rw [if_pos (by rfl)]
    go_simp
    refine hK.out _ _ ⟨by simpa [go_sem, hs1] using g0, by simpa [go_sem, hs1] using g1⟩ (fun hHeld3 => ?_)
    clear hK K hHeld2
    refine wpAnyH_ready (rs := [19]) (by kernel_rfl) (by simp) ?_
    refine AllReadyH.cons rfl (fun K hK => ?_) AllReadyH.nil
    refine step_append_lies _ (by rfl) _ _ _ (by rfl) w1.heap.size 81 i0 _ 5 32 Yba.underlying65 hi0 hz0 hz2 hz3 rfl (by omega) (.slice none 0 0) 0 [] (by rfl) (World.ownsRow_nil _ _ _ _) ⟨w1.heap.size, 0, none⟩ 1 1 (timL idx) (by rfl) (by rfl) (World.news_of_block (cs := (timL idx).toArray) (t := 81) (fr := (0, 0)) (heap_at _ (by rfl))) (by simp [Value.oneCell']) (by omega) (by unfold maxLen; omega) (by omega) (by simp [go_sem]) _ rfl ?_
    intro g cap w3 hown3 hgrow hat hlt3
    have B3 : Below w1.heap.size w1 w3 := grown_none2 hgrow
    have k0 := below_keep B3 g0
    have k1' := below_keep B3 g1
    have kt := below_keep B3 gt
    have kf := (B3.frozen (p := ⟨eb, 79, none⟩) he1).trans gf
    have hs3 : sb < w3.heap.size := World.block_lt_of_cell? _ _ k0
    refine hK.out _ _ ⟨k0, k1'⟩ (fun hHeld4 => ?_)
    clear hK K hHeld3
    refine wpAnyH_take (i := 20) (v := ?v20) rfl (by kernel_rfl) (by kernel_rfl) (by kernel_rfl) (fun _ _ _ h => h) (Or.inl ⟨by rfl, ?hy20⟩) (by assumption) ?rest20
    case hy20 => (intro w hSw; (try dsimp only at hSw); go_simp) <;> (try with_reducible rfl)
    simp only [Act.put, List.getElem_toArray, List.getElem_cons_zero, List.getElem_cons_succ, List.setIfInBounds_toArray, List.set_cons_zero, List.set_cons_succ]
    refine wpAnyH_take (i := 21) (v := ?v21) rfl (by kernel_rfl) (by kernel_rfl) (by kernel_rfl) (fun _ _ _ h => h) (Or.inl ⟨by rfl, ?hy21⟩) (by assumption) ?rest21
    case hy21 => (intro w hSw; (try dsimp only at hSw); go_simp) <;> (try with_reducible rfl)
    simp only [Act.put, List.getElem_toArray, List.getElem_cons_zero, List.getElem_cons_succ, List.setIfInBounds_toArray, List.set_cons_zero, List.set_cons_succ]
    refine wpAnyH_take (i := 22) (v := ?v22) rfl (by kernel_rfl) (by kernel_rfl) (by kernel_rfl) (fun _ _ _ h => h) (Or.inl ⟨by rfl, ?hy22⟩) (by assumption) ?rest22
    case hy22 => (intro w hSw; (try dsimp only at hSw); go_simp) <;> (try with_reducible rfl)
    simp only [Act.put, List.getElem_toArray, List.getElem_cons_zero, List.getElem_cons_succ, List.setIfInBounds_toArray, List.set_cons_zero, List.set_cons_succ]
    refine wpAnyH_ready (rs := [23]) (by kernel_rfl) (by simp) ?_
    refine AllReadyH.cons rfl (fun K hK => ?_) AllReadyH.nil
    rw [if_pos (by rfl)]
    go_simp
    refine hK.out _ _ ⟨(World.cell?_setCell_other _ _ _ _ (fun e => by injection e; omega)).trans k0, (World.cell?_setCell_other _ _ _ _ (fun e => by injection e; omega)).trans k1'⟩ (fun hHeld5 => ?_)
    clear hK K hHeld4
    refine wpAnyH_done (by kernel_rfl) ?_ _
    go_wp2_with fail
    go_end0
    refine ⟨rfl, g, cap, w3, rfl, fun j v hj => ?_, ?_, ?_⟩
    · have hl : j < 5 := (List.getElem?_eq_some_iff.1 hj).1
      rw [Nat.zero_add, hown3.cellAt j (by omega)]
      simpa using hj
    · have hz := HZ.out
      rcases hown3.2 with h | ⟨g', _, _, hv, hb, _⟩
      · omega
      · have : g = g' := by injection hv with h1; injection h1 with h2; injection h2
        omega
    · rw [← E1.out, ← HZ.out]; exact B3
  · rw [if_pos (by rfl)]
    go_simp
    refine hK.out _ _ ⟨by simpa [go_sem, hs1] using g0, by simpa [go_sem, hs1] using g1⟩ (fun hHeld2 => ?_)
    clear hK K hHeld
    refine wpAnyH_ready (rs := [11]) (by kernel_rfl) (by simp) ?_
    refine AllReadyH.cons rfl (fun K hK => ?_) AllReadyH.nil
    rw [if_pos (by rfl)]
    go_simp
    refine hK.out _ _ ⟨by simpa [go_sem, hs1] using g0, by simpa [go_sem, hs1] using g1⟩ (fun hHeld3 => ?_)
    clear hK K hHeld2
    refine wpAnyH_ready (rs := [19]) (by kernel_rfl) (by simp) ?_
    refine AllReadyH.cons rfl (fun K hK => ?_) AllReadyH.nil
    refine step_append_lies _ (by rfl) _ _ _ (by rfl) w1.heap.size 81 i0 _ 5 32 Yba.underlying65 hi0 hz0 hz2 hz3 rfl (by omega) (.slice none 0 0) 0 [] (by rfl) (World.ownsRow_nil _ _ _ _) ⟨w1.heap.size, 0, none⟩ 1 1 (timL idx) (by rfl) (by rfl) (World.news_of_block (cs := (timL idx).toArray) (t := 81) (fr := (0, 0)) (heap_at _ (by rfl))) (by simp [Value.oneCell']) (by omega) (by unfold maxLen; omega) (by omega) (by simp [go_sem]) _ rfl ?_
    intro g cap w3 hown3 hgrow hat hlt3
    have B3 : Below w1.heap.size w1 w3 := grown_none2 hgrow
    have k0 := below_keep B3 g0
    have k1' := below_keep B3 g1
    have kt := below_keep B3 gt
    have kf := (B3.frozen (p := ⟨eb, 79, none⟩) he1).trans gf
    have hs3 : sb < w3.heap.size := World.block_lt_of_cell? _ _ k0
    refine hK.out _ _ ⟨k0, k1'⟩ (fun hHeld4 => ?_)
    clear hK K hHeld3
    refine wpAnyH_take (i := 20) (v := ?v20b) rfl (by kernel_rfl) (by kernel_rfl) (by kernel_rfl) (fun _ _ _ h => h) (Or.inl ⟨by rfl, ?hy20b⟩) (by assumption) ?rest20b
    case hy20b => (intro w hSw; (try dsimp only at hSw); go_simp) <;> (try with_reducible rfl)
    simp only [Act.put, List.getElem_toArray, List.getElem_cons_zero, List.getElem_cons_succ, List.setIfInBounds_toArray, List.set_cons_zero, List.set_cons_succ]
    refine wpAnyH_take (i := 21) (v := ?v21b) rfl (by kernel_rfl) (by kernel_rfl) (by kernel_rfl) (fun _ _ _ h => h) (Or.inl ⟨by rfl, ?hy21b⟩) (by assumption) ?rest21b
    case hy21b => (intro w hSw; (try dsimp only at hSw); go_simp) <;> (try with_reducible rfl)
    simp only [Act.put, List.getElem_toArray, List.getElem_cons_zero, List.getElem_cons_succ, List.setIfInBounds_toArray, List.set_cons_zero, List.set_cons_succ]
    refine wpAnyH_take (i := 22) (v := ?v22b) rfl (by kernel_rfl) (by kernel_rfl) (by kernel_rfl) (fun _ _ _ h => h) (Or.inl ⟨by rfl, ?hy22b⟩) (by assumption) ?rest22b
    case hy22b => (intro w hSw; (try dsimp only at hSw); go_simp) <;> (try with_reducible rfl)
    simp only [Act.put, List.getElem_toArray, List.getElem_cons_zero, List.getElem_cons_succ, List.setIfInBounds_toArray, List.set_cons_zero, List.set_cons_succ]
    refine wpAnyH_ready (rs := [23]) (by kernel_rfl) (by simp) ?_
    refine AllReadyH.cons rfl (fun K hK => ?_) AllReadyH.nil
    rw [if_pos (by rfl)]
    go_simp
    refine hK.out _ _ ⟨(World.cell?_setCell_other _ _ _ _ (fun e => by injection e; omega)).trans k0, (World.cell?_setCell_other _ _ _ _ (fun e => by injection e; omega)).trans k1'⟩ (fun hHeld5 => ?_)
    clear hK K hHeld4
    refine wpAnyH_done (by kernel_rfl) ?_ _
    go_wp2_with fail
    go_end0
    refine ⟨rfl, g, cap, w3, rfl, fun j v hj => ?_, ?_, ?_⟩
    · have hl : j < 5 := (List.getElem?_eq_some_iff.1 hj).1
      rw [Nat.zero_add, hown3.cellAt j (by omega)]
      simpa using hj
    · have hz := HZ.out
      rcases hown3.2 with h | ⟨g', _, _, hv, hb, _⟩
      · omega
      · have : g = g' := by injection hv with h1; injection h1 with h2; injection h2
        omega
    · rw [← E1.out, ← HZ.out]; exact B3
end Go.Proofs.Ybulkadqm.AK
