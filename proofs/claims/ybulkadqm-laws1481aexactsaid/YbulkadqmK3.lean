import Derived.Test.YbulkadqmK2
import Derived.Deep.RegionHeld3
import Derived.Deep.DrawnRows
namespace Go.Proofs.Ybulkadqm.AK
open Go.RowKit
set_option linter.unusedSimpArgs false

/-- a ballot in memory: at block b the counter c and the slice over block g -/
structure BAt (w : World) (b : Nat) (c : Int) (g n v : Nat) : Prop where
  c0 : w.cell? ⟨b, 0, none⟩ = some (.int .u32 c)
  c1 : w.cell? ⟨b, 1, none⟩ = some (.slice (some ⟨g, 0, none⟩) n n)
  val : VAt w g n v
theorem BAt.below {w w' : World} {b : Nat} {c : Int} {g n v : Nat} (h : BAt w b c g n v) (hb : Below w.heap.size w w') : BAt w' b c g n v :=
  ⟨below_keep hb h.c0, below_keep hb h.c1, h.val.below hb⟩
theorem boxed_at (w : World) (c : Int) (g n : Nat) : (boxed w c g n).cell? ⟨w.heap.size, 0, none⟩ = some (.int .u32 c) ∧ (boxed w c g n).cell? ⟨w.heap.size, 1, none⟩ = some (.slice (some ⟨g, 0, none⟩) n n) :=
  ⟨(World.cell?_alloc_at _ _ _ _ rfl).trans rfl, (World.cell?_alloc_at _ _ _ _ rfl).trans rfl⟩

set_option maxRecDepth 100000 in
set_option maxHeartbeats 1600000 in
theorem covers_nil (c : Int) (g n : Nat) (w : World) :
    Calls Yba.prog 23 #[.pointer none, .agg #[.int .u32 c, .slice (some ⟨g, 0, none⟩) n n]] w fun e w' => e = .returned (.bool false) ∧ Below w.heap.size w w' := by
  go_enter Yba.func23, Yba.ntmps23
  go_wp2_with fail
  go_quiet (fail)
  go_wp2_with fail
  go_ret
  exact ⟨rfl, below_drewN ((Below.refl _ w).alloc (Nat.le_refl _) _) _⟩

set_option maxRecDepth 100000 in
set_option maxHeartbeats 3200000 in
theorem covers_some (qb : Nat) (cq : Int) (gq nq vq : Nat) (c : Int) (g n v : Nat) (w : World) (hq : BAt w qb cq gq nq vq) (hv : VAt w g n v) :
    Calls Yba.prog 23 #[.pointer (some ⟨qb, 0, none⟩), .agg #[.int .u32 c, .slice (some ⟨g, 0, none⟩) n n]] w fun e w' => e = .returned (.bool (decide (vq = v) && decide (c ≤ cq))) ∧ Below w.heap.size w w' := by
  have hb := boxed_below w c g n
  have q0 := below_keep hb hq.c0
  have q1 := below_keep hb hq.c1
  have x0 := (boxed_at w c g n).1
  have x1 := (boxed_at w c g n).2
  have HC : Hid (∀ q, Calls Yba.prog 28 #[.agg #[.int .u32 cq, .slice (some ⟨gq, 0, none⟩) nq nq], .agg #[.int .u32 c, .slice (some ⟨g, 0, none⟩) n n]] ((boxed w c g n).drewN q) fun e w' => e = .returned (.bool (decide (vq = v))) ∧ Below (boxed w c g n).heap.size (boxed w c g n) w') := by
    intro q
    have hd := below_drewN (Below.refl (boxed w c g n).heap.size (boxed w c g n)) q
    refine (compatible_walk cq c gq nq vq g n v _ ((hq.val.below hb).below hd) ((hv.below hb).below hd)).mono ?_
    rintro e w' ⟨he, rfl⟩
    exact ⟨he, hd.trans ((boxed2_below ..).mono hd.size)⟩
  have HB : Hid (Below w.heap.size w (boxed w c g n)) := hb
  have EB : Hid (boxed w c g n = w.alloc (.cells #[.int .u32 c, .slice (some ⟨g, 0, none⟩) n n] 75)) := rfl
  clear hq hv hb
  generalize decide (vq = v) = b at *
  cases b with
  | true =>
    simp only [Bool.true_and]
    go_enter Yba.func23, Yba.ntmps23
    go_wp2_with fail
    rw [← EB.out]
    generalize boxed w c g n = w1 at *
    clear EB
    first
    | go_region_held3 (fun w' => w'.cell? ⟨qb, 0, none⟩ = some (.int .u32 cq) ∧ w'.cell? ⟨qb, 1, none⟩ = some (.slice (some ⟨gq, 0, none⟩) nq nq) ∧ w'.cell? ⟨w.heap.size, 0, none⟩ = some (.int .u32 c) ∧ w'.cell? ⟨w.heap.size, 1, none⟩ = some (.slice (some ⟨g, 0, none⟩) n n)) (go_keep)
      (first
        | (go_at_call 28; refine (HC.out _).mono ?_; rintro e w' ⟨rfl, hbl⟩; have k0 := below_keep hbl q0; have k1 := below_keep hbl q1; have k2 := below_keep hbl x0; have k3 := below_keep hbl x1)
        | fail)
    | fail
    all_goals
      go_wp2_with fail
      go_ret
      first
      | exact ⟨rfl, HB.out.trans (hbl.mono HB.out.size)⟩
      | exact ⟨rfl, HB.out.trans ((below_drewN hbl _).mono HB.out.size)⟩
  | false =>
    simp only [Bool.false_and]
    go_enter Yba.func23, Yba.ntmps23
    go_wp2_with fail
    rw [← EB.out]
    generalize boxed w c g n = w1 at *
    clear EB
    refine wp_region_held_drew (S := fun w' => w'.cell? ⟨qb, 0, none⟩ = some (.int .u32 cq) ∧ w'.cell? ⟨qb, 1, none⟩ = some (.slice (some ⟨gq, 0, none⟩) nq nq) ∧ w'.cell? ⟨w.heap.size, 0, none⟩ = some (.int .u32 c) ∧ w'.cell? ⟨w.heap.size, 1, none⟩ = some (.slice (some ⟨g, 0, none⟩) n n)) (by kernel_rfl) ⟨q0, q1, x0, x1⟩ (fun hHeld => ?_)
    refine wpAnyH_take (i := 0) (v := ?v0) rfl (by kernel_rfl) (by kernel_rfl) (by kernel_rfl) (fun _ _ _ h => h) (Or.inl ⟨by rfl, ?hy0⟩) (by assumption) ?rest0
    case hy0 => (intro w hSw; (try dsimp only at hSw); go_simp) <;> (try with_reducible rfl)
    simp only [Act.put, List.getElem_toArray, List.getElem_cons_zero, List.getElem_cons_succ, List.setIfInBounds_toArray, List.set_cons_zero, List.set_cons_succ]
    refine wpAnyH_take (i := 1) (v := ?v1) rfl (by kernel_rfl) (by kernel_rfl) (by kernel_rfl) (fun _ _ _ h => h) (Or.inl ⟨by rfl, ?hy1⟩) (by assumption) ?rest1
    case hy1 => (intro w hSw; (try dsimp only at hSw); go_simp) <;> (try with_reducible rfl)
    simp only [Act.put, List.getElem_toArray, List.getElem_cons_zero, List.getElem_cons_succ, List.setIfInBounds_toArray, List.set_cons_zero, List.set_cons_succ]
    refine wpAnyH_take (i := 2) (v := ?v2) rfl (by kernel_rfl) (by kernel_rfl) (by kernel_rfl) (fun _ _ _ h => h) (Or.inl ⟨by rfl, ?hy2⟩) (by assumption) ?rest2
    case hy2 => (intro w hSw; (try dsimp only at hSw); go_simp) <;> (try with_reducible rfl)
    simp only [Act.put, List.getElem_toArray, List.getElem_cons_zero, List.getElem_cons_succ, List.setIfInBounds_toArray, List.set_cons_zero, List.set_cons_succ]
    refine wpAnyH_take (i := 3) (v := ?v3) rfl (by kernel_rfl) (by kernel_rfl) (by kernel_rfl) (fun _ _ _ h => h) (Or.inl ⟨by rfl, ?hy3⟩) (by assumption) ?rest3
    case hy3 => (intro w hSw; (try dsimp only at hSw); go_simp) <;> (try with_reducible rfl)
    simp only [Act.put, List.getElem_toArray, List.getElem_cons_zero, List.getElem_cons_succ, List.setIfInBounds_toArray, List.set_cons_zero, List.set_cons_succ]
    refine wpAnyH_take (i := 4) (v := ?v4) rfl (by kernel_rfl) (by kernel_rfl) (by kernel_rfl) (fun _ _ _ h => h) (Or.inl ⟨by rfl, ?hy4⟩) (by assumption) ?rest4
    case hy4 => (intro w hSw; (try dsimp only at hSw); go_simp) <;> (try with_reducible rfl)
    simp only [Act.put, List.getElem_toArray, List.getElem_cons_zero, List.getElem_cons_succ, List.setIfInBounds_toArray, List.set_cons_zero, List.set_cons_succ]
    refine wpAnyH_take (i := 5) (v := ?v5) rfl (by kernel_rfl) (by kernel_rfl) (by kernel_rfl) (fun _ _ _ h => h) (Or.inl ⟨by rfl, ?hy5⟩) (by assumption) ?rest5
    case hy5 => (intro w hSw; (try dsimp only at hSw); go_simp) <;> (try with_reducible rfl)
    simp only [Act.put, List.getElem_toArray, List.getElem_cons_zero, List.getElem_cons_succ, List.setIfInBounds_toArray, List.set_cons_zero, List.set_cons_succ]
    refine wpAnyH_take (i := 6) (v := ?v6) rfl (by kernel_rfl) (by kernel_rfl) (by kernel_rfl) (fun _ _ _ h => h) (Or.inl ⟨by rfl, ?hy6⟩) (by assumption) ?rest6
    case hy6 => (intro w hSw; (try dsimp only at hSw); go_simp) <;> (try with_reducible rfl)
    simp only [Act.put, List.getElem_toArray, List.getElem_cons_zero, List.getElem_cons_succ, List.setIfInBounds_toArray, List.set_cons_zero, List.set_cons_succ]
    refine wpAnyH_ready (rs := [7]) (by kernel_rfl) (by simp) ?_
    refine AllReadyH.cons rfl (fun K hK => ?_) AllReadyH.nil
    rw [if_pos (by rfl)]
    go_simp
    refine (HC.out 1).mono ?_
    rintro e w' ⟨rfl, hbl⟩
    refine hK.out _ _ ⟨below_keep hbl q0, below_keep hbl q1, below_keep hbl x0, below_keep hbl x1⟩ (fun hHeld2 => ?_)
    clear hK K hHeld
    refine wpAnyH_take (i := 8) (v := ?v8) rfl (by kernel_rfl) (by kernel_rfl) (by kernel_rfl) (fun _ _ _ h => h) (Or.inl ⟨by rfl, ?hy8⟩) (by assumption) ?rest8
    case hy8 => (intro w hSw; (try dsimp only at hSw); go_simp) <;> (try with_reducible rfl)
    simp only [Act.put, List.getElem_toArray, List.getElem_cons_zero, List.getElem_cons_succ, List.setIfInBounds_toArray, List.set_cons_zero, List.set_cons_succ]
    refine wpAnyH_take (i := 9) (v := ?v9) rfl (by kernel_rfl) (by kernel_rfl) (by kernel_rfl) (fun _ _ _ h => h) (Or.inl ⟨by rfl, ?hy9⟩) (by assumption) ?rest9
    case hy9 => (intro w hSw; (try dsimp only at hSw); go_simp) <;> (try with_reducible rfl)
    simp only [Act.put, List.getElem_toArray, List.getElem_cons_zero, List.getElem_cons_succ, List.setIfInBounds_toArray, List.set_cons_zero, List.set_cons_succ]
    refine wpAnyH_take (i := 10) (v := undef) rfl (by kernel_rfl) (by kernel_rfl) (by kernel_rfl) (fun _ _ _ h => h) (Or.inr ⟨by rfl, rfl⟩) (by assumption) ?_
    simp only [Act.put, List.getElem_toArray, List.getElem_cons_zero, List.getElem_cons_succ, List.setIfInBounds_toArray, List.set_cons_zero, List.set_cons_succ]
    refine wpAnyH_take (i := 11) (v := undef) rfl (by kernel_rfl) (by kernel_rfl) (by kernel_rfl) (fun _ _ _ h => h) (Or.inr ⟨by rfl, rfl⟩) (by assumption) ?_
    simp only [Act.put, List.getElem_toArray, List.getElem_cons_zero, List.getElem_cons_succ, List.setIfInBounds_toArray, List.set_cons_zero, List.set_cons_succ]
    refine wpAnyH_take (i := 12) (v := undef) rfl (by kernel_rfl) (by kernel_rfl) (by kernel_rfl) (fun _ _ _ h => h) (Or.inr ⟨by rfl, rfl⟩) (by assumption) ?_
    simp only [Act.put, List.getElem_toArray, List.getElem_cons_zero, List.getElem_cons_succ, List.setIfInBounds_toArray, List.set_cons_zero, List.set_cons_succ]
    refine wpAnyH_take (i := 13) (v := undef) rfl (by kernel_rfl) (by kernel_rfl) (by kernel_rfl) (fun _ _ _ h => h) (Or.inr ⟨by rfl, rfl⟩) (by assumption) ?_
    simp only [Act.put, List.getElem_toArray, List.getElem_cons_zero, List.getElem_cons_succ, List.setIfInBounds_toArray, List.set_cons_zero, List.set_cons_succ]
    refine wpAnyH_take (i := 14) (v := undef) rfl (by kernel_rfl) (by kernel_rfl) (by kernel_rfl) (fun _ _ _ h => h) (Or.inr ⟨by rfl, rfl⟩) (by assumption) ?_
    simp only [Act.put, List.getElem_toArray, List.getElem_cons_zero, List.getElem_cons_succ, List.setIfInBounds_toArray, List.set_cons_zero, List.set_cons_succ]
    refine wpAnyH_take (i := 15) (v := undef) rfl (by kernel_rfl) (by kernel_rfl) (by kernel_rfl) (fun _ _ _ h => h) (Or.inr ⟨by rfl, rfl⟩) (by assumption) ?_
    simp only [Act.put, List.getElem_toArray, List.getElem_cons_zero, List.getElem_cons_succ, List.setIfInBounds_toArray, List.set_cons_zero, List.set_cons_succ]
    refine wpAnyH_take (i := 16) (v := undef) rfl (by kernel_rfl) (by kernel_rfl) (by kernel_rfl) (fun _ _ _ h => h) (Or.inr ⟨by rfl, rfl⟩) (by assumption) ?_
    simp only [Act.put, List.getElem_toArray, List.getElem_cons_zero, List.getElem_cons_succ, List.setIfInBounds_toArray, List.set_cons_zero, List.set_cons_succ]
    refine wpAnyH_take (i := 17) (v := ?v17) rfl (by kernel_rfl) (by kernel_rfl) (by kernel_rfl) (fun _ _ _ h => h) (Or.inl ⟨by rfl, ?hy17⟩) (by assumption) ?rest17
    case hy17 => (intro w hSw; (try dsimp only at hSw); go_simp) <;> (try with_reducible rfl)
    simp only [Act.put, List.getElem_toArray, List.getElem_cons_zero, List.getElem_cons_succ, List.setIfInBounds_toArray, List.set_cons_zero, List.set_cons_succ]
    refine wpAnyH_take (i := 18) (v := ?v18) rfl (by kernel_rfl) (by kernel_rfl) (by kernel_rfl) (fun _ _ _ h => h) (Or.inl ⟨by rfl, ?hy18⟩) (by assumption) ?rest18
    case hy18 => (intro w hSw; (try dsimp only at hSw); go_simp) <;> (try with_reducible rfl)
    simp only [Act.put, List.getElem_toArray, List.getElem_cons_zero, List.getElem_cons_succ, List.setIfInBounds_toArray, List.set_cons_zero, List.set_cons_succ]
    refine wpAnyH_done (by kernel_rfl) ?_ _
    go_wp2_with fail
    go_ret
    exact ⟨rfl, HB.out.trans (hbl.mono HB.out.size)⟩
end Go.Proofs.Ybulkadqm.AK
