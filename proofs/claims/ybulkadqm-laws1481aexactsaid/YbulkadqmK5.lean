import Derived.Test.YbulkadqmK4
import Derived.Deep.RegionWith
namespace Go.Proofs.Ybulkadqm.AK
open Go.RowKit

set_option maxRecDepth 100000 in
set_option maxHeartbeats 1600000 in
theorem count_walk (f1 f2 : Value) (w : World) :
    Calls Yba.prog 56 #[.agg #[.int .u32 0, .slice none 0 0, .slice none 0 0], f1, f2] w fun e w' => e = .returned (.int .i64 0) ∧ Below w.heap.size w w' := by
  go_enter Yba.func56, Yba.ntmps56
  go_wp2_with fail
  refine wp_loop_rounds 1 ?_
  rw [rounds_succ]
  go_wp2_with fail
  refine wp_loop_rounds 1 ?_
  rw [rounds_succ]
  go_wp2_with fail
  go_ret
  exact ⟨rfl, (Below.refl _ _).alloc (Nat.le_refl _) _⟩

set_option maxRecDepth 100000 in
set_option maxHeartbeats 3200000 in
theorem sat_walk (cs : Array Value) (w : World) :
    Calls Yba.prog 45 #[.agg #[.int .u32 0, .slice none 0 0, .slice none 0 0], .func (.func 44) #[] cs] w fun e w' => e = .returned (.bool true) ∧ Below w.heap.size w w' := by
  obtain ⟨w1, EW⟩ : ∃ w1, Hid (w1 = (w.alloc (.cells #[.int .u32 0, .slice none 0 0, .slice none 0 0] 57)).alloc (.cells #[.func (.func 44) #[] cs] 135)) := ⟨_, rfl⟩
  have HB : Hid (Below w.heap.size w w1) := by rw [EW.out]; exact ((Below.refl _ w).alloc (Nat.le_refl _) _).alloc (by simp [go_sem]) _
  have c0 : w1.cell? ⟨w.heap.size, 0, none⟩ = some (.int .u32 0) := by rw [EW.out]; simp [go_sem]
  have c1 : w1.cell? ⟨w.heap.size, 1, none⟩ = some (.slice none 0 0) := by rw [EW.out]; simp [go_sem]
  have c2 : w1.cell? ⟨w.heap.size, 2, none⟩ = some (.slice none 0 0) := by rw [EW.out]; simp [go_sem]
  have d0 : w1.cell? ⟨w.heap.size + 1, 0, none⟩ = some (.func (.func 44) #[] cs) := by rw [EW.out]; simp [go_sem]
  have HC : Hid (∀ f1 f2 q, Calls Yba.prog 56 #[.agg #[.int .u32 0, .slice none 0 0, .slice none 0 0], f1, f2] (w1.drewN q) fun e w' => e = .returned (.int .i64 0) ∧ Below w1.heap.size w1 w') :=
    fun f1 f2 q => (count_walk f1 f2 (w1.drewN q)).mono fun e w' h => ⟨h.1, (below_drewN (Below.refl _ _) q).trans h.2⟩
  go_enter Yba.func45, Yba.ntmps45
  go_wp2_with fail
  rw [← EW.out]
  clear EW
  first
  | go_region_held3 (fun w' => w'.cell? ⟨w.heap.size, 0, none⟩ = some (.int .u32 0) ∧ w'.cell? ⟨w.heap.size, 1, none⟩ = some (.slice none 0 0) ∧ w'.cell? ⟨w.heap.size, 2, none⟩ = some (.slice none 0 0) ∧ w'.cell? ⟨w.heap.size + 1, 0, none⟩ = some (.func (.func 44) #[] cs)) (go_keep)
      (first
        | (go_at_call 56; refine (HC.out _ _ _).mono ?_; rintro e w' ⟨rfl, hbl⟩; have k0 := below_keep hbl c0; have k1 := below_keep hbl c1; have k2 := below_keep hbl c2; have k3 := below_keep hbl d0)
        | fail)
  | fail
  all_goals
    go_wp2_with fail
    go_ret
    exact ⟨ret_bool (by decide), HB.out.trans (hbl.mono HB.out.size)⟩
end Go.Proofs.Ybulkadqm.AK
