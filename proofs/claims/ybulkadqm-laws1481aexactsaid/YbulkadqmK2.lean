import Derived.Test.YbulkadqmK1
namespace Go.Proofs.Ybulkadqm.AK
open Go.RowKit

/-- how two ballots compare, by their counters and their values' codes -/
def cmpB (c v c' v' : Int) : Int := if cmp3 c c' = 0 then cmp3 v v' else cmp3 c c'

set_option maxHeartbeats 800000 in
theorem nan_walk (x : Int) (w : World) : Calls Yba.prog 43 #[.int .u32 x] w fun e w' => e = .returned (.bool false) ∧ w' = w := by
  go_enter Yba.func43, Yba.ntmps43
  go_wp2_with fail
  go_ret
  exact ⟨by simp, rfl⟩
set_option maxHeartbeats 800000 in
theorem cmp_walk (x y : Int) (w : World) : Calls Yba.prog 38 #[.int .u32 x, .int .u32 y] w fun e w' => e = .returned (.int .i64 (cmp3 x y)) ∧ w' = w := by
  unfold cmp3
  by_cases h1 : x < y
  · rw [if_pos h1]
    go_enter Yba.func38, Yba.ntmps38
    go_wp2_with (go_at_call 43; refine (nan_walk _ _).mono ?_; rintro e w' ⟨rfl, rfl⟩)
    go_ret
    exact ⟨rfl, rfl⟩
  · rw [if_neg h1]
    have h1' : y ≤ x := by omega
    by_cases h2 : y < x
    · rw [if_pos h2]
      go_enter Yba.func38, Yba.ntmps38
      go_wp2_with (go_at_call 43; refine (nan_walk _ _).mono ?_; rintro e w' ⟨rfl, rfl⟩)
      go_ret
      exact ⟨rfl, rfl⟩
    · obtain rfl : x = y := by omega
      rw [if_neg h2]
      go_enter Yba.func38, Yba.ntmps38
      go_wp2_with (go_at_call 43; refine (nan_walk _ _).mono ?_; rintro e w' ⟨rfl, rfl⟩)
      go_ret
      exact ⟨rfl, rfl⟩

/-- a ballot boxed -/
def boxed (w : World) (c : Int) (g n : Nat) : World := w.alloc (.cells #[.int .u32 c, .slice (some ⟨g, 0, none⟩) n n] 75)
theorem boxed_below (w : World) (c : Int) (g n : Nat) : Below w.heap.size w (boxed w c g n) := (Below.refl _ w).alloc (Nat.le_refl _) _
theorem boxed2_below (w : World) (c c' : Int) (g n g' n' : Nat) : Below w.heap.size w (boxed (boxed w c g n) c' g' n') := (boxed_below w c g n).trans ((boxed_below _ _ _ _).mono (boxed_below w c g n).size)

set_option maxRecDepth 100000 in
set_option maxHeartbeats 1600000 in
theorem compare_walk (c c' : Int) (g n v g' n' v' : Nat) (w : World) (h : VAt w g n v) (h' : VAt w g' n' v') :
    Calls Yba.prog 22 #[.agg #[.int .u32 c, .slice (some ⟨g, 0, none⟩) n n], .agg #[.int .u32 c', .slice (some ⟨g', 0, none⟩) n' n']] w fun e w' => e = .returned (.int .i64 (cmpB c v c' v')) ∧ w' = boxed (boxed w c g n) c' g' n' := by
  have HB : Hid (Calls Yba.prog 26 #[.slice (some ⟨g, 0, none⟩) n n, .slice (some ⟨g', 0, none⟩) n' n'] (boxed (boxed w c g n) c' g' n') fun e w' => e = .returned (.int .i64 (cmp3 v v')) ∧ w' = boxed (boxed w c g n) c' g' n') :=
    bcompare_walk g n v g' n' v' _ (h.below (boxed2_below ..)) (h'.below (boxed2_below ..))
  clear h h'
  unfold cmpB
  by_cases hz : cmp3 c c' = 0
  · rw [if_pos hz]
    go_enter Yba.func22, Yba.ntmps22
    go_wp2_with (first | (go_at_call 38; refine (cmp_walk _ _ _).mono ?_; rintro e w' ⟨rfl, rfl⟩) | (go_at_call 26; refine HB.out.mono ?_; rintro e w' ⟨rfl, rfl⟩) | fail)
    go_ret
    exact ⟨rfl, rfl⟩
  · rw [if_neg hz]
    have hz' : (cmp3 c c' != 0) = true := by simpa using hz
    go_enter Yba.func22, Yba.ntmps22
    go_wp2_with (first | (go_at_call 38; refine (cmp_walk _ _ _).mono ?_; rintro e w' ⟨rfl, rfl⟩) | fail)
    go_ret
    exact ⟨rfl, rfl⟩

set_option maxRecDepth 100000 in
set_option maxHeartbeats 1600000 in
theorem compatible_walk (c c' : Int) (g n v g' n' v' : Nat) (w : World) (h : VAt w g n v) (h' : VAt w g' n' v') :
    Calls Yba.prog 28 #[.agg #[.int .u32 c, .slice (some ⟨g, 0, none⟩) n n], .agg #[.int .u32 c', .slice (some ⟨g', 0, none⟩) n' n']] w fun e w' => e = .returned (.bool (decide (v = v'))) ∧ w' = boxed (boxed w c g n) c' g' n' := by
  have HB : Hid (Calls Yba.prog 14 #[.slice (some ⟨g, 0, none⟩) n n, .slice (some ⟨g', 0, none⟩) n' n'] (boxed (boxed w c g n) c' g' n') fun e w' => e = .returned (.bool (decide (v = v'))) ∧ w' = boxed (boxed w c g n) c' g' n') :=
    equal_walk g n v g' n' v' _ (h.below (boxed2_below ..)) (h'.below (boxed2_below ..))
  clear h h'
  go_enter Yba.func28, Yba.ntmps28
  go_wp2_with (go_at_call 14; refine HB.out.mono ?_; rintro e w' ⟨rfl, rfl⟩)
  go_ret
  exact ⟨rfl, rfl⟩

set_option maxRecDepth 100000 in
set_option maxHeartbeats 1600000 in
theorem acmp_walk (c c' : Int) (g n v g' n' v' : Nat) (w : World) (h : VAt w g n v) (h' : VAt w g' n' v') :
    Calls Yba.prog 9 #[.agg #[.int .u32 c, .slice (some ⟨g, 0, none⟩) n n], .agg #[.int .u32 c', .slice (some ⟨g', 0, none⟩) n' n']] w fun e w' => e = .returned (.int .i64 (cmpB c v c' v')) ∧ w' = boxed (boxed w c g n) c' g' n' := by
  have HB : Hid (Calls Yba.prog 26 #[.slice (some ⟨g, 0, none⟩) n n, .slice (some ⟨g', 0, none⟩) n' n'] (boxed (boxed w c g n) c' g' n') fun e w' => e = .returned (.int .i64 (cmp3 v v')) ∧ w' = boxed (boxed w c g n) c' g' n') :=
    bcompare_walk g n v g' n' v' _ (h.below (boxed2_below ..)) (h'.below (boxed2_below ..))
  clear h h'
  have E : Hid (cmpB c v c' v' = if c < c' then -1 else if c' < c then 1 else cmp3 v v') := by
    show cmpB c v c' v' = _
    unfold cmpB
    by_cases h1 : c < c'
    · simp [cmp3, h1]
    · by_cases h2 : c' < c
      · simp [cmp3, h1, h2]
      · simp [cmp3, h1, h2]
  rw [E.out]
  by_cases h1 : c < c'
  · rw [if_pos h1]
    go_enter Yba.func9, Yba.ntmps9
    go_wp2_with fail
    go_ret
    exact ⟨rfl, rfl⟩
  · rw [if_neg h1]
    have h1' : c' ≤ c := by omega
    by_cases h2 : c' < c
    · rw [if_pos h2]
      go_enter Yba.func9, Yba.ntmps9
      go_wp2_with fail
      go_ret
      exact ⟨rfl, rfl⟩
    · rw [if_neg h2]
      have h2' : c ≤ c' := by omega
      go_enter Yba.func9, Yba.ntmps9
      go_wp2_with (go_at_call 26; refine HB.out.mono ?_; rintro e w' ⟨rfl, rfl⟩)
      go_ret
      exact ⟨rfl, rfl⟩
end Go.Proofs.Ybulkadqm.AK
