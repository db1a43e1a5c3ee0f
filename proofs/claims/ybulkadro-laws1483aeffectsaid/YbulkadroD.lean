import Derived.Test.YbulkadroC
namespace Go.Proofs.Ybulkadro.WA
open Go.RowKit

/-- what the law expects: the limb n holds y -/
def want (x0 x1 x2 x3 y : Int) (n : Nat) : Bool := zero4 (if n = 0 then y else x0) (if n = 1 then y else x1) (if n = 2 then y else x2) (if n = 3 then y else x3)

theorem bel_one {B : Nat} {w w3 : World} (h : Below B w w3) (hs : B < w3.heap.size) (o o' : Obj) (q : Nat) : Below B w (((w3.alloc o).drewN q).alloc o') :=
  (below_drewN (h.alloc (Nat.le_of_lt hs) o) q).alloc (by simp [go_sem]; omega) o'
theorem bel_two {B : Nat} {w w3 : World} (h : Below B w w3) (hs : B < w3.heap.size) (o o' o'' : Obj) (q : Nat) : Below B w ((((w3.alloc o).drewN q).alloc o').alloc o'') :=
  (bel_one h hs o o' q).alloc (by simp [go_sem]; omega) o''

set_option maxRecDepth 100000 in
set_option maxHeartbeats 12800000 in
theorem law_on (x0 x1 x2 x3 rd wt : Int) (i m y : Int) (n : Nat) (bz : Bool) (w : World)
  (hi0 : 0 ≤ i) (hi1 : i < 18446744073709551616) (hm : IntKind.u64.wrap (2 ^ (i % 64).toNat) = m) (hn : i / 64 % 4 = (n : Int)) (hn' : i % 256 / 64 = (n : Int)) (hbit : i % 256 % 64 = i % 64) (hon : (bits .and .u64 (X x0 x1 x2 x3 n) m != 0) = false) (hold : (bits .and .u64 (X x0 x1 x2 x3 n / 2 ^ (i % 64).toNat) 1 == 1) = false)
  (hxor : bits .xor .u64 (X x0 x1 x2 x3 n) m = y) (hor : bits .or .u64 (X x0 x1 x2 x3 n) m = y) (hz : zero4 x0 x1 x2 x3 = bz) (ht : turned x0 x1 x2 x3 n m = (bz || want x0 x1 x2 x3 y n)) :
    Calls Yba.prog 3 #[.agg #[.int .u64 x0, .int .u64 x1, .int .u64 x2, .int .u64 x3], .int .u64 rd, .int .u64 wt, .int .u64 i, .bool true] w fun e w' => e = .returned (.bool true) ∧ Below w.heap.size w w' := by
  have HS : Hid (Calls Yba.prog 7 #[.pointer (some ⟨w.heap.size + 1 + 1, 0, none⟩), .pointer (some ⟨w.heap.size + 1, 0, none⟩), .int .u64 i, .bool true] (base3 x0 x1 x2 x3 rd wt w) (fun e w3 => e = .returned (.bool (bz || want x0 x1 x2 x3 y n)) ∧ Aft x0 x1 x2 x3 (if n = 0 then y else x0) (if n = 1 then y else x1) (if n = 2 then y else x2) (if n = 3 then y else x3) rd (IntKind.u64.wrap (wt + 1)) w w3)) := by
    refine (set_turned x0 x1 x2 x3 wt i m true n _ _ _ (by omega) (base3_aft ..).b0 (base3_aft ..).b1 (base3_aft ..).b2 (base3_aft ..).b3 (base3_aft x0 x1 x2 x3 rd wt w).c1 ?_ ?_ hi0 hi1 hm hn hon).mono ?_
    · intro k; simp [base3, go_sem]
    · intro k; simp [base3, go_sem]
    · rintro e w3 ⟨he, q, hw⟩
      refine ⟨he.trans (by rw [ht]), ?_⟩
      rw [hxor] at hw
      rw [hw]
      exact aft_turned x0 x1 x2 x3 y rd wt _ w n q (by omega)
  have hn4 : n < 4 := by omega
  clear hxor ht hon
  cases bz with
  | true =>
    simp only [Bool.true_or] at HS
    match n, hn4 with
    | 0, _ | 1, _ | 2, _ | 3, _ =>
      simp (decide := true) only [X, ↓reduceIte] at hor hold HS
      go_enter Yba.func3, Yba.ntmps3
      go_wp2_with (go_at_call 7; refine HS.out.mono ?_; rintro e w3 h; obtain ⟨rfl, a0, a1, a2, a3, b0, b1, b2, b3, c0, c1, hs0, hs1, hs2, hbel⟩ := h; clear HS)
      refine wp_loop_rounds 5 ?_
      rw [rounds_succ]
      go_wp2_with fail
      rw [rounds_succ]
      go_wp2_with fail
      rw [rounds_succ]
      go_wp2_with fail
      rw [rounds_succ]
      go_wp2_with fail
      rw [rounds_succ]
      go_wp2_with fail
      refine wp_loop_rounds 5 ?_
      rw [rounds_succ]
      go_wp2_with fail
      go_quiet (fail)
      go_wp2_with fail
      rw [rounds_succ]
      go_wp2_with fail
      go_quiet (fail)
      go_wp2_with fail
      rw [rounds_succ]
      go_wp2_with fail
      go_quiet (fail)
      go_wp2_with fail
      rw [rounds_succ]
      go_wp2_with fail
      go_quiet (fail)
      go_wp2_with fail
      rw [rounds_succ]
      go_wp2_with (go_at_call 8; refine (zero_walk _ _ _ _ _).mono ?_; rintro e w4 ⟨rfl, rfl⟩)
      go_ret
      exact ⟨rfl, bel_one hbel hs0 _ _ _⟩
  | false =>
    simp only [Bool.false_or] at HS
    match n, hn4 with
    | 0, _ | 1, _ | 2, _ | 3, _ =>
      simp (decide := true) only [X, want, ↓reduceIte] at hor hold HS
      go_enter Yba.func3, Yba.ntmps3
      go_wp2_with (go_at_call 7; refine HS.out.mono ?_; rintro e w3 h; obtain ⟨rfl, a0, a1, a2, a3, b0, b1, b2, b3, c0, c1, hs0, hs1, hs2, hbel⟩ := h; clear HS)
      refine wp_loop_rounds 5 ?_
      rw [rounds_succ]
      go_wp2_with fail
      rw [rounds_succ]
      go_wp2_with fail
      rw [rounds_succ]
      go_wp2_with fail
      rw [rounds_succ]
      go_wp2_with fail
      rw [rounds_succ]
      go_wp2_with fail
      refine wp_loop_rounds 5 ?_
      rw [rounds_succ]
      go_wp2_with fail
      go_quiet (fail)
      go_wp2_with fail
      rw [rounds_succ]
      go_wp2_with fail
      go_quiet (fail)
      go_wp2_with fail
      rw [rounds_succ]
      go_wp2_with fail
      go_quiet (fail)
      go_wp2_with fail
      rw [rounds_succ]
      go_wp2_with fail
      go_quiet (fail)
      go_wp2_with fail
      rw [rounds_succ]
      go_wp2_with (go_at_call 8; refine (zero_walk _ _ _ _ _).mono ?_; rintro e w4 ⟨rfl, rfl⟩)
      go_ret
      exact ⟨rfl, bel_two hbel hs0 _ _ _ _⟩
end Go.Proofs.Ybulkadro.WA
