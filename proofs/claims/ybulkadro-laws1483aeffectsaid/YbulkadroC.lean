import Derived.Test.YbulkadroB
namespace Go.Proofs.Ybulkadro.WA
open Go.RowKit

set_option maxRecDepth 100000 in
set_option maxHeartbeats 6400000 in
theorem law_same (x0 x1 x2 x3 rd wt : Int) (i m : Int) (on : Bool) (n : Nat) (w : World)
  (hi0 : 0 ≤ i) (hi1 : i < 18446744073709551616) (hm : IntKind.u64.wrap (2 ^ (i % 64).toNat) = m) (hn : i / 64 % 4 = (n : Int)) (hn' : i % 256 / 64 = (n : Int)) (hbit : i % 256 % 64 = i % 64) (hon : (bits .and .u64 (X x0 x1 x2 x3 n) m != 0) = on) (hold : (bits .and .u64 (X x0 x1 x2 x3 n / 2 ^ (i % 64).toNat) 1 == 1) = on) :
    Calls Yba.prog 3 #[.agg #[.int .u64 x0, .int .u64 x1, .int .u64 x2, .int .u64 x3], .int .u64 rd, .int .u64 wt, .int .u64 i, .bool on] w fun e w' => e = .returned (.bool true) ∧ Below w.heap.size w w' := by
  have HS : Hid (Calls Yba.prog 7 #[.pointer (some ⟨w.heap.size + 1 + 1, 0, none⟩), .pointer (some ⟨w.heap.size + 1, 0, none⟩), .int .u64 i, .bool on] (base3 x0 x1 x2 x3 rd wt w) (Same (base3 x0 x1 x2 x3 rd wt w))) :=
    set_same x0 x1 x2 x3 i m on n _ _ _ (base3_aft ..).b0 (base3_aft ..).b1 (base3_aft ..).b2 (base3_aft ..).b3 hi0 hi1 hm hn hon
  have HA : Hid (Aft x0 x1 x2 x3 x0 x1 x2 x3 rd wt w (base3 x0 x1 x2 x3 rd wt w)) := base3_aft ..
  have hn4 : n < 4 := by omega
  match n, hn4 with
  | 0, _ | 1, _ | 2, _ | 3, _ =>
    simp only [X] at hon hold
    go_enter Yba.func3, Yba.ntmps3
    go_wp2_with (go_at_call 7; refine HS.out.mono ?_; rintro e w3 h; obtain ⟨rfl, hw⟩ := h; rw [← hw] at HA; obtain ⟨a0, a1, a2, a3, b0, b1, b2, b3, c0, c1, hs0, hs1, hs2, hbel⟩ := HA.out; clear HS HA hw)
    refine wp_loop_rounds 5 ?_
    rw [rounds_succ]
    go_wp2_with fail
    go_quiet (fail)
    go_wp2_with fail
    rw [rounds_succ]
    go_wp2_with fail
    go_quiet (fail)
    go_wp2_with fail
    rw [rounds_succ]
    go_wp2_with fail
    go_quiet (fail)
    go_wp2_with fail
    rw [rounds_succ]
    go_wp2_with fail
    go_quiet (fail)
    go_wp2_with fail
    rw [rounds_succ]
    go_wp2_with fail
    go_ret
    exact ⟨rfl, by simpa using below_drewN hbel _⟩
end Go.Proofs.Ybulkadro.WA
