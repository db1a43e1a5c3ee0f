import Derived.Test.YbulkadqmK7
namespace Go.Proofs.Ybulkadqm.AK
open Go.RowKit

/-- does a PREPARE accept (c, v) prepared -/
def accP (hp : Bool) (pc : Int) (pv : Nat) (ac hc : Int) (sv : Nat) (c : Int) (v : Nat) : Bool := cov hp pc pv c v || decide (c < ac) || (decide (0 < hc) && cov true hc sv c v)

set_option maxRecDepth 100000 in
set_option maxHeartbeats 6400000 in
theorem pre_walk (sc ac hc cc : Int) (sg sn sv : Nat) (pp : Option Addr) (lo : Nat) (hp : Bool) (pc : Int) (pv : Nat) (xb : Nat) (c : Int) (g n v : Nat) (w : World) (hx : BAt w xb c g n v) (hs : VAt w sg sn sv) (hpp : PAt w lo hp pc pv pp) :
    Calls Yba.prog 27 #[stv (.iface 109 (.agg #[.int .u32 sc, .slice (some ⟨sg, 0, none⟩) sn sn, .pointer pp, .int .u32 ac, .int .u32 hc, .int .u32 cc])), .pointer (some ⟨xb, 0, none⟩)] w fun e w' => e = .returned (.bool (accP hp pc pv ac hc sv c v)) ∧ Below w.heap.size w w' := by
  unfold stv
  obtain ⟨x0, x1, xv⟩ := hx
  have hxl : xb < w.heap.size := World.block_lt_of_cell? w _ x0
  have HK : Hid (∀ (w' : World) (m : Int) (b : Nat), b = w'.heap.size → Below w.heap.size w w' → Calls Yba.prog 23 #[.pointer (some ⟨b, 0, none⟩), .agg #[.int .u32 c, .slice (some ⟨g, 0, none⟩) n n]] (w'.alloc (.cells #[.int .u32 m, .slice (some ⟨sg, 0, none⟩) sn sn] 75)) fun e w'' => e = .returned (.bool (cov true m sv c v)) ∧ Below w.heap.size w w'') := cov_boxed xv hs
  have HP : Hid (∀ w' : World, Below w.heap.size w w' → Calls Yba.prog 23 #[.pointer pp, .agg #[.int .u32 c, .slice (some ⟨g, 0, none⟩) n n]] w' fun e w'' => e = .returned (.bool (cov hp pc pv c v)) ∧ Below w'.heap.size w' w'') :=
    fun w' hb => cov_any pp lo hp pc pv c g n v w' (hpp.below hb) (xv.below hb)
  clear xv hs hpp
  obtain ⟨w2, EW⟩ : ∃ w2, Hid (w2 = ((w.alloc (.cells #[.int .u8 1, .int .u8 0, .int .u8 0, .int .u8 0, .int .u8 0, .int .u8 0, .int .u8 0, .int .u8 0, .int .u8 0, .int .u8 0, .int .u8 0, .int .u8 0, .int .u8 0, .int .u8 0, .int .u8 0, .int .u8 0, .int .u8 0, .int .u8 0, .int .u8 0, .int .u8 0, .int .u8 0, .int .u8 0, .int .u8 0, .int .u8 0, .int .u8 0, .int .u8 0, .int .u8 0, .int .u8 0, .int .u8 0, .int .u8 0, .int .u8 0, .int .u8 0, .int .u64 0, .int .u8 0, .int .u8 0, .int .u8 0, .int .u8 0, .int .u8 0, .int .u8 0, .int .u8 0, .int .u8 0, .int .u8 0, .int .u8 0, .int .u8 0, .int .u8 0, .int .u8 0, .int .u8 0, .int .u8 0, .int .u8 0, .int .u8 0, .int .u8 0, .int .u8 0, .int .u8 0, .int .u8 0, .int .u8 0, .int .u8 0, .int .u8 0, .int .u8 0, .int .u8 0, .int .u8 0, .int .u8 0, .int .u8 0, .int .u8 0, .int .u8 0, .int .u8 0, (.iface 109 (.agg #[.int .u32 sc, .slice (some ⟨sg, 0, none⟩) sn sn, .pointer pp, .int .u32 ac, .int .u32 hc, .int .u32 cc]))] 52)).alloc (.cells #[.int .u32 sc, .slice (some ⟨sg, 0, none⟩) sn sn, .pointer pp, .int .u32 ac, .int .u32 hc, .int .u32 cc] 109))) := ⟨_, rfl⟩
  have HW : Hid (Below w.heap.size w w2) := by rw [EW.out]; exact below2 _ _ _
  have y0 := below_keep HW.out x0
  have y1 := below_keep HW.out x1
  have p1 : w2.cell? ⟨w.heap.size + 1, 1, none⟩ = some (.slice (some ⟨sg, 0, none⟩) sn sn) := by rw [EW.out]; simp [go_sem]
  have p2 : w2.cell? ⟨w.heap.size + 1, 2, none⟩ = some (.pointer pp) := by rw [EW.out]; simp [go_sem]
  have p3 : w2.cell? ⟨w.heap.size + 1, 3, none⟩ = some (.int .u32 ac) := by rw [EW.out]; simp [go_sem]
  have p4 : w2.cell? ⟨w.heap.size + 1, 4, none⟩ = some (.int .u32 hc) := by rw [EW.out]; simp [go_sem]
  have e4 := ta109
  unfold accP
  generalize cov hp pc pv c v = b1 at *
  cases b1 with
  | true =>
    simp only [Bool.true_or]
    go_enter Yba.func27, Yba.ntmps27
    go_wp2_with (first | (go_at_call 23; refine (HP.out _ (below2 _ _ _)).mono ?_; rintro e w1 ⟨rfl, hb1⟩; rw [← EW.out] at hb1; have k0 := below_keep hb1 y0; have k1 := below_keep hb1 y1; have hx1 : xb < w1.heap.size := World.block_lt_of_cell? w1 _ k0; have r2 := below_keep hb1 p2; have r3 := below_keep hb1 p3; have r4 := below_keep hb1 p4; have r1 := below_keep hb1 p1; have HW1 : Hid (Below w.heap.size w w1) := HW.out.trans (hb1.mono HW.out.size); clear hb1 HP) | fail)
    go_ret
    exact ⟨rfl, HW1.out⟩
  | false =>
    simp only [Bool.false_or]
    by_cases h1 : c < ac
    · rw [decide_eq_true h1]
      simp only [Bool.true_or]
      go_enter Yba.func27, Yba.ntmps27
      go_wp2_with (first | (go_at_call 23; refine (HP.out _ (below2 _ _ _)).mono ?_; rintro e w1 ⟨rfl, hb1⟩; rw [← EW.out] at hb1; have k0 := below_keep hb1 y0; have k1 := below_keep hb1 y1; have hx1 : xb < w1.heap.size := World.block_lt_of_cell? w1 _ k0; have r2 := below_keep hb1 p2; have r3 := below_keep hb1 p3; have r4 := below_keep hb1 p4; have r1 := below_keep hb1 p1; have HW1 : Hid (Below w.heap.size w w1) := HW.out.trans (hb1.mono HW.out.size); clear hb1 HP) | fail)
      go_ret
      exact ⟨rfl, HW1.out⟩
    · rw [decide_eq_false h1]
      have h1' : decide (c < ac) = false := decide_eq_false h1
      simp only [Bool.false_or]
      by_cases h2 : 0 < hc
      · rw [decide_eq_true h2]
        simp only [Bool.true_and]
        go_enter Yba.func27, Yba.ntmps27
        go_wp2_with (first | (go_at_call 23; refine (HK.out _ _ _ rfl HW1.out).mono ?_; rintro e w3 ⟨rfl, hbl⟩) | (go_at_call 23; refine (HP.out _ (below2 _ _ _)).mono ?_; rintro e w1 ⟨rfl, hb1⟩; rw [← EW.out] at hb1; have k0 := below_keep hb1 y0; have k1 := below_keep hb1 y1; have hx1 : xb < w1.heap.size := World.block_lt_of_cell? w1 _ k0; have r2 := below_keep hb1 p2; have r3 := below_keep hb1 p3; have r4 := below_keep hb1 p4; have r1 := below_keep hb1 p1; have HW1 : Hid (Below w.heap.size w w1) := HW.out.trans (hb1.mono HW.out.size); clear hb1 HP) | fail)
        go_ret
        exact ⟨rfl, hbl⟩
      · rw [decide_eq_false h2]
        have h2' : decide (0 < hc) = false := decide_eq_false h2
        simp only [Bool.false_and]
        go_enter Yba.func27, Yba.ntmps27
        go_wp2_with (first | (go_at_call 23; refine (HP.out _ (below2 _ _ _)).mono ?_; rintro e w1 ⟨rfl, hb1⟩; rw [← EW.out] at hb1; have k0 := below_keep hb1 y0; have k1 := below_keep hb1 y1; have hx1 : xb < w1.heap.size := World.block_lt_of_cell? w1 _ k0; have r2 := below_keep hb1 p2; have r3 := below_keep hb1 p3; have r4 := below_keep hb1 p4; have r1 := below_keep hb1 p1; have HW1 : Hid (Below w.heap.size w w1) := HW.out.trans (hb1.mono HW.out.size); clear hb1 HP) | fail)
        go_ret
        exact ⟨rfl, HW1.out⟩
end Go.Proofs.Ybulkadqm.AK
