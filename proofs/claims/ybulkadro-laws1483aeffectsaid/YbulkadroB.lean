import Derived.Test.YbulkadroA
import Derived.WalkSmall
namespace Go.Proofs.Ybulkadro.WA
open Go.RowKit

def Zero (x0 x1 x2 x3 : Int) (w : World) (e : Ending) (w' : World) : Prop := e = .returned (.bool (zero4 x0 x1 x2 x3)) ∧ w' = w.alloc (.cells #[.int .u64 x0, .int .u64 x1, .int .u64 x2, .int .u64 x3] 23)
set_option maxRecDepth 100000 in
set_option maxHeartbeats 3200000 in
theorem zero_walk (x0 x1 x2 x3 : Int) (w : World) :
    Calls Yba.prog 8 #[.agg #[.int .u64 x0, .int .u64 x1, .int .u64 x2, .int .u64 x3]] w (Zero x0 x1 x2 x3 w) := by
  go_enter Yba.func8, Yba.ntmps8
  go_wp2_with fail
  go_ret
  exact ⟨rfl, rfl⟩

/-- the world in which setStoredBit is called -/
def base3 (x0 x1 x2 x3 rd wt : Int) (w : World) : World := ((w.alloc (.cells #[.int .u64 x0, .int .u64 x1, .int .u64 x2, .int .u64 x3] 23)).alloc (.cells #[.int .u64 x0, .int .u64 x1, .int .u64 x2, .int .u64 x3] 25)).alloc (.cells #[.int .u64 rd, .int .u64 wt] 27)

/-- what the law sees behind that call -/
structure Aft (x0 x1 x2 x3 y0 y1 y2 y3 rd wt : Int) (w w3 : World) : Prop where
  a0 : w3.cell? ⟨w.heap.size, 0, none⟩ = some (.int .u64 x0)
  a1 : w3.cell? ⟨w.heap.size, 1, none⟩ = some (.int .u64 x1)
  a2 : w3.cell? ⟨w.heap.size, 2, none⟩ = some (.int .u64 x2)
  a3 : w3.cell? ⟨w.heap.size, 3, none⟩ = some (.int .u64 x3)
  b0 : w3.cell? ⟨w.heap.size + 1, 0, none⟩ = some (.int .u64 y0)
  b1 : w3.cell? ⟨w.heap.size + 1, 1, none⟩ = some (.int .u64 y1)
  b2 : w3.cell? ⟨w.heap.size + 1, 2, none⟩ = some (.int .u64 y2)
  b3 : w3.cell? ⟨w.heap.size + 1, 3, none⟩ = some (.int .u64 y3)
  c0 : w3.cell? ⟨w.heap.size + 1 + 1, 0, none⟩ = some (.int .u64 rd)
  c1 : w3.cell? ⟨w.heap.size + 1 + 1, 1, none⟩ = some (.int .u64 wt)
  s0 : w.heap.size < w3.heap.size
  s1 : w.heap.size + 1 < w3.heap.size
  s2 : w.heap.size + 1 + 1 < w3.heap.size
  bel : Below w.heap.size w w3

theorem base3_aft (x0 x1 x2 x3 rd wt : Int) (w : World) : Aft x0 x1 x2 x3 x0 x1 x2 x3 rd wt w (base3 x0 x1 x2 x3 rd wt w) := by
  have bel : Below w.heap.size w (base3 x0 x1 x2 x3 rd wt w) := (((Below.refl _ _).alloc (Nat.le_refl _) _).alloc (by simp [go_sem]) _).alloc (by simp [go_sem]; omega) _
  refine ⟨?_, ?_, ?_, ?_, ?_, ?_, ?_, ?_, ?_, ?_, ?_, ?_, ?_, bel⟩ <;> simp [base3, go_sem]

theorem aft_turned (x0 x1 x2 x3 y rd wt wt' : Int) (w : World) (n q : Nat) (hn : n < 4) :
    Aft x0 x1 x2 x3 (if n = 0 then y else x0) (if n = 1 then y else x1) (if n = 2 then y else x2) (if n = 3 then y else x3) rd wt' w ((((base3 x0 x1 x2 x3 rd wt w).setCell ⟨w.heap.size + 1, n, none⟩ (.int .u64 y)).setCell ⟨w.heap.size + 1 + 1, 1, none⟩ (.int .u64 wt')).drewN q) := by
  have h := base3_aft x0 x1 x2 x3 rd wt w
  have bel : Below w.heap.size w ((((base3 x0 x1 x2 x3 rd wt w).setCell ⟨w.heap.size + 1, n, none⟩ (.int .u64 y)).setCell ⟨w.heap.size + 1 + 1, 1, none⟩ (.int .u64 wt')).drewN q) := below_drewN ((h.bel.setCell (Nat.le_add_right _ 1) _).setCell (Nat.le_trans (Nat.le_add_right _ 1) (Nat.le_add_right _ 1)) _) q
  match n, hn with
  | 0, _ | 1, _ | 2, _ | 3, _ =>
    refine ⟨?_, ?_, ?_, ?_, ?_, ?_, ?_, ?_, ?_, ?_, ?_, ?_, ?_, bel⟩ <;> simp [base3, go_sem]
end Go.Proofs.Ybulkadro.WA
