import Derived.Test.YbulkadroRows
import Derived.WalkKit
import Derived.WalkSpells
import Derived.WalkLawsBesides
import Derived.WalkSmall
import Derived.Deep.QuietTactic
import Derived.BigQuiet
import Derived.ProofKit
import Derived.Below
import Derived.Outline
import Derived.Deep.RegionHeld3
import Derived.Lib.EndianBits
import Derived.Laws.BitsAllLaws
namespace Go.Proofs.Ybulkadro.WB
open Go.RowKit

abbrev Byte (d : Int) : Prop := 0 ≤ d ∧ d < 256
/-- the number that eight bytes spell, the least first -/
def V8 (D : Nat → Int) : Int := D 0 + D 1 * 256 + D 2 * 65536 + D 3 * 16777216 + D 4 * 4294967296 + D 5 * 1099511627776 + D 6 * 281474976710656 + D 7 * 72057594037927936
theorem V8_or (D : Nat → Int) (h : ∀ j, j < 8 → Byte (D j)) :
    bits .or .u64 (bits .or .u64 (bits .or .u64 (bits .or .u64 (bits .or .u64 (bits .or .u64 (bits .or .u64 (D 0) (D 1 * 256)) (D 2 * 65536)) (D 3 * 16777216)) (D 4 * 4294967296)) (D 5 * 1099511627776)) (D 6 * 281474976710656)) (D 7 * 72057594037927936) = V8 D := by
  have h0 := h 0 (by omega); have h1 := h 1 (by omega); have h2 := h 2 (by omega); have h3 := h 3 (by omega)
  have h4 := h 4 (by omega); have h5 := h 5 (by omega); have h6 := h 6 (by omega); have h7 := h 7 (by omega)
  unfold V8
  simp (disch := omega) only [u64_or8, u64_or16, u64_or24, u64_or32, u64_or40, u64_or48, u64_or56]

theorem below_keep {w w' : World} {p : Addr} {v : Value} (hb : Below w.heap.size w w') (h : w.cell? p = some v) : w'.cell? p = some v := (hb.cell (World.block_lt_of_cell? w _ h)).trans h
theorem alloc_keep {w : World} (o : Obj) {p : Addr} {v : Value} (h : w.cell? p = some v) : (w.alloc o).cell? p = some v :=
  below_keep ((Below.refl _ w).alloc (Nat.le_refl _) o) h
theorem ret_bool {a b : Bool} (h : a = b) : Ending.returned (.bool a) = .returned (.bool b) := by rw [h]
theorem ret_int {k : IntKind} {a b : Int} (h : a = b) : Ending.returned (.int k a) = .returned (.int k b) := by rw [h]
/-- bytes in a row of w -/
def Cells (w : World) (g o n : Nat) (D : Nat → Int) : Prop := ∀ j, j < n → w.cell? ⟨g, o + j, none⟩ = some (.int .u8 (D j)) ∧ Byte (D j)

set_option maxRecDepth 100000 in
set_option maxHeartbeats 3200000 in
theorem u64_walk (g o n c : Nat) (D : Nat → Int) (w : World) (hn : 8 ≤ n) (hc : Cells w g o 8 D) :
    Calls Yba.prog 14 #[.agg #[], .slice (some ⟨g, o, none⟩) n c] w fun e w' => e = .returned (.int .u64 (V8 D)) ∧ Below w.heap.size w w' := by
  have hb : Hid (∀ j, j < 8 → Byte (D j)) := fun j hj => (hc j hj).2
  have d0 : (w.alloc (.cells #[] 48)).cell? ⟨g, o, none⟩ = _ := alloc_keep (.cells #[] 48) (hc 0 (by omega)).1
  have d1 := alloc_keep (.cells #[] 48) (hc 1 (by omega)).1
  have d2 := alloc_keep (.cells #[] 48) (hc 2 (by omega)).1
  have d3 := alloc_keep (.cells #[] 48) (hc 3 (by omega)).1
  have d4 := alloc_keep (.cells #[] 48) (hc 4 (by omega)).1
  have d5 := alloc_keep (.cells #[] 48) (hc 5 (by omega)).1
  have d6 := alloc_keep (.cells #[] 48) (hc 6 (by omega)).1
  have d7 := alloc_keep (.cells #[] 48) (hc 7 (by omega)).1
  have b0 := (hc 0 (by omega)).2; have b1 := (hc 1 (by omega)).2; have b2 := (hc 2 (by omega)).2; have b3 := (hc 3 (by omega)).2
  have b4 := (hc 4 (by omega)).2; have b5 := (hc 5 (by omega)).2; have b6 := (hc 6 (by omega)).2; have b7 := (hc 7 (by omega)).2
  clear hc
  have q0 : 0 < n := by omega
  have q1 : (1 : Int) < (n : Int) := by omega
  have q2 : (2 : Int) < (n : Int) := by omega
  have q3 : (3 : Int) < (n : Int) := by omega
  have q4 : (4 : Int) < (n : Int) := by omega
  have q5 : (5 : Int) < (n : Int) := by omega
  have q6 : (6 : Int) < (n : Int) := by omega
  have q7 : (7 : Int) < (n : Int) := by omega
  go_enter Yba.func14, Yba.ntmps14
  go_wp2_with fail
  go_quiet (fail)
  go_wp2_with fail
  go_ret
  refine ⟨ret_int ?_, below_drewN ((Below.refl _ w).alloc (Nat.le_refl _) _) _⟩
  rw [← V8_or D hb.out]

set_option maxRecDepth 100000 in
set_option maxHeartbeats 3200000 in
theorem le_walk (g o n c a : Nat) (D : Nat → Int) (w : World) (hn : a + 8 ≤ n) (hm : n ≤ 1000000) (hc : Cells w g (o + a) 8 D) :
    Calls Yba.prog 10 #[.slice (some ⟨g, o, none⟩) n c, .int .i64 (a : Int)] w fun e w' => e = .returned (.int .u64 (V8 D)) ∧ w' = w := by
  have hb : Hid (∀ j, j < 8 → Byte (D j)) := fun j hj => (hc j hj).2
  have d0 : w.cell? ⟨g, o + a, none⟩ = _ := (hc 0 (by omega)).1
  have d1 : w.cell? ⟨g, o + (a + 1), none⟩ = _ := (congrArg w.cell? (by rw [Nat.add_assoc])).trans (hc 1 (by omega)).1
  have d2 : w.cell? ⟨g, o + (a + 2), none⟩ = _ := (congrArg w.cell? (by rw [Nat.add_assoc])).trans (hc 2 (by omega)).1
  have d3 : w.cell? ⟨g, o + (a + 3), none⟩ = _ := (congrArg w.cell? (by rw [Nat.add_assoc])).trans (hc 3 (by omega)).1
  have d4 : w.cell? ⟨g, o + (a + 4), none⟩ = _ := (congrArg w.cell? (by rw [Nat.add_assoc])).trans (hc 4 (by omega)).1
  have d5 : w.cell? ⟨g, o + (a + 5), none⟩ = _ := (congrArg w.cell? (by rw [Nat.add_assoc])).trans (hc 5 (by omega)).1
  have d6 : w.cell? ⟨g, o + (a + 6), none⟩ = _ := (congrArg w.cell? (by rw [Nat.add_assoc])).trans (hc 6 (by omega)).1
  have d7 : w.cell? ⟨g, o + (a + 7), none⟩ = _ := (congrArg w.cell? (by rw [Nat.add_assoc])).trans (hc 7 (by omega)).1
  have b0 := (hc 0 (by omega)).2; have b1 := (hc 1 (by omega)).2; have b2 := (hc 2 (by omega)).2; have b3 := (hc 3 (by omega)).2
  have b4 := (hc 4 (by omega)).2; have b5 := (hc 5 (by omega)).2; have b6 := (hc 6 (by omega)).2; have b7 := (hc 7 (by omega)).2
  clear hc
  go_enter Yba.func10, Yba.ntmps10
  go_wp2_with fail
  refine wp_loop_rounds 9 ?_
  rw [rounds_succ]
  go_wp2_with fail
  rw [rounds_succ]
  go_wp2_with fail
  rw [rounds_succ]
  go_wp2_with fail
  rw [rounds_succ]
  go_wp2_with fail
  rw [rounds_succ]
  go_wp2_with fail
  rw [rounds_succ]
  go_wp2_with fail
  rw [rounds_succ]
  go_wp2_with fail
  rw [rounds_succ]
  go_wp2_with fail
  rw [rounds_succ]
  go_wp2_with fail
  go_ret
  refine ⟨ret_int ?_, rfl⟩
  rw [← V8_or D hb.out, show bits .or .u64 0 (D 0) = D 0 from by
    rw [u64_or 0 (D 0) (by omega) (by omega) (by omega) (by omega)]; simp; omega]
end Go.Proofs.Ybulkadro.WB
