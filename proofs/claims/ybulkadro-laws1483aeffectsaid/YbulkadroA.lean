import Derived.Test.YbulkadroAPlain
import Derived.WalkKit
import Derived.ProofKit
import Derived.Below
import Derived.BigQuiet
namespace Go.Proofs.Ybulkadro.WA
open Go.RowKit

/-- the four limbs -/
def X (x0 x1 x2 x3 : Int) : Nat → Int
  | 0 => x0 | 1 => x1 | 2 => x2 | _ => x3
/-- what the call answers when the bit turns -/
def turned (x0 x1 x2 x3 : Int) (n : Nat) (m : Int) : Bool := bits .or .u64 (bits .or .u64 (bits .or .u64 (bits .andNot .u64 (X x0 x1 x2 x3 n) m) (X x0 x1 x2 x3 ((n + 1) % 4))) (X x0 x1 x2 x3 ((n + 2) % 4))) (X x0 x1 x2 x3 ((n + 3) % 4)) == 0

def Same (w : World) (e : Ending) (w' : World) : Prop := e = .returned (.bool false) ∧ w' = w
def Turned (x0 x1 x2 x3 wt : Int) (n : Nat) (m : Int) (bw bc : Nat) (w : World) (e : Ending) (w' : World) : Prop :=
  e = .returned (.bool (turned x0 x1 x2 x3 n m)) ∧ ∃ q, w' = ((w.setCell ⟨bw, n, none⟩ (.int .u64 (bits .xor .u64 (X x0 x1 x2 x3 n) m))).setCell ⟨bc, 1, none⟩ (.int .u64 (IntKind.u64.wrap (wt + 1)))).drewN q

theorem wrap_pow (i : Int) : ∃ s : Nat, s < 64 ∧ (s : Int) = i % 64 ∧ IntKind.u64.wrap (2 ^ (i % 64).toNat) = ((2 ^ s : Nat) : Int) := by
  refine ⟨(i % 64).toNat, by omega, by omega, ?_⟩
  have := pow_word (s := (i % 64).toNat) (by omega)
  rw [IntKind.wrap_u64]
  rw [Int.natCast_pow]
  have h2 : ((2 ^ (i % 64).toNat : Nat) : Int) < 18446744073709551616 := Int.ofNat_lt.2 this
  have h3 : 0 ≤ ((2 ^ (i % 64).toNat : Nat) : Int) := Int.natCast_nonneg _
  rw [Int.natCast_pow] at h2 h3
  exact Int.emod_eq_of_lt h3 h2

set_option maxRecDepth 100000 in
set_option maxHeartbeats 3200000 in
theorem set_same (x0 x1 x2 x3 : Int) (i m : Int) (on : Bool) (n : Nat) (bw bc : Nat) (w : World)
  (h0 : w.cell? ⟨bw, 0, none⟩ = some (.int .u64 x0)) (h1 : w.cell? ⟨bw, 1, none⟩ = some (.int .u64 x1)) (h2 : w.cell? ⟨bw, 2, none⟩ = some (.int .u64 x2)) (h3 : w.cell? ⟨bw, 3, none⟩ = some (.int .u64 x3))
  (hi0 : 0 ≤ i) (hi1 : i < 18446744073709551616) (hm : IntKind.u64.wrap (2 ^ (i % 64).toNat) = m) (hn : i / 64 % 4 = (n : Int)) (hon : (bits .and .u64 (X x0 x1 x2 x3 n) m != 0) = on) :
    Calls Yba.prog 7 #[.pointer (some ⟨bc, 0, none⟩), .pointer (some ⟨bw, 0, none⟩), .int .u64 i, .bool on] w (Same w) := by
  have hn4 : n < 4 := by omega
  match n, hn4 with
  | 0, _ | 1, _ | 2, _ | 3, _ =>
    simp only [X] at hon
    go_enter Yba.func7, Yba.ntmps7
    go_wp2_with fail
    go_ret
    exact ⟨rfl, rfl⟩
set_option maxRecDepth 100000 in
set_option maxHeartbeats 3200000 in
theorem set_turned (x0 x1 x2 x3 wt : Int) (i m : Int) (on : Bool) (n : Nat) (bw bc : Nat) (w : World) (hb : bw ≠ bc)
  (h0 : w.cell? ⟨bw, 0, none⟩ = some (.int .u64 x0)) (h1 : w.cell? ⟨bw, 1, none⟩ = some (.int .u64 x1)) (h2 : w.cell? ⟨bw, 2, none⟩ = some (.int .u64 x2)) (h3 : w.cell? ⟨bw, 3, none⟩ = some (.int .u64 x3))
  (c1 : w.cell? ⟨bc, 1, none⟩ = some (.int .u64 wt)) (hf1 : ∀ k, w.frozen? ⟨bw, k, none⟩ = false) (hf2 : ∀ k, w.frozen? ⟨bc, k, none⟩ = false)
  (hi0 : 0 ≤ i) (hi1 : i < 18446744073709551616) (hm : IntKind.u64.wrap (2 ^ (i % 64).toNat) = m) (hn : i / 64 % 4 = (n : Int)) (hon : (bits .and .u64 (X x0 x1 x2 x3 n) m != 0) = !on) :
    Calls Yba.prog 7 #[.pointer (some ⟨bc, 0, none⟩), .pointer (some ⟨bw, 0, none⟩), .int .u64 i, .bool on] w (Turned x0 x1 x2 x3 wt n m bw bc w) := by
  have hn4 : n < 4 := by omega
  match n, hn4 with
  | 0, _ | 1, _ | 2, _ | 3, _ =>
    simp only [X] at hon
    go_enter Yba.func7, Yba.ntmps7
    go_wp2_with fail
    go_quiet (fail)
    go_wp2_with fail
    go_ret
    exact ⟨rfl, _, rfl⟩
end Go.Proofs.Ybulkadro.WA
