import Derived.Laws.BitsAllLaws
import Derived.Laws.ShiftsVarLaws
import Derived.RowKit
import Derived.Below
namespace Go.Proofs.Ybulkadqm.CM
open Go.RowKit

/-- bit k of the word x -/
def bitAt (x : Int) (k : Nat) : Bool := x.toNat.testBit k

theorem bit_and_pow (x : Int) (k : Nat) (hk : k < 64) (h0 : 0 ≤ x) (h1 : x < 18446744073709551616) :
    (bits .and .u64 x (IntKind.u64.wrap ((2 : Int) ^ k)) != 0) = bitAt x k := by
  have hp : (2 : Nat) ^ k < 18446744073709551616 := by
    have := Nat.pow_lt_pow_right (a := 2) (by omega) hk
    have e : (2 : Nat) ^ 64 = 18446744073709551616 := by decide
    omega
  have e1 : ((2 : Int) ^ k) = ((2 ^ k : Nat) : Int) := by simp
  rw [e1, IntKind.wrap_u64]
  have e2 : ((2 ^ k : Nat) : Int) % 18446744073709551616 = ((2 ^ k : Nat) : Int) := by
    generalize (2 : Nat) ^ k = p at hp
    omega
  rw [e2]
  obtain ⟨n, rfl⟩ := Int.eq_ofNat_of_zero_le h0
  rw [u64_and_nat n (2 ^ k) (by omega) hp, nat_bit, bitAt, Nat.testBit_eq_decide_div_mod_eq]
  simp only [Int.toNat_natCast]
  have h2 : 0 < 2 ^ k := Nat.two_pow_pos k
  rcases Nat.mod_two_eq_zero_or_one (n / 2 ^ k) with h | h <;> simp [h]
  omega

theorem bit_shr_one (x : Int) (k : Nat) (h0 : 0 ≤ x) (h1 : x < 18446744073709551616) :
    (bits .and .u64 (x / (2 : Int) ^ k) 1 == 1) = bitAt x k := by
  obtain ⟨n, rfl⟩ := Int.eq_ofNat_of_zero_le h0
  have e1 : ((n : Int) / (2 : Int) ^ k) = ((n / 2 ^ k : Nat) : Int) := by simp
  have hle : n / 2 ^ k ≤ n := Nat.div_le_self _ _
  rw [e1, show (1 : Int) = ((1 : Nat) : Int) from rfl, u64_and_nat _ 1 (by omega) (by omega), nat_mask1, bitAt, Nat.testBit_eq_decide_div_mod_eq]
  simp only [Int.toNat_natCast]
  rcases Nat.mod_two_eq_zero_or_one (n / 2 ^ k) with h | h <;> simp [h]

theorem and63 (v : Nat) (hv : v < 256) : bits .and .u64 (v : Int) 63 = ((v % 64 : Nat) : Int) := by
  rw [show (63 : Int) = ((63 : Nat) : Int) from rfl, u64_and_nat _ 63 (by omega) (by omega), nat_mask6]

/-- does the set with the words S hold v? -/
def inS (S : List Int) (v : Int) : Bool := bitAt (S.getD (v.toNat / 64) 0) (v.toNat % 64)

/-- how many of l does S hold (with multiplicity) -/
def cnt (S : List Int) (l : List Int) : Nat := l.countP (inS S)

theorem cnt_le (S l : List Int) : cnt S l ≤ l.length := List.countP_le_length

theorem cnt_succ (S zs : List Int) (k : Nat) (hk : k < zs.length) : cnt S (zs.take (k + 1)) = cnt S (zs.take k) + if inS S (zs.getD k 0) then 1 else 0 := by
  unfold cnt
  rw [List.take_succ_eq_append_getElem hk, List.countP_append, List.countP_singleton]
  simp [List.getD, hk]

end Go.Proofs.Ybulkadqm.CM
