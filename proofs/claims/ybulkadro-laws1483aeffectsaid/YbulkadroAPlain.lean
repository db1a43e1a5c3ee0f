import Derived.Test.YbulkadroRows
import Derived.Laws.BitsAllLaws
namespace Go.Proofs.Ybulkadro.WA

abbrev Word (x : Int) : Prop := 0 ≤ x ∧ x < 18446744073709551616
/-- the bit s of the word -/
def bitAt (x : Int) (s : Nat) : Bool := x.toNat.testBit s

theorem pow_word {s : Nat} (hs : s < 64) : (2 : Nat) ^ s < 18446744073709551616 := by
  have : (2 : Nat) ^ s < 2 ^ 64 := Nat.pow_lt_pow_right (by omega) hs
  omega
theorem nat_of {x : Int} (h : Word x) : ∃ a : Nat, x = (a : Int) ∧ a < 18446744073709551616 := ⟨x.toNat, by omega, by omega⟩

theorem and_pow (x : Int) (s : Nat) (hx : Word x) (hs : s < 64) : (bits .and .u64 x ((2 ^ s : Nat) : Int) != 0) = bitAt x s := by
  obtain ⟨a, rfl, ha⟩ := nat_of hx
  rw [u64_and_nat a (2 ^ s) ha (pow_word hs)]
  simp only [bitAt, Int.toNat_natCast]
  have hp := Nat.two_pow_pos s
  simp only [Nat.testBit, Nat.shiftRight_eq_div_pow, Nat.and_comm 1]
  rw [nat_bit, Nat.and_one_is_mod]
  rcases Nat.mod_two_eq_zero_or_one (a / 2 ^ s) with h | h
  · simp [h]
  · rw [h]
    have : ((1 * 2 ^ s : Nat) : Int) ≠ 0 := Int.ne_of_gt (Int.ofNat_lt.2 (by rw [Nat.one_mul]; exact hp))
    rw [bne_iff_ne.2 this]; rfl
theorem shr_and (x : Int) (s : Nat) (hx : Word x) : (bits .and .u64 (x / ((2 ^ s : Nat) : Int)) 1 == 1) = bitAt x s := by
  obtain ⟨a, rfl, ha⟩ := nat_of hx
  rw [← Int.natCast_ediv, show (1 : Int) = ((1 : Nat) : Int) from rfl, u64_and_nat (a / 2 ^ s) 1 (Nat.lt_of_le_of_lt (Nat.div_le_self _ _) ha) (by omega)]
  simp only [bitAt, Int.toNat_natCast, Nat.testBit, Nat.shiftRight_eq_div_pow, Nat.and_comm 1]
  rw [Nat.and_one_is_mod]
  rcases Nat.mod_two_eq_zero_or_one (a / 2 ^ s) with h | h <;> simp [h]
theorem xor_clear (x : Int) (s : Nat) (hx : Word x) (hs : s < 64) (h : bitAt x s = false) : bits .xor .u64 x ((2 ^ s : Nat) : Int) = bits .or .u64 x ((2 ^ s : Nat) : Int) := by
  obtain ⟨a, rfl, ha⟩ := nat_of hx
  rw [u64_xor_nat a (2 ^ s) ha (pow_word hs), u64_or_nat a (2 ^ s) ha (pow_word hs)]
  congr 1
  simp only [bitAt, Int.toNat_natCast] at h
  refine Nat.eq_of_testBit_eq fun i => ?_
  rw [Nat.testBit_xor, Nat.testBit_or, Nat.testBit_two_pow]
  by_cases hi : s = i
  · subst hi; simp [h]
  · simp [hi]
theorem andNot_bit (a m i : Nat) (ha : a < 18446744073709551616) (hm : m < 18446744073709551616) : (a &&& (18446744073709551615 - m)).testBit i = (a.testBit i && !m.testBit i) := by
  rw [Nat.testBit_and, show 18446744073709551615 - m = 2 ^ 64 - (m + 1) by omega, Nat.testBit_two_pow_sub_succ (by omega)]
  by_cases hi : i < 64
  · simp [hi]
  · have : a.testBit i = false := Nat.testBit_lt_two_pow (Nat.lt_of_lt_of_le ha (by rw [show 18446744073709551616 = 2 ^ 64 from rfl]; exact Nat.pow_le_pow_right (by omega) (by omega)))
    simp [this]
theorem xor_set (x : Int) (s : Nat) (hx : Word x) (hs : s < 64) (h : bitAt x s = true) : bits .xor .u64 x ((2 ^ s : Nat) : Int) = bits .andNot .u64 x ((2 ^ s : Nat) : Int) := by
  obtain ⟨a, rfl, ha⟩ := nat_of hx
  rw [u64_xor_nat a (2 ^ s) ha (pow_word hs), u64_andNot_nat a (2 ^ s) ha (pow_word hs)]
  congr 1
  simp only [bitAt, Int.toNat_natCast] at h
  refine Nat.eq_of_testBit_eq fun i => ?_
  rw [Nat.testBit_xor, andNot_bit _ _ _ ha (pow_word hs), Nat.testBit_two_pow]
  by_cases hi : s = i
  · subst hi; simp [h]
  · simp [hi]
theorem andNot_clear (x : Int) (s : Nat) (hx : Word x) (hs : s < 64) (h : bitAt x s = false) : bits .andNot .u64 x ((2 ^ s : Nat) : Int) = x := by
  obtain ⟨a, rfl, ha⟩ := nat_of hx
  rw [u64_andNot_nat a (2 ^ s) ha (pow_word hs)]
  congr 1
  simp only [bitAt, Int.toNat_natCast] at h
  refine Nat.eq_of_testBit_eq fun i => ?_
  rw [andNot_bit _ _ _ ha (pow_word hs), Nat.testBit_two_pow]
  by_cases hi : s = i
  · subst hi; simp [h]
  · simp [hi]
theorem bits_word (op : BinOp) (x y : Int) : Word (bits op .u64 x y) := by
  show 0 ≤ IntKind.u64.wrap _ ∧ IntKind.u64.wrap _ < _
  rw [IntKind.wrap_u64]
  omega
theorem or_zero (x y : Int) (hx : Word x) (hy : Word y) : (bits .or .u64 x y == 0) = ((x == 0) && (y == 0)) := by
  obtain ⟨a, rfl, ha⟩ := nat_of hx
  obtain ⟨b, rfl, hb⟩ := nat_of hy
  rw [u64_or_nat a b ha hb]
  rw [Bool.eq_iff_iff]
  simp only [beq_iff_eq, Bool.and_eq_true]
  norm_cast
  exact Nat.or_eq_zero_iff
theorem or_pow_ne (x : Int) (s : Nat) (hx : Word x) (hs : s < 64) : (bits .or .u64 x ((2 ^ s : Nat) : Int) == 0) = false := by
  rw [or_zero x _ hx ⟨Int.natCast_nonneg _, Int.ofNat_lt.2 (pow_word hs)⟩]
  have : (((2 ^ s : Nat) : Int) == 0) = false := by
    have h := Nat.two_pow_pos s
    exact beq_false_of_ne (Int.ne_of_gt (Int.ofNat_lt.2 h))
  rw [this, Bool.and_false]
theorem set_ne (x : Int) (s : Nat) (h : bitAt x s = true) : (x == 0) = false := by
  by_cases hx : x = 0
  · subst hx; simp [bitAt] at h
  · simpa using hx

/-- is the word of four limbs zero, as the Go text asks it -/
def zero4 (x0 x1 x2 x3 : Int) : Bool := bits .or .u64 (bits .or .u64 (bits .or .u64 x0 x1) x2) x3 == 0
theorem zero4_eq (x0 x1 x2 x3 : Int) (h0 : Word x0) (h1 : Word x1) (h2 : Word x2) (h3 : Word x3) : zero4 x0 x1 x2 x3 = ((x0 == 0) && (x1 == 0) && (x2 == 0) && (x3 == 0)) := by
  unfold zero4
  rw [or_zero _ _ (bits_word ..) h3, or_zero _ _ (bits_word ..) h2, or_zero _ _ h0 h1]
end Go.Proofs.Ybulkadro.WA
