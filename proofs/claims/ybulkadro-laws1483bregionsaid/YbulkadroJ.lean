import Derived.Test.YbulkadroI
namespace Go.Proofs.Ybulkadro.WB
open Go.RowKit

set_option maxRecDepth 100000 in
set_option maxHeartbeats 3200000 in
theorem region_law (a0 a1 : Option Addr) (len0 cap0 len1 cap1 : Nat) (z0 z1 : Nat → Int) (pk : Int) (w : World) (h0 : Row w a0 len0 z0) (h1 : Row w a1 len1 z1) (hl1 : len1 ≤ 9223372036854775807) (hp0 : 0 ≤ pk) (hp1 : pk < 65536) :
    Calls Yba.prog 6 #[.slice a0 len0 cap0, .slice a1 len1 cap1, .int .u16 pk] w fun e w' => e = .returned (.bool true) ∧ Below w.heap.size w w' := by
  by_cases hbig : 1024 < len0
  · clear h0 h1 hl1
    go_enter Yba.func6, Yba.ntmps6
    go_wp2_with fail
    go_ret
    exact ⟨rfl, Below.refl _ _⟩
  have hl : len0 ≤ 1024 := by omega
  clear hbig
  by_cases hz : len0 = 0
  · subst hz
    clear h0 h1 hl1
    go_enter Yba.func6, Yba.ntmps6
    go_wp2_with fail
    go_ret
    exact ⟨rfl, Below.refl _ _⟩
  have hpos : 0 < len0 := by omega
  have HC : Hid (Calls Yba.prog 9 #[.slice a0 len0 cap0, .slice a1 len1 cap1] w fun e w' => ∃ sp gs gd n, e = .returned (.tuple #[.pointer (some ⟨sp, 0, none⟩), .slice (some ⟨gs, 0, none⟩) (len0 + 1) (len0 + 1)]) ∧ Hid (Built w' sp gs gd len0 n (st z0) (dat len1 z1)) ∧ Hid (Below w.heap.size w w')) :=
    build_lit a0 a1 len0 cap0 len1 cap1 z0 z1 w h0 h1 hl hl1
  clear h0 h1 hl1 hz
  generalize st z0 = S at HC
  generalize dat len1 z1 = D at HC
  obtain ⟨b, hbi⟩ : ∃ b : Nat, pk % (len0 : Int) = (b : Int) := ⟨(pk % (len0 : Int)).toNat, (Int.toNat_of_nonneg (Int.emod_nonneg _ (by omega))).symm⟩
  have hb : b < len0 := by have := Int.emod_lt_of_pos pk (b := (len0 : Int)) (by omega); omega
  have hdb : decide ((1024 : Int) < (len0 : Int)) = false := decide_eq_false (by omega)
  by_cases heq : S b = S (b + 1)
  · go_enter Yba.func6, Yba.ntmps6
    go_wp2_with (first
      | (go_at_call 9; refine HC.out.mono ?_; rintro e w1 ⟨sp, gs, gd, n, rfl, HB, HL⟩; clear HC; have HR : Hid (Calls Yba.prog 12 #[.pointer (some ⟨sp, 0, none⟩), .slice (some ⟨gs, 0, none⟩) (len0 + 1) (len0 + 1), .int .u64 (b : Int)] w1 fun e w' => (∃ A C, e = .returned (.slice A 0 C)) ∧ Below w1.heap.size w1 w') := by (refine (region_walk sp gs gd len0 n b S D w1 HB.out hb).mono ?_; rintro e w' ⟨rfl, hb'⟩; exact ⟨⟨_, _, by rw [heq, Nat.sub_self]⟩, hb'⟩))
      | (go_at_call 12; refine HR.out.mono ?_; rintro e w2 ⟨⟨A, C, rfl⟩, hbl⟩; have HB2 : Hid (Calls Yba.prog 11 #[.pointer (some ⟨sp, 0, none⟩), .slice (some ⟨gs, 0, none⟩) (len0 + 1) (len0 + 1), .int .u64 (b : Int)] w2 fun e w' => e = .returned (.int .u64 0) ∧ Below w2.heap.size w2 w') := by (refine (mark_walk sp gs gd len0 n b S D w2 (HB.out.below hbl) hb).mono ?_; rintro e w' ⟨rfl, hb'⟩; exact ⟨by rw [mk, if_pos heq], hb'⟩))
      | (go_at_call 11; refine HB2.out.mono ?_; rintro e w3 ⟨rfl, hbl3⟩)
      | fail)
    go_ret
    exact ⟨rfl, (HL.out.trans (hbl.mono HL.out.size)).trans (hbl3.mono (Nat.le_trans HL.out.size hbl.size))⟩
  · have hmk : mk S D b = V8 fun j => D (8 * S b + j) := if_neg heq
    obtain ⟨a, ha⟩ : ∃ a, a = 8 * S b := ⟨_, rfl⟩
    obtain ⟨L, hL⟩ : ∃ L, L = 8 * S (b + 1) - 8 * S b := ⟨_, rfl⟩
    have HK : Hid (∀ (sp gs gd n : Nat) (w1 : World), Built w1 sp gs gd len0 n S D → Calls Yba.prog 12 #[.pointer (some ⟨sp, 0, none⟩), .slice (some ⟨gs, 0, none⟩) (len0 + 1) (len0 + 1), .int .u64 (b : Int)] w1 fun e w' => e = .returned (.slice (some ⟨gd, a, none⟩) L (n - a)) ∧ Below w1.heap.size w1 w') := by
      intro sp gs gd n w1 hbu
      refine (region_walk sp gs gd len0 n b S D w1 hbu hb).mono ?_
      rintro e w' ⟨rfl, hb'⟩
      refine ⟨?_, hb'⟩
      have h2 := hbu.le (b + 1) (by omega)
      have h3 := hbu.mono b hb
      rw [if_neg (by omega), ← hL, ← ha]
    have HM : Hid (∀ (sp gs gd n : Nat) (w1 : World), Built w1 sp gs gd len0 n S D → Calls Yba.prog 11 #[.pointer (some ⟨sp, 0, none⟩), .slice (some ⟨gs, 0, none⟩) (len0 + 1) (len0 + 1), .int .u64 (b : Int)] w1 fun e w' => e = .returned (.int .u64 (V8 fun j => D (a + j))) ∧ Below w1.heap.size w1 w') := by
      intro sp gs gd n w1 hbu
      rw [ha, ← hmk]
      exact mark_walk sp gs gd len0 n b S D w1 hbu hb
    have HE : Hid (∀ (sp gs gd n : Nat) (w1 : World), Built w1 sp gs gd len0 n S D → Calls Yba.prog 10 #[.slice (some ⟨gd, a, none⟩) L (n - a), .int .i64 0] w1 fun e w' => e = .returned (.int .u64 (V8 fun j => D (a + j))) ∧ w' = w1) := by
      intro sp gs gd n w1 hbu
      have h1 := hbu.hn
      have h2 := hbu.le (b + 1) (by omega)
      have h3 := hbu.mono b hb
      exact le_walk gd a L (n - a) 0 _ w1 (by omega) (by omega) (hbu.d.from a 8 (by omega))
    have HL8 : Hid (∀ (sp gs gd n : Nat) (w1 : World), Built w1 sp gs gd len0 n S D → 8 ≤ L ∧ L ≤ 16384) := by
      intro sp gs gd n w1 hbu
      have h1 := hbu.hn
      have h2 := hbu.le (b + 1) (by omega)
      have h3 := hbu.mono b hb
      omega
    clear heq hmk ha hL
    generalize (V8 fun j => D (a + j)) = v at *
    go_enter Yba.func6, Yba.ntmps6
    go_wp2_with (first
      | (go_at_call 9; refine HC.out.mono ?_; rintro e w1 ⟨sp, gs, gd, n, rfl, HB, HL⟩; clear HC; obtain ⟨hL8, hLm⟩ := HL8.out _ _ _ _ _ HB.out; clear HL8)
      | (go_at_call 12; refine (HK.out _ _ _ _ _ HB.out).mono ?_; rintro e w2 ⟨rfl, hbl⟩; have HB2 : Hid (Built w2 sp gs gd len0 n S D) := HB.out.below hbl)
      | (go_at_call 11; refine (HM.out _ _ _ _ _ HB2.out).mono ?_; rintro e w3 ⟨rfl, hbl3⟩; have HB3 : Hid (Built w3 sp gs gd len0 n S D) := HB2.out.below hbl3)
      | (go_at_call 10; refine (HE.out _ _ _ _ _ HB3.out).mono ?_; rintro e w4 ⟨rfl, rfl⟩)
      | fail)
    go_ret
    exact ⟨rfl, (HL.out.trans (hbl.mono HL.out.size)).trans (hbl3.mono (Nat.le_trans HL.out.size hbl.size))⟩
end Go.Proofs.Ybulkadro.WB
