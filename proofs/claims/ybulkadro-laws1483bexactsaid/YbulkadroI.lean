import Derived.Test.YbulkadroH
namespace Go.Proofs.Ybulkadro.WB
open Go.RowKit

theorem build_lit (a0 a1 : Option Addr) (len0 cap0 len1 cap1 : Nat) (z0 z1 : Nat → Int) (w : World) (h0 : Row w a0 len0 z0) (h1 : Row w a1 len1 z1) (hl : len0 ≤ 1024) (hl1 : len1 ≤ 9223372036854775807) :
    Calls Yba.prog 9 #[.slice a0 len0 cap0, .slice a1 len1 cap1] w fun e w' => ∃ sp gs gd n, e = .returned (.tuple #[.pointer (some ⟨sp, 0, none⟩), .slice (some ⟨gs, 0, none⟩) (len0 + 1) (len0 + 1)]) ∧ Hid (Built w' sp gs gd len0 n (st z0) (dat len1 z1)) ∧ Hid (Below w.heap.size w w') :=
  build_walk a0 a1 len0 cap0 len1 cap1 z0 z1 w h0 h1 hl hl1

set_option maxRecDepth 100000 in
set_option maxHeartbeats 3200000 in
theorem exact_walk (a0 a1 : Option Addr) (len0 cap0 len1 cap1 : Nat) (z0 z1 : Nat → Int) (w : World) (h0 : Row w a0 len0 z0) (h1 : Row w a1 len1 z1) (hl1 : len1 ≤ 9223372036854775807) :
    Calls Yba.prog 5 #[.slice a0 len0 cap0, .slice a1 len1 cap1] w fun e w' => e = .returned (.bool true) ∧ Below w.heap.size w w' := by
  by_cases hbig : 1024 < len0
  · clear h0 h1 hl1
    go_enter Yba.func5, Yba.ntmps5
    go_wp2_with fail
    go_ret
    exact ⟨rfl, Below.refl _ _⟩
  have hl : len0 ≤ 1024 := by omega
  clear hbig
  have HC : Hid (Calls Yba.prog 9 #[.slice a0 len0 cap0, .slice a1 len1 cap1] w fun e w' => ∃ sp gs gd n, e = .returned (.tuple #[.pointer (some ⟨sp, 0, none⟩), .slice (some ⟨gs, 0, none⟩) (len0 + 1) (len0 + 1)]) ∧ Hid (Built w' sp gs gd len0 n (st z0) (dat len1 z1)) ∧ Hid (Below w.heap.size w w')) :=
    build_lit a0 a1 len0 cap0 len1 cap1 z0 z1 w h0 h1 hl hl1
  clear h0 h1 hl1
  generalize st z0 = S at HC
  generalize dat len1 z1 = D at HC
  go_enter Yba.func5, Yba.ntmps5
  go_wp2_with (go_at_call 9; refine HC.out.mono ?_; rintro e w1 ⟨sp, gs, gd, n, rfl, HB, HL⟩; clear HC)
  go_loopg [7, 8] len0 (fun g i x wr => ∃ k : Nat, k ≤ len0 ∧ g = len0 - k ∧ i = .int .i64 k ∧ Below w1.heap.size w1 wr)
  case atStart => exact ⟨0, Nat.zero_le _, rfl, rfl, Below.refl _ _⟩
  case round =>
    obtain ⟨k, hk, rfl, rfl, hbl⟩ := hrel
    by_cases hlt : k < len0
    · have hb2 := HB.out.below hbl
      have hs := hb2.s k (by omega)
      have hs1 := hb2.s (k + 1) (by omega)
      have HBL : Hid (Below w1.heap.size w1 wr) := hbl
      have HM : Hid (∀ q, Calls Yba.prog 11 #[.pointer (some ⟨sp, 0, none⟩), .slice (some ⟨gs, 0, none⟩) (len0 + 1) (len0 + 1), .int .u64 (k : Int)] (wr.drewN q) fun e w' => e = .returned (.int .u64 (mk S D k)) ∧ Below w1.heap.size w1 w') := by
        intro q
        refine (mark_walk sp gs gd len0 n k S D (wr.drewN q) (hb2.below (below_drewN (Below.refl _ _) q)) hlt).mono ?_
        intro e w' ⟨he, hb⟩
        exact ⟨he, hbl.trans (((below_drewN (Below.refl _ _) q).trans hb).mono hbl.size)⟩
      by_cases heq : S k = S (k + 1)
      · have hmk : mk S D k = 0 := if_pos heq
        rw [hmk] at HM
        clear hmk hbl hb2
        generalize S (k + 1) = s1 at *
        subst heq
        go_wp2_with fail
        go_quiet (fail)
        go_wp2_with (go_at_call 11; refine (HM.out _).mono ?_; rintro e w2 ⟨rfl, hbl2⟩)
        go_roundg (len0 - (k + 1))
        case rel => exact ⟨k + 1, by omega, rfl, by go_num, hbl2⟩
        case measure => omega
      · have hmk : mk S D k = V8 fun j => D (8 * S k + j) := if_neg heq
        have hp := hb2.p
        have hn := hb2.hn
        have hle := hb2.le (k + 1) (by omega)
        have hmo := hb2.mono k hlt
        obtain ⟨a, ha⟩ : ∃ a, a = 8 * S k := ⟨_, rfl⟩
        have HE : Hid (∀ q, Calls Yba.prog 10 #[.slice (some ⟨gd, 0, none⟩) n n, .int .i64 (a : Int)] (wr.drewN q) fun e w' => e = .returned (.int .u64 (mk S D k)) ∧ w' = wr.drewN q) := by
          intro q
          rw [hmk, ← ha]
          refine le_walk gd 0 n n a _ (wr.drewN q) (by omega) (by omega) ?_
          rw [Nat.zero_add]
          exact (hb2.d.from a 8 (by omega)).below (below_drewN (Below.refl _ _) q)
        have hai : (8 * (S k : Int)) = (a : Int) := by omega
        have hsb : S k ≤ 2048 := by omega
        clear hmk hbl hb2 hle hmo ha
        generalize mk S D k = v at *
        generalize S (k + 1) = s1 at *
        generalize S k = s0 at *
        have hne : ((s0 : Int) == (s1 : Int)) = false := beq_false_of_ne (by omega)
        go_wp2_with fail
        go_quiet (fail)
        go_wp2_with fail
        have HE2 : Hid (∀ q, Calls Yba.prog 10 #[.slice (some ⟨gd, 0, none⟩) n n, .int .i64 (a : Int)] ((wr.drewN nq).drewN q) fun e w' => e = .returned (.int .u64 v) ∧ w' = (wr.drewN nq).drewN q) := by
          intro q
          rw [World.drewN_drewN]
          exact HE.out _
        have HM2 : Hid (∀ q, Calls Yba.prog 11 #[.pointer (some ⟨sp, 0, none⟩), .slice (some ⟨gs, 0, none⟩) (len0 + 1) (len0 + 1), .int .u64 (k : Int)] ((wr.drewN nq).drewN q) fun e w' => e = .returned (.int .u64 v) ∧ Below w1.heap.size w1 w') := by
          intro q
          rw [World.drewN_drewN]
          exact HM.out _
        have hs' : (wr.drewN nq).cell? ⟨gs, k, none⟩ = some (.int .u16 (s0 : Int)) := hs
        have hp' : (wr.drewN nq).cell? ⟨sp, 0, none⟩ = some (.slice (some ⟨gd, 0, none⟩) n n) := hp
        clear hs hp hs1 HE HM HBL
        generalize wr.drewN nq = w2 at *
        go_quiet ((go_at_call 10; exact Calls.quiet_of_same (HE2.out _)))
        go_wp2_with (go_at_call 11; refine (HM2.out _).mono ?_; rintro e w3 ⟨rfl, hbl2⟩)
        go_roundg (len0 - (k + 1))
        case rel => exact ⟨k + 1, by omega, rfl, by go_num, hbl2⟩
        case measure => omega
    · have hk' : k = len0 := by omega
      subst hk'
      clear hlt
      go_wp2_with fail
      go_ret
      exact ⟨rfl, HL.out.trans (hbl.mono HL.out.size)⟩
end Go.Proofs.Ybulkadro.WB
