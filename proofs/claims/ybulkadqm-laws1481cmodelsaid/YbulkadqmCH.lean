import Derived.Test.YbulkadqmCG
namespace Go.Proofs.Ybulkadqm.CM
open Go.RowKit

theorem innR_eq (S : List Int) (T : Nat → Int) (Z : Nat → List Int) (i : Nat) : innR S T Z i = decide (T i ≤ (cnt S (Z i) : Int)) := by
  exact decide_eq_decide.2 (by simp [mets])

theorem Inn.below {w w' : World} {a : Option Addr} {len : Nat} {T : Nat → Int} {A : Nat → Option Addr} {L C : Nat → Nat} {Z : Nat → List Int} (h : Inn w a len T A L C Z) (hb : Below w.heap.size w w') : Inn w' a len T A L C Z where
  cells := fun i hi => by obtain ⟨b, off, e, h1, h2⟩ := h.cells i hi; exact ⟨b, off, e, below_keep hb h1, below_keep hb h2⟩
  row := fun i hi => (h.row i hi).below hb
  small := h.small
  th := h.th

set_option maxRecDepth 100000 in
set_option maxHeartbeats 1600000 in
theorem law_walk (th : Int) (a0 : Option Addr) (len0 cap0 : Nat) (z0 : List Int) (a : Option Addr) (len cap : Nat) (T : Nat → Int) (A : Nat → Option Addr) (L C : Nat → Nat) (Z : Nat → List Int) (a3 : Option Addr) (len3 cap3 : Nat) (z3 : List Int) (w : World)
    (ht1 : -128 ≤ th) (ht2 : th ≤ 127) (hr0 : Row .u8 w a0 len0 z0) (hb0 : ∀ i, i < z0.length → 0 ≤ z0.getD i 0 ∧ z0.getD i 0 < 256) (hin : Inn w a len T A L C Z)
    (hr3 : Row .u64 w a3 len3 z3) (hb3 : ∀ i, i < z3.length → 0 ≤ z3.getD i 0 ∧ z3.getD i 0 < 18446744073709551616) :
    Calls Yba.prog 5 #[.int .i8 th, .slice a0 len0 cap0, .slice a len cap, .slice a3 len3 cap3] w fun e w' => e = .returned (.bool true) ∧ Below w.heap.size w w' := by
  go_enter Yba.func5, Yba.ntmps5
  go_wp2_with fail
  refine (big_any a0 len0 cap0 a len cap T A L C Z w hin).mono ?_
  rintro e w' ⟨⟨r, rfl, hr⟩, rfl⟩
  cases r
  case true =>
    clear hr
    go_wp2_with fail
    go_ret
    exact ⟨rfl, Below.refl _ _⟩
  case false =>
    obtain ⟨hl0, hl, hL⟩ := hr rfl
    clear hr
    go_wp2_with fail
    refine (set_any a3 len3 cap3 z3 _ hr3 hb3).mono ?_
    rintro e w1 ⟨rfl, ⟨S, hS⟩, hbel1, hlt1⟩
    clear hr3 hb3
    go_wp2_with fail
    refine (build_any th a0 len0 cap0 z0 a len cap T A L C Z w1 (hr0.below hbel1) hb0 hl0 (hin.below hbel1) hl hL ht1 ht2).mono ?_
    rintro e w2 ⟨vb, io, cp, VB, base, rfl, hrow, hown, hrows, hbel2⟩
    have hbel3 : Below w2.heap.size w2 (w2.alloc (.cells #[.int .i64 th, .slice (some ⟨vb, 0, none⟩) len0 len0, .slice io len cp, .int .i64 0] 96)) := (Below.refl _ _).alloc (Nat.le_refl _) _
    have hc0 : (w2.alloc (.cells #[.int .i64 th, .slice (some ⟨vb, 0, none⟩) len0 len0, .slice io len cp, .int .i64 0] 96)).cell? ⟨w2.heap.size, 0, none⟩ = some (.int .i64 th) := by simp
    have hc1 : (w2.alloc (.cells #[.int .i64 th, .slice (some ⟨vb, 0, none⟩) len0 len0, .slice io len cp, .int .i64 0] 96)).cell? ⟨w2.heap.size, 1, none⟩ = some (.slice (some ⟨vb, 0, none⟩) len0 len0) := by simp
    have hc2 : (w2.alloc (.cells #[.int .i64 th, .slice (some ⟨vb, 0, none⟩) len0 len0, .slice io len cp, .int .i64 0] 96)).cell? ⟨w2.heap.size, 2, none⟩ = some (.slice io len cp) := by simp
    have hS3 : SetAt (w2.alloc (.cells #[.int .i64 th, .slice (some ⟨vb, 0, none⟩) len0 len0, .slice io len cp, .int .i64 0] 96)) w'.heap.size S := fun j hj => ⟨below_keep hbel3 (below_keep hbel2 (hS j hj).1), (hS j hj).2⟩
    have hbel : Below w'.heap.size w' (w2.alloc (.cells #[.int .i64 th, .slice (some ⟨vb, 0, none⟩) len0 len0, .slice io len cp, .int .i64 0] 96)) := (hbel1.trans (hbel2.mono (by omega))).trans (hbel3.mono (by have := hbel2.size; omega))
    have hmet := met_built w2.heap.size th vb len0 z0 io len cp base T L VB Z w'.heap.size S _ hc0 hc1 hc2 (hrow.below hbel3) hb0 hl0 hl hS3 ht1 ht2 (owns_below hown hbel3) (fun i hi => (hrows i hi).below hbel3) hin.small hL hin.th
    go_wp2_with fail
    refine hmet.mono ?_
    clear hmet hc0 hc1 hc2 hbel3 hown hrow hrows hbel2 hS hbel1
    rintro e w4 ⟨rfl, m, rfl⟩
    generalize (w2.alloc (.cells #[.int .i64 th, .slice (some ⟨vb, 0, none⟩) len0 len0, .slice io len cp, .int .i64 0] 96)) = w3 at *
    go_wp2_with fail
    refine (count_any w'.heap.size S a0 len0 cap0 z0 _ (setAt_keep hS3 (by simp)) ((hr0.below hbel).keep (by simp)) hb0 hl0).mono ?_
    rintro e w5 ⟨rfl, rfl⟩
    have hd0 : cnt S z0 ≤ 1024 := by have := cnt_le S z0; have := hr0.1; omega
    have hin3 := hin.below hbel
    clear hin hr0 hb0
    generalize hD : cnt S z0 = D at *
    have HD : Hid (cnt S z0 = D) := hD
    clear hD
    generalize hG : metB th D len (innR S T Z) = G at *
    have HG : Hid (metB th D len (innR S T Z) = G) := hG
    clear hG
    go_wp2_with fail
    go_loopg [12, 13, 30] len (fun g c x i wr => ∃ k : Nat, k ≤ len ∧ g = len - k ∧ i = .int .i64 k ∧ c = .int .i64 ((D + mets (innR S T Z) k : Nat) : Int) ∧ ∃ m, wr = w3.drewN m)
    case atStart => exact ⟨0, Nat.zero_le _, rfl, rfl, by simp [mets], m, rfl⟩
    case round =>
      obtain ⟨k, hk, rfl, rfl, rfl, m2, hm2⟩ := hrel
      have HW : Hid (wr = w3.drewN m2) := hm2
      clear hm2
      have hml := mets_le (innR S T Z) k
      by_cases hlt : k < len
      · obtain ⟨b, off, rfl, hd1', hd2'⟩ := hin3.cells k hlt
        have hd1 : wr.cell? ⟨b, off + k * 2, none⟩ = some (.int .i8 (T k)) := by rw [HW.out]; exact hd1'
        have hd2 : wr.cell? ⟨b, off + k * 2 + 1, none⟩ = some (.slice (A k) (L k) (C k)) := by rw [HW.out]; exact hd2'
        clear hd1' hd2'
        have hrk := hin3.row k hlt
        have hsk := hin3.small k hlt
        obtain ⟨htk1, htk2⟩ := hin3.th k hlt
        have hLk := hL k hlt
        have HS : Hid (mets (innR S T Z) (k + 1) = mets (innR S T Z) k + if innR S T Z k then 1 else 0) := rfl
        have HI : Hid (innR S T Z k = decide (T k ≤ (cnt S (Z k) : Int))) := innR_eq S T Z k
        have hcq : ∀ q, Calls Yba.prog 19 #[.slice (some ⟨w'.heap.size, 0, none⟩) 4 4, .slice (A k) (L k) (C k)] (wr.drewN q) fun e w'' => e = .returned (.int .i64 (cnt S (Z k))) ∧ w'' = wr.drewN q := fun q =>
          count_any w'.heap.size S (A k) (L k) (C k) (Z k) _ (setAt_keep hS3 (by simp [HW.out])) (hrk.keep (by simp [HW.out])) hsk hLk
        have HQ : Hid (∀ q, Calls Yba.prog 19 #[.slice (some ⟨w'.heap.size, 0, none⟩) 4 4, .slice (A k) (L k) (C k)] (wr.drewN q) fun e w'' => e = .returned (.int .i64 (cnt S (Z k))) ∧ w'' = wr.drewN q) := hcq
        have hck : cnt S (Z k) ≤ 1024 := by have := cnt_le S (Z k); have := hrk.1; omega
        clear hcq hrk hsk hin3 hL hS3
        generalize hM : mets (innR S T Z) k = M at *
        clear hM
        generalize cnt S (Z k) = E at *
        have hwr : IntKind.i64.wrap (T k) = T k := by rw [IntKind.wrap_i64]; omega
        have hki0 : (0 : Int) ≤ (k : Int) := by omega
        have hki1 : (k : Int) < (len : Int) := by omega
        go_wp2_with fail
        go_quiet ((go_at_call 19; exact Calls.quiet_of_same (HQ.out _)))
        by_cases hle : T k ≤ (E : Int)
        · have HE : Hid (innR S T Z k = true) := HI.out.trans (decide_eq_true hle)
          go_wp2_with fail
          go_roundg (len - (k + 1))
          case rel => exact ⟨k + 1, by omega, rfl, by go_num, by rw [HS.out, HE.out]; simp; omega, m2 + nq, by rw [HW.out]; simp⟩
          case measure => omega
        · have HE : Hid (innR S T Z k = false) := HI.out.trans (decide_eq_false hle)
          go_wp2_with fail
          go_roundg (len - (k + 1))
          case rel => exact ⟨k + 1, by omega, rfl, by go_num, by rw [HS.out, HE.out]; simp, m2 + nq, by rw [HW.out]; simp⟩
          case measure => omega
      · have hk' : k = len := by omega
        subst hk'
        go_wp2_with fail
        go_ret
        refine ⟨ret_bool ?_, ?_⟩
        · rw [← HG.out, metB]; simp
        · rw [HW.out]; exact ⟨hbel.os, hbel.tape, hbel.output, hbel.size, hbel.block⟩
end Go.Proofs.Ybulkadqm.CM
