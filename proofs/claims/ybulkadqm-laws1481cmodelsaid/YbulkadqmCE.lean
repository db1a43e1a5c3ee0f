import Derived.Test.YbulkadqmCD
namespace Go.Proofs.Ybulkadqm.CM
open Go.RowKit

/-- how many of the first n are met -/
def mets (R : Nat → Bool) : Nat → Nat
  | 0 => 0
  | n + 1 => mets R n + if R n then 1 else 0
theorem mets_le (R : Nat → Bool) : ∀ n, mets R n ≤ n
  | 0 => Nat.le_refl _
  | n + 1 => by have := mets_le R n; unfold mets; split <;> omega
theorem mets_mono (R : Nat → Bool) (j : Nat) : ∀ n, j ≤ n → mets R j ≤ mets R n
  | 0, h => by have : j = 0 := by omega
               subst this; exact Nat.le_refl _
  | n + 1, h => by
    by_cases e : j = n + 1
    · subst e; exact Nat.le_refl _
    · have := mets_mono R j n (by omega)
      have e2 : mets R (n + 1) = mets R n + if R n then 1 else 0 := rfl
      rw [e2]; omega

/-- a quorum set is met -/
def metB (th : Int) (c n : Nat) (R : Nat → Bool) : Bool := decide (th ≤ ((c + mets R n : Nat) : Int))

set_option maxHeartbeats 1600000 in
theorem met_core (qb qo : Nat) (th : Int) (va : Option Addr) (vl vc : Nat) (zs : List Int) (ia : Option Addr) (n ic : Nat) (R : Nat → Bool) (sb : Nat) (S : List Int) (w : World)
    (hc0 : w.cell? ⟨qb, qo, none⟩ = some (.int .i64 th)) (hc1 : w.cell? ⟨qb, qo + 1, none⟩ = some (.slice va vl vc)) (hc2 : w.cell? ⟨qb, qo + 2, none⟩ = some (.slice ia n ic))
    (hr : Row .i64 w va vl zs) (hb : ∀ i, i < zs.length → 0 ≤ zs.getD i 0 ∧ zs.getD i 0 < 256) (hs : SetAt w sb S) (hvl : vl ≤ 1024) (hn : n ≤ 1024) (ht1 : -128 ≤ th) (ht2 : th ≤ 127)
    (hin : ∀ i, i < n → ∃ ib io, ia = some ⟨ib, io, none⟩ ∧ ∀ q, Calls Yba.prog 18 #[.pointer (some ⟨ib, io + i * 4, none⟩), .slice (some ⟨sb, 0, none⟩) 4 4] (w.drewN q) fun e w' => e = .returned (.bool (R i)) ∧ ∃ m, w' = w.drewN m) :
    Calls Yba.prog 18 #[.pointer (some ⟨qb, qo, none⟩), .slice (some ⟨sb, 0, none⟩) 4 4] w fun e w' => e = .returned (.bool (metB th (cnt S zs) n R)) ∧ ∃ m, w' = w.drewN m := by
  obtain ⟨hlen, hcells⟩ := hr
  have HL : Hid (vl = zs.length) := hlen
  clear hlen
  have HIN := hin
  have HI : Hid (∀ i, i < n → ∃ ib io, ia = some ⟨ib, io, none⟩ ∧ ∀ q, Calls Yba.prog 18 #[.pointer (some ⟨ib, io + i * 4, none⟩), .slice (some ⟨sb, 0, none⟩) 4 4] (w.drewN q) fun e w' => e = .returned (.bool (R i)) ∧ ∃ m, w' = w.drewN m) := HIN
  clear hin HIN
  go_enter Yba.func18, Yba.ntmps18
  go_wp2_with fail
  go_loopg [5, 7, 18] vl (fun g c x i wr => ∃ k : Nat, k ≤ vl ∧ g = vl - k ∧ i = .int .i64 k ∧ c = .int .i64 (th - cnt S (zs.take k)) ∧ ∃ m, wr = w.drewN m)
  case atStart => exact ⟨0, Nat.zero_le _, rfl, rfl, by simp [cnt], 0, rfl⟩
  case round =>
    obtain ⟨k, hk, rfl, rfl, rfl, m, rfl⟩ := hrel
    have hd := cnt_le S (zs.take k)
    have hd2 : (zs.take k).length ≤ k := List.length_take_le _ _
    by_cases hlt : k < vl
    · obtain ⟨b, off, rfl, hcell⟩ := hcells k hlt
      have hbk := hb k (by have := HL.out; omega)
      have HS : Hid (cnt S (zs.take (k + 1)) = cnt S (zs.take k) + if inS S (zs.getD k 0) then 1 else 0) := cnt_succ S zs k (by have := HL.out; omega)
      generalize zs.getD k 0 = z at *
      generalize hC : cnt S (zs.take k) = D at *
      clear hC
      have hs' : SetAt (w.drewN m) sb S := fun j hj => by simpa using hs j hj
      cases hz : inS S z
      all_goals
        have HZ := hz
        clear hz
        have HZ' : Hid (inS S z = _) := HZ
        clear HZ
        go_wp2_with (go_at_call 31; refine (has_any sb S z hbk.1 hbk.2 _ hs').mono ?_; rintro e w' ⟨rfl, mm, rfl⟩; rw [HZ'.out])
        go_roundg (vl - (k + 1))
        case rel => exact ⟨k + 1, by omega, rfl, by go_num, by rw [HS.out, HZ'.out]; first | go_num | (congr 1; simp; omega), m + mm, by simp⟩
        case measure => omega
    · have hk' : k = vl := by omega
      subst hk'
      have e1 : zs.take k = zs := List.take_of_length_le (by have := HL.out; omega)
      rw [e1] at hd ⊢
      have hd3 : cnt S zs ≤ 1024 := by have := HL.out; omega
      clear hd hd2 hlt hk e1 hcells HL hb
      generalize hD : cnt S zs = D at *
      have HD : Hid (cnt S zs = D) := hD
      clear hD
      go_wp2_with fail
      go_loopg [5, 8, 33] n (fun g c x i wr => ∃ j : Nat, j ≤ n ∧ g = n - j ∧ i = .int .i64 j ∧ c = .int .i64 (th - ((D + mets R j : Nat) : Int)) ∧ ∃ m, wr = w.drewN m)
      case atStart => exact ⟨0, Nat.zero_le _, rfl, rfl, by simp [mets], m, rfl⟩
      case round =>
        obtain ⟨j, hj, rfl, rfl, rfl, m2, rfl⟩ := hrel
        have hml := mets_le R j
        have hmm := mets_mono R j n hj
        by_cases hlt : j < n
        · have HS : Hid (mets R (j + 1) = mets R j + if R j then 1 else 0) := rfl
          have HM : Hid (mets R j ≤ mets R n) := hmm
          clear hmm
          have HE : Hid (metB th D n R = decide (th ≤ ((D + mets R n : Nat) : Int))) := rfl
          generalize hM : mets R j = M at *
          clear hM
          by_cases hk0 : th - ((D + M : Nat) : Int) ≤ 0
          · have e2 : metB th D n R = true := by rw [HE.out]; have := HM.out; simp; omega
            have E2 : Hid (metB th D n R = true) := e2
            clear HI e2
            go_wp2_with fail
            go_ret
            exact ⟨ret_bool (by rw [HD.out, E2.out]), _, rfl⟩
          · obtain ⟨ib, io, rfl, hcall⟩ := HI.out j hlt
            clear HI
            have HC : Hid (∀ q, Calls Yba.prog 18 #[.pointer (some ⟨ib, io + j * 4, none⟩), .slice (some ⟨sb, 0, none⟩) 4 4] (w.drewN q) fun e w' => e = .returned (.bool (R j)) ∧ ∃ m, w' = w.drewN m) := hcall
            clear hcall
            cases hz : R j
            all_goals
              have HZ' : Hid (R j = _) := hz
              clear hz
              go_wp2_with (go_at_call 18; refine (HC.out m2).mono ?_; rintro e w' ⟨rfl, mm, rfl⟩; rw [HZ'.out])
              go_roundg (n - (j + 1))
              case rel => exact ⟨j + 1, by omega, rfl, by go_num, by rw [HS.out, HZ'.out]; first | go_num | (congr 1; simp; omega), mm, rfl⟩
              case measure => omega
        · have hjn : j = n := by omega
          subst hjn
          have HE : Hid (metB th D j R = decide (th ≤ ((D + mets R j : Nat) : Int))) := rfl
          clear HI
          go_wp2_with fail
          go_ret
          exact ⟨ret_bool (by rw [HD.out, HE.out]; simp; omega), _, rfl⟩
end Go.Proofs.Ybulkadqm.CM
