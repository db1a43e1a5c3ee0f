import Derived.Test.YbulkadqmProg
import Derived.Test.YbulkadqmCPlain
import Derived.WalkKit
import Derived.WalkSpells
import Derived.WalkLawsBesides
import Derived.Deep.QuietTactic
import Derived.BigQuiet
import Derived.KernelRfl
import Derived.Outline
namespace Go.Proofs.Ybulkadqm.CM
open Go.RowKit

/-- the elements of a slice of integers: they are zs, in w -/
def Row (k : IntKind) (w : World) (a : Option Addr) (len : Nat) (zs : List Int) : Prop :=
  len = zs.length ∧ ∀ i, i < len → ∃ b off, a = some ⟨b, off, none⟩ ∧ w.cell? ⟨b, off + i, none⟩ = some (.int k (zs.getD i 0))

/-- the words of a set, in block sb of w -/
def SetAt (w : World) (sb : Nat) (S : List Int) : Prop :=
  ∀ j, j < 4 → w.cell? ⟨sb, j, none⟩ = some (.int .u64 (S.getD j 0)) ∧ 0 ≤ S.getD j 0 ∧ S.getD j 0 < 18446744073709551616

theorem ret_bool {a b : Bool} (h : a = b) : Ending.returned (.bool a) = .returned (.bool b) := by rw [h]
theorem ret_int {k : IntKind} {a b : Int} (h : a = b) : Ending.returned (.int k a) = .returned (.int k b) := by rw [h]

set_option maxHeartbeats 400000 in
theorem has_core (b : Nat) (x : Int) (v : Nat) (hv : v < 256) (w : World) (hx0 : 0 ≤ x) (hx1 : x < 18446744073709551616)
   (hc : w.cell? ⟨b, v / 64, none⟩ = some (.int .u64 x)) :
    Calls Yba.prog 31 #[.slice (some ⟨b, 0, none⟩) 4 4, .int .i64 (v : Int)] w fun e w' => e = .returned (.bool (bitAt x (v % 64))) ∧ ∃ n, w' = w.drewN n := by
  have h1 : (v : Int) / 64 < 4 := by omega
  have h2 : (0 : Int) ≤ (v : Int) / 64 := by omega
  go_enter Yba.func31, Yba.ntmps31
  go_wp2
  go_quiet (fail)
  go_wp2
  go_ret
  exact ⟨ret_bool (bit_and_pow x (v % 64) (by omega) hx0 hx1), nq, rfl⟩

theorem has_any (b : Nat) (S : List Int) (v : Int) (h0 : 0 ≤ v) (h1 : v < 256) (w : World) (hs : SetAt w b S) :
    Calls Yba.prog 31 #[.slice (some ⟨b, 0, none⟩) 4 4, .int .i64 v] w fun e w' => e = .returned (.bool (inS S v)) ∧ ∃ n, w' = w.drewN n := by
  obtain ⟨n, rfl⟩ := Int.eq_ofNat_of_zero_le h0
  have h := hs (n / 64) (by omega)
  exact has_core b _ n (by omega) w h.2.1 h.2.2 h.1

set_option maxHeartbeats 400000 in
theorem cin_core (b : Nat) (x : Int) (v : Nat) (hv : v < 256) (w : World) (hx0 : 0 ≤ x) (hx1 : x < 18446744073709551616)
   (hc : w.cell? ⟨b, v / 64, none⟩ = some (.int .u64 x)) :
    Calls Yba.prog 32 #[.slice (some ⟨b, 0, none⟩) 4 4, .int .i64 (v : Int)] w fun e w' => e = .returned (.bool (bitAt x (v % 64))) ∧ w' = w := by
  have hb := and63 v hv
  go_enter Yba.func32, Yba.ntmps32
  go_wp2
  go_ret
  exact ⟨ret_bool (bit_shr_one x (v % 64) hx0 hx1), rfl⟩

theorem cin_any (b : Nat) (S : List Int) (v : Int) (h0 : 0 ≤ v) (h1 : v < 256) (w : World) (hs : SetAt w b S) :
    Calls Yba.prog 32 #[.slice (some ⟨b, 0, none⟩) 4 4, .int .i64 v] w fun e w' => e = .returned (.bool (inS S v)) ∧ w' = w := by
  obtain ⟨n, rfl⟩ := Int.eq_ofNat_of_zero_le h0
  have h := hs (n / 64) (by omega)
  exact cin_core b _ n (by omega) w h.2.1 h.2.2 h.1

set_option maxHeartbeats 800000 in
theorem count_any (sb : Nat) (S : List Int) (a : Option Addr) (len cap : Nat) (zs : List Int) (w : World) (hs : SetAt w sb S) (hr : Row .u8 w a len zs) (hb : ∀ i, i < zs.length → 0 ≤ zs.getD i 0 ∧ zs.getD i 0 < 256) (hl : len ≤ 1024) :
    Calls Yba.prog 19 #[.slice (some ⟨sb, 0, none⟩) 4 4, .slice a len cap] w fun e w' => e = .returned (.int .i64 (cnt S zs)) ∧ w' = w := by
  obtain ⟨hlen, hcells⟩ := hr
  have HL : Hid (len = zs.length) := hlen
  clear hlen
  go_enter Yba.func19, Yba.ntmps19
  go_wp2_with fail
  go_loop [5, 7, 10] (fun c x i => ∃ k : Nat, k ≤ len ∧ i = .int .i64 k ∧ c = .int .i64 (cnt S (zs.take k))) (fun _ _ i => len - (intOf i).toNat)
  case atStart => exact ⟨0, Nat.zero_le _, rfl, rfl⟩
  case round =>
    obtain ⟨k, hk, rfl, rfl⟩ := hrel
    have hd := cnt_le S (zs.take k)
    have hd2 : (zs.take k).length ≤ k := List.length_take_le _ _
    by_cases hlt : k < len
    · obtain ⟨b, off, rfl, hcell⟩ := hcells k hlt
      have hbk := hb k (by have := HL.out; omega)
      have HS : Hid (cnt S (zs.take (k + 1)) = cnt S (zs.take k) + if inS S (zs.getD k 0) then 1 else 0) := cnt_succ S zs k (by have := HL.out; omega)
      generalize zs.getD k 0 = z at *
      generalize hC : cnt S (zs.take k) = C at *
      clear hC
      cases hz : inS S z
      all_goals
        have HZ := hz
        clear hz
        have HZ' : Hid (inS S z = _) := HZ
        clear HZ
        go_wp2_with (go_at_call 32; refine (cin_any sb S z hbk.1 hbk.2 _ hs).mono ?_; rintro e w' ⟨rfl, rfl⟩; rw [HZ'.out])
        go_round
        case rel => exact ⟨k + 1, by omega, by go_num, by rw [HS.out, HZ'.out]; first | rfl | go_num⟩
        case measure => simp [intOf]; omega
    · have hk' : k = len := by omega
      go_wp2_with fail
      go_ret
      exact ⟨ret_int (by rw [List.take_of_length_le (by have := HL.out; omega)]), rfl⟩
end Go.Proofs.Ybulkadqm.CM
