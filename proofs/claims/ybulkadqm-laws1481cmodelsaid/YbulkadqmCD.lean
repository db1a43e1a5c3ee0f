import Derived.Test.YbulkadqmCC
namespace Go.Proofs.Ybulkadqm.CM
open Go.RowKit

/-- a slice of structs (Threshold int8, Vals []uint8) that came in -/
structure Inn (w : World) (a : Option Addr) (len : Nat) (T : Nat → Int) (A : Nat → Option Addr) (L C : Nat → Nat) (Z : Nat → List Int) : Prop where
  cells : ∀ i, i < len → ∃ b off, a = some ⟨b, off, none⟩ ∧ w.cell? ⟨b, off + i * 2, none⟩ = some (.int .i8 (T i)) ∧ w.cell? ⟨b, off + i * 2 + 1, none⟩ = some (.slice (A i) (L i) (C i))
  row : ∀ i, i < len → Row .u8 w (A i) (L i) (Z i)
  small : ∀ i, i < len → ∀ j, j < (Z i).length → 0 ≤ (Z i).getD j 0 ∧ (Z i).getD j 0 < 256
  th : ∀ i, i < len → -128 ≤ T i ∧ T i ≤ 127

/-- what 'zzs1481cbig' answers -/
def BigPost (len0 len : Nat) (L : Nat → Nat) (e : Ending) : Prop := ∃ r, e = .returned (.bool r) ∧ (r = false → len0 ≤ 1024 ∧ len ≤ 1024 ∧ ∀ i, i < len → L i ≤ 1024)

set_option maxHeartbeats 800000 in
theorem big_any (a0 : Option Addr) (len0 cap0 : Nat) (a : Option Addr) (len cap : Nat) (T : Nat → Int) (A : Nat → Option Addr) (L C : Nat → Nat) (Z : Nat → List Int) (w : World) (hin : Inn w a len T A L C Z) :
    Calls Yba.prog 15 #[.slice a0 len0 cap0, .slice a len cap] w fun e w' => BigPost len0 len L e ∧ w' = w := by
  have hcells := hin.cells
  clear hin
  by_cases h0 : 1024 < len0
  · go_enter Yba.func15, Yba.ntmps15
    go_wp2_with fail
    go_ret
    exact ⟨⟨true, rfl, by simp⟩, rfl⟩
  by_cases h1 : 1024 < len
  · have h0' : len0 ≤ 1024 := by omega
    clear h0
    go_enter Yba.func15, Yba.ntmps15
    go_wp2_with fail
    go_ret
    exact ⟨⟨true, rfl, by simp⟩, rfl⟩
  have h0' : len0 ≤ 1024 := by omega
  have h1' : len ≤ 1024 := by omega
  clear h0 h1
  go_enter Yba.func15, Yba.ntmps15
  go_wp2_with fail
  go_loop [5, 16] (fun _ i => ∃ k : Nat, k ≤ len ∧ i = .int .i64 k ∧ ∀ j, j < k → L j ≤ 1024) (fun _ i => len - (intOf i).toNat)
  case atStart => exact ⟨0, Nat.zero_le _, rfl, by intro j hj; omega⟩
  case round =>
    obtain ⟨k, hk, rfl, hall⟩ := hrel
    by_cases hlt : k < len
    · obtain ⟨b, off, rfl, _, hcell⟩ := hcells k hlt
      by_cases hL : 1024 < L k
      · clear hall hcells
        go_wp2_with fail
        go_ret
        exact ⟨⟨true, rfl, by simp⟩, rfl⟩
      · have hL' : L k ≤ 1024 := by omega
        clear hcells hL
        have HA : Hid (∀ j, j < k → L j ≤ 1024) := hall
        clear hall
        go_wp2_with fail
        go_round
        case rel =>
          refine ⟨k + 1, by omega, by go_num, ?_⟩
          intro j hj
          by_cases e : j = k
          · subst e; exact hL'
          · exact HA.out j (by omega)
        case measure => simp [intOf]; omega
    · have hk' : k = len := by omega
      subst hk'
      have HA : Hid (∀ j, j < k → L j ≤ 1024) := hall
      clear hall hcells
      go_wp2_with fail
      go_ret
      exact ⟨⟨false, rfl, fun _ => ⟨h0', h1', HA.out⟩⟩, rfl⟩
end Go.Proofs.Ybulkadqm.CM
