import Derived.Test.YbulkadqmCB
import Derived.Deep.LoopGhost
namespace Go.Proofs.Ybulkadqm.CM
open Go.RowKit

theorem setAt_store {w : World} {sb : Nat} {S : List Int} (h : SetAt w sb S) (k : Nat) (hk : k < 4) (hS : S.length = 4) (z : Int) (h0 : 0 ≤ z) (h1 : z < 18446744073709551616) :
    SetAt (w.setCell ⟨sb, k, none⟩ (.int .u64 z)) sb (S.set k z) := by
  intro j hj
  by_cases e : j = k
  · subst e
    have : (S.set j z).getD j 0 = z := by simp [List.getD, hS, hj]
    rw [this]
    exact ⟨World.cell?_setCell_same _ _ _ (h j hj).1, h0, h1⟩
  · have : (S.set k z).getD j 0 = S.getD j 0 := by simp [List.getD, Ne.symm e]
    rw [this]
    exact ⟨(World.cell?_setCell_other _ _ _ _ (fun h => e (by cases h; rfl))).trans (h j hj).1, (h j hj).2⟩

theorem setAt_new (w : World) : SetAt (w.alloc (.cells #[.int .u64 0, .int .u64 0, .int .u64 0, .int .u64 0] 22)) w.heap.size [0, 0, 0, 0] := by
  intro j hj
  match j, hj with
  | 0, _ => exact ⟨by simp, by decide, by decide⟩
  | 1, _ => exact ⟨by simp, by decide, by decide⟩
  | 2, _ => exact ⟨by simp, by decide, by decide⟩
  | 3, _ => exact ⟨by simp, by decide, by decide⟩

theorem mk4 (w : World) : (Instr.makeSlice 91 (.int .i64 4) (.int .i64 4)).run Yba.prog w = .ok (.slice (some ⟨w.heap.size, 0, none⟩) 4 4) (w.alloc (.cells #[.int .u64 0, .int .u64 0, .int .u64 0, .int .u64 0] 22)) := by kernel_rfl

set_option maxHeartbeats 800000 in
theorem set_any (a : Option Addr) (len cap : Nat) (zs : List Int) (w : World) (hr : Row .u64 w a len zs) (hb : ∀ i, i < zs.length → 0 ≤ zs.getD i 0 ∧ zs.getD i 0 < 18446744073709551616) :
    Calls Yba.prog 16 #[.slice a len cap] w fun e w' => e = .returned (.slice (some ⟨w.heap.size, 0, none⟩) 4 4) ∧ (∃ S, SetAt w' w.heap.size S) ∧ Below w.heap.size w w' ∧ w.heap.size < w'.heap.size := by
  obtain ⟨hlen, hcells⟩ := hr
  have HL : Hid (len = zs.length) := hlen
  clear hlen
  have hmk := mk4
  go_enter Yba.func16, Yba.ntmps16
  go_wp2_with (first | go_in)
  go_loopg [4] 4 (fun g i wr => ∃ k : Nat, k ≤ 4 ∧ g = 4 - k ∧ i = .int .i64 k ∧ (∃ S : List Int, SetAt wr w.heap.size S ∧ S.length = 4) ∧ (∀ j, wr.frozen? ⟨w.heap.size, j, none⟩ = false) ∧ Below w.heap.size w wr ∧ w.heap.size < wr.heap.size)
  case atStart => exact ⟨0, by omega, rfl, rfl, ⟨_, setAt_new w, rfl⟩, by simp, (Below.refl _ _).alloc (Nat.le_refl _) _, by simp⟩
  case round =>
    obtain ⟨k, hk, rfl, rfl, ⟨S, hS, hS4⟩, hfz, hbel, hsz⟩ := hrel
    have HS4 : Hid (S.length = 4) := hS4
    clear hS4 hmk
    by_cases hk4 : k < 4
    · by_cases hlt : k < len
      · obtain ⟨b, off, rfl, hcell0⟩ := hcells k hlt
        have hblt : b < w.heap.size := World.block_lt_of_cell? w _ hcell0
        have hcell : wr.cell? ⟨b, off + k, none⟩ = some (.int .u64 (zs.getD k 0)) := (hbel.cell (p := ⟨b, off + k, none⟩) hblt).trans hcell0
        have hbk := hb k (by have := HL.out; omega)
        have hold := (hS k hk4).1
        have hf := hfz k
        clear hcell0 hcells hb
        generalize zs.getD k 0 = z at *
        obtain ⟨hb0, hb1⟩ := hbk
        go_wp2_with fail
        go_roundg (4 - (k + 1))
        case rel =>
          refine ⟨k + 1, by omega, rfl, by go_num, ⟨S.set k z, setAt_store hS k hk4 HS4.out z hb0 hb1, by simp [HS4.out]⟩, fun j => by rw [World.frozen?_setCell]; exact hfz j, hbel.setCell (Nat.le_refl _) _, by simpa using hsz⟩
        case measure => omega
      · go_wp2_with fail
        go_ret
        exact ⟨rfl, ⟨S, hS⟩, hbel, hsz⟩
    · have hk' : k = 4 := by omega
      subst hk'
      go_wp2_with fail
      go_ret
      exact ⟨rfl, ⟨S, hS⟩, hbel, hsz⟩
end Go.Proofs.Ybulkadqm.CM
