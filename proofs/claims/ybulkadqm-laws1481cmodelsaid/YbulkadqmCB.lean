import Derived.Test.YbulkadqmCA
import Derived.OwnWalk
import Derived.Laws.OwnMore
namespace Go.Proofs.Ybulkadqm.CM
open Go.RowKit

theorem info3 : (Yba.prog.info? 3).map (fun i => (i.zero, i.size, i.bytes)) = some (some (.int .i64 0), 1, 8) := by kernel_rfl
theorem info22 : (Yba.prog.info? 22).map (fun i => (i.zero, i.size, i.bytes)) = some (some (.int .u64 0), 1, 8) := by kernel_rfl

theorem take_map_succ (zs : List Int) (k : Nat) (hk : k < zs.length) (f : Int → Value) : (zs.take (k + 1)).map f = (zs.take k).map f ++ [f (zs.getD k 0)] := by
  rw [List.take_succ_eq_append_getElem hk, List.map_append, List.map_singleton]
  have : zs.getD k 0 = zs[k] := by simp [List.getD, hk]
  rw [this]

theorem row_of_owns {w : World} {base e n cap g : Nat} {zs : List Int} (h : w.ownsRow base e 1 (.slice (some ⟨g, 0, none⟩) n cap) n (zs.map (Value.int .i64))) : Row .i64 w (some ⟨g, 0, none⟩) n zs := by
  have hl : n = zs.length := by have := h.1; simpa using this.symm
  refine ⟨hl, fun i hi => ⟨g, 0, rfl, ?_⟩⟩
  rcases h.2 with ⟨h1, _⟩ | ⟨g', cap', cur, hv, _, hh, hn, _, hs, ht⟩
  · cases h1
  · cases hv
    rw [Nat.zero_add]
    have e1 := cell_of_row w g i cur e (0, 0) hh
    rw [e1]
    have hx : (zs.map (Value.int .i64))[i]? = some (.int .i64 (zs.getD i 0)) := by
      simp [List.getD, show i < zs.length by omega]
    rw [← ht, List.getElem?_take, if_pos (by omega)] at hx
    simpa using hx

set_option maxHeartbeats 800000 in
theorem vals_any (a : Option Addr) (len cap : Nat) (zs : List Int) (w : World) (hr : Row .u8 w a len zs) (hb : ∀ i, i < zs.length → 0 ≤ zs.getD i 0 ∧ zs.getD i 0 < 256) (hl : len ≤ 1024) :
    Calls Yba.prog 30 #[.slice a len cap] w fun e w' => e = .returned (.slice (some ⟨w.heap.size, 0, none⟩) len len) ∧ Row .i64 w' (some ⟨w.heap.size, 0, none⟩) len zs ∧ Below w.heap.size w w' ∧ w.heap.size < w'.heap.size := by
  obtain ⟨i0, hi, hz0, hz1, hz2⟩ := info_parts info3
  obtain ⟨hlen, hcells⟩ := hr
  have HL : Hid (len = zs.length) := hlen
  clear hlen
  go_enter Yba.func30, Yba.ntmps30
  go_wp2_with (at_make; refine wpList_make_own _ rfl _ _ 93 rfl w.heap.size 3 i0 (.int .i64 0) 1 Yba.underlying93 hi hz0 hz1 _ _ _ len rfl rfl (by omega) ?b2 ?b3 (Nat.le_refl _) ?_)
  case b2 => rw [hz2]; omega
  case b3 => unfold maxLen; omega
  intro w1 hown hgrow
  have hbel : Below w.heap.size w w1 := (Below.refl _ _).grown hgrow (Nat.le_refl _) (by intro k hk; cases hk)
  have hsz : w.heap.size < w1.heap.size := by
    have := (hown.lt w.heap.size rfl).2
    exact this
  clear hgrow
  go_wp2_with fail
  go_loopw [3, 5, 11] (fun v x i wr => ∃ k : Nat, k ≤ len ∧ i = .int .i64 k ∧ v = .slice (some ⟨w.heap.size, 0, none⟩) k len ∧ wr.ownsRow w.heap.size 3 1 (.slice (some ⟨w.heap.size, 0, none⟩) k len) k ((zs.take k).map (Value.int .i64)) ∧ Below w.heap.size w wr ∧ w.heap.size < wr.heap.size) (fun _ _ i _ => len - (intOf i).toNat)
  case atStart => exact ⟨0, Nat.zero_le _, rfl, rfl, by simpa using hown, hbel, hsz⟩
  case round =>
    clear hown hbel hsz
    obtain ⟨k, hk, rfl, rfl, hown, hbel, hsz⟩ := hrel
    by_cases hlt : k < len
    · obtain ⟨b, off, rfl, hcell0⟩ := hcells k hlt
      have hblt : b < w.heap.size := World.block_lt_of_cell? w _ hcell0
      have hcell : wr.cell? ⟨b, off + k, none⟩ = some (.int .u8 (zs.getD k 0)) := (hbel.cell (p := ⟨b, off + k, none⟩) hblt).trans hcell0
      have hbk := hb k (by have := HL.out; omega)
      have HT : Hid ((zs.take (k + 1)).map (Value.int .i64) = (zs.take k).map (Value.int .i64) ++ [Value.int .i64 (zs.getD k 0)]) := take_map_succ zs k (by have := HL.out; omega) _
      clear hcell0 hcells hb
      generalize zs.getD k 0 = z at *
      obtain ⟨hb0, hb1⟩ := hbk
      go_wp2_with (at_builtin; refine wpList_append_fits _ rfl (.tmp 15) (.tmp 18) 93 rfl w.heap.size 3 i0 1 Yba.underlying93 hi hz1 w.heap.size k len _ rfl (hown.alloc _) ⟨wr.heap.size, 0, none⟩ 1 1 [.int .i64 z] rfl rfl (by intro t u ht; match t, ht with | 0, ht => simp at ht; subst ht; simp [Addr.add]) (by intro u hu; simp at hu; subst hu; rfl) (by omega) ?_; intro w2 hown2 hgrow2)
      go_wp2_with fail
      go_roundw
      case rel =>
        refine ⟨k + 1, by omega, by go_num, rfl, ?_, ?_, ?_⟩
        · rw [HT.out]; exact hown2
        · exact (hbel.alloc (by omega) _).grown hgrow2 (by simp; omega) (by intro j hj; cases hj; omega)
        · have := hgrow2.size; simp at this; omega
      case measure => simp [intOf]; omega
    · have hk' : k = len := by omega
      subst hk'
      go_wp2_with fail
      go_ret
      have e : zs.take k = zs := List.take_of_length_le (by have := HL.out; omega)
      rw [e] at hown
      exact ⟨rfl, row_of_owns hown, hbel, hsz⟩
end Go.Proofs.Ybulkadqm.CM
