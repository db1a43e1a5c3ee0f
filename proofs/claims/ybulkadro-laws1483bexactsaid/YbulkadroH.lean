import Derived.Test.YbulkadroG
import Derived.Deep.OwnRows
import Derived.Deep.LoopGhost
namespace Go.Proofs.Ybulkadro.WB
open Go.RowKit

/-- the elements of a slice of bytes: they are zs, in w -/
def Row (w : World) (a : Option Addr) (len : Nat) (zs : Nat → Int) : Prop :=
  ∀ i, i < len → (∃ b off, a = some ⟨b, off, none⟩ ∧ w.cell? ⟨b, off + i, none⟩ = some (.int .u8 (zs i))) ∧ Byte (zs i)
theorem info5 : (Yba.prog.info? 5).map (fun i => (i.zero, i.size, i.bytes)) = some (some (.int .u8 0), 1, 1) := by kernel_rfl
theorem info39 : (Yba.prog.info? 39).map (fun i => (i.zero, i.size, i.bytes)) = some (some (.int .u16 0), 1, 2) := by kernel_rfl

/-- where the regions begin, in units -/
def st (zs : Nat → Int) : Nat → Nat
  | 0 => 0
  | i + 1 => st zs i + (zs i % 3).toNat
theorem st_le (zs : Nat → Int) : ∀ i, st zs i ≤ 2 * i
  | 0 => Nat.le_refl _
  | i + 1 => by have := st_le zs i; show st zs i + (zs i % 3).toNat ≤ _; omega
theorem st_mono (zs : Nat → Int) (i : Nat) : st zs i ≤ st zs (i + 1) := Nat.le_add_right _ _
theorem st_mono' (zs : Nat → Int) (i k : Nat) (h : i ≤ k) : st zs i ≤ st zs k := by
  induction k with
  | zero => have : i = 0 := by omega
            subst this; exact Nat.le_refl _
  | succ k ih =>
    by_cases e : i = k + 1
    · subst e; exact Nat.le_refl _
    · exact Nat.le_trans (ih (by omega)) (st_mono zs k)

/-- the first loop's state -/
structure Q1 (w : World) (len : Nat) (zs : Nat → Int) (k : Nat) (wr : World) : Prop where
  bel : Below w.heap.size w wr
  size : wr.heap.size = w.heap.size + 1
  cell : ∀ j, j ≤ len → wr.cell? ⟨w.heap.size, j, none⟩ = some (.int .u16 (if j ≤ k then (st zs j : Int) else 0))
  fz : ∀ j, wr.frozen? ⟨w.heap.size, j, none⟩ = false
/-- the second loop's state -/
structure Q2 (w : World) (n : Nat) (D : Nat → Int) (k : Nat) (wr : World) : Prop where
  bel : Below w.heap.size w wr
  size : wr.heap.size = w.heap.size + 1
  cell : ∀ j, j < n → wr.cell? ⟨w.heap.size, j, none⟩ = some (.int .u8 (if j < k then D j else 0))
  fz : ∀ j, wr.frozen? ⟨w.heap.size, j, none⟩ = false

theorem made_cell (w : World) (z : Value) (n : Nat) (e : TypeId) (j : Nat) (hj : j < n) : (w.alloc (.cells (madeCells #[z] n) e)).cell? ⟨w.heap.size, j, none⟩ = some z :=
  (World.rowIs_made w z n e).cell hj

theorem Q1.start (w : World) (len : Nat) (zs : Nat → Int) : Q1 w len zs 0 (w.alloc (.cells (madeCells #[.int .u16 0] (len + 1)) 39)) := by
  refine ⟨(Below.refl _ _).alloc (Nat.le_refl _) _, by simp, fun j hj => ?_, fun j => by simp⟩
  rw [made_cell w (.int .u16 0) (len + 1) 39 j (by omega)]
  split
  · next h => have : j = 0 := by omega
              subst this; rfl
  · rfl
theorem Q1.next {w wr : World} {len : Nat} {zs : Nat → Int} {k : Nat} (h : Q1 w len zs k wr) : Q1 w len zs (k + 1) (wr.setCell ⟨w.heap.size, k + 1, none⟩ (.int .u16 (st zs (k + 1) : Int))) := by
  refine ⟨h.bel.setCell (Nat.le_refl _) _, by simpa using h.size, fun j hj => ?_, fun j => by rw [World.frozen?_setCell]; exact h.fz j⟩
  by_cases e : j = k + 1
  · subst e
    rw [World.cell?_setCell_same _ _ _ (h.cell (k + 1) (by omega)), if_pos (Nat.le_refl _)]
  · rw [World.cell?_setCell_other _ _ _ _ (fun e' => e (by cases e'; rfl)), h.cell j hj]
    by_cases h1 : j ≤ k
    · rw [if_pos h1, if_pos (by omega)]
    · rw [if_neg h1, if_neg (by omega)]
theorem Q2.start (w : World) (n : Nat) (D : Nat → Int) : Q2 w n D 0 (w.alloc (.cells (madeCells #[.int .u8 0] n) 5)) := by
  refine ⟨(Below.refl _ _).alloc (Nat.le_refl _) _, by simp, fun j hj => ?_, fun j => by simp⟩
  rw [made_cell w (.int .u8 0) n 5 j hj, if_neg (by omega)]
theorem Q2.next {w wr : World} {n : Nat} {D : Nat → Int} {k : Nat} (h : Q2 w n D k wr) : Q2 w n D (k + 1) (wr.setCell ⟨w.heap.size, k, none⟩ (.int .u8 (D k))) := by
  refine ⟨h.bel.setCell (Nat.le_refl _) _, by simpa using h.size, fun j hj => ?_, fun j => by rw [World.frozen?_setCell]; exact h.fz j⟩
  by_cases e : j = k
  · subst e
    rw [World.cell?_setCell_same _ _ _ (h.cell j hj), if_pos (by omega)]
  · rw [World.cell?_setCell_other _ _ _ _ (fun e' => e (by cases e'; rfl)), h.cell j hj]
    by_cases h1 : j < k
    · rw [if_pos h1, if_pos (by omega)]
    · rw [if_neg h1, if_neg (by omega)]

/-- the bytes that build lays -/
def dat (len1 : Nat) (zs1 : Nat → Int) (j : Nat) : Int := if len1 = 0 then ((j : Int) * 7 + 1) % 256 else zs1 (j % len1)

theorem built_end {w w1 wr : World} {k n : Nat} {z0 D : Nat → Int} (h1 : Q1 w k z0 k w1) (h2 : Q2 w1 n D n wr) (hn : n = 8 * st z0 k) (hk : k ≤ 1024) (hD : ∀ j, Byte (D j)) :
    Built (wr.alloc (.cells #[.slice (some ⟨w1.heap.size, 0, none⟩) n n, .int .i64 0] 42)) wr.heap.size w.heap.size w1.heap.size k n (st z0) D ∧ Below w.heap.size w (wr.alloc (.cells #[.slice (some ⟨w1.heap.size, 0, none⟩) n n, .int .i64 0] 42)) := by
  have hsl := st_le z0 k
  refine ⟨⟨(World.cell?_alloc_at _ _ _ _ rfl).trans rfl, fun j hj => ?_, fun j hj => ⟨?_, hD j⟩, fun j _ => st_mono z0 j, fun j hj => ?_, by omega, hk⟩, ?_⟩
  · refine alloc_keep _ (below_keep h2.bel ?_)
    rw [h1.cell j hj, if_pos hj]
  · refine alloc_keep _ ?_
    rw [Nat.zero_add, h2.cell j hj, if_pos hj]
  · have := st_mono' z0 j k hj; omega
  · refine Below.alloc (h1.bel.trans (h2.bel.mono ?_)) ?_ _
    · rw [h1.size]; omega
    · rw [h2.size, h1.size]; omega
theorem dat_byte {w : World} {a1 : Option Addr} {len1 : Nat} {z1 : Nat → Int} (h : Row w a1 len1 z1) (j : Nat) : Byte (dat len1 z1 j) := by
  unfold dat
  split
  · constructor <;> omega
  · exact (h _ (Nat.mod_lt _ (by omega))).2

set_option maxRecDepth 100000 in
set_option maxHeartbeats 3200000 in
theorem build_walk (a0 a1 : Option Addr) (len0 cap0 len1 cap1 : Nat) (z0 z1 : Nat → Int) (w : World) (h0 : Row w a0 len0 z0) (h1 : Row w a1 len1 z1) (hl : len0 ≤ 1024) (hl1 : len1 ≤ 9223372036854775807) :
    Calls Yba.prog 9 #[.slice a0 len0 cap0, .slice a1 len1 cap1] w fun e w' => ∃ sp gs gd n, e = .returned (.tuple #[.pointer (some ⟨sp, 0, none⟩), .slice (some ⟨gs, 0, none⟩) (len0 + 1) (len0 + 1)]) ∧ Built w' sp gs gd len0 n (st z0) (dat len1 z1) ∧ Below w.heap.size w w' := by
  have hmk := run_make_row' (P := Yba.prog) 36 39 (.int .u16 0) 2 Yba.underlying36 info39 rfl .i64 .i64 (len0 + 1) (by omega) (by omega)
  rw [show ((len0 + 1 : Nat) : Int) = (len0 : Int) + 1 from by omega] at hmk
  have HB : Hid (∀ j, Byte (dat len1 z1 j)) := dat_byte h1
  go_enter Yba.func9, Yba.ntmps9
  go_wp2_with fail
  clear hmk
  go_loopg [7, 8, 18] len0 (fun g x y i wr => ∃ k : Nat, k ≤ len0 ∧ g = len0 - k ∧ i = .int .i64 k ∧ Q1 w len0 z0 k wr)
  case atStart => exact ⟨0, Nat.zero_le _, rfl, rfl, Q1.start w len0 z0⟩
  case round =>
    obtain ⟨k, hk, rfl, rfl, hq⟩ := hrel
    by_cases hlt : k < len0
    · obtain ⟨⟨b, off, rfl, hcell0⟩, hz0, hz1⟩ := h0 k hlt
      have hcell : wr.cell? ⟨b, off + k, none⟩ = some (.int .u8 (z0 k)) := (hq.bel.cell (p := ⟨b, off + k, none⟩) (World.block_lt_of_cell? w _ hcell0)).trans hcell0
      have hsk : wr.cell? ⟨w.heap.size, k, none⟩ = some (.int .u16 (st z0 k : Int)) := by rw [hq.cell k hk, if_pos (Nat.le_refl _)]
      have hsn : wr.cell? ⟨w.heap.size, k + 1, none⟩ = some (.int .u16 0) := by rw [hq.cell (k + 1) (by omega), if_neg (by omega)]
      have hf := hq.fz (k + 1)
      have hsl := st_le z0 k
      have HV : Hid ((st z0 (k + 1) : Int) = st z0 k + z0 k % 3) := by show ((st z0 k + (z0 k % 3).toNat : Nat) : Int) = _; omega
      have HQ : Hid (Q1 w len0 z0 k wr) := hq
      clear hq h0 h1 hcell0
      go_wp2_with fail
      go_roundg (len0 - (k + 1))
      case rel =>
        refine ⟨k + 1, by omega, rfl, by go_num, ?_⟩
        have h2 := HQ.out.next
        rw [HV.out] at h2
        exact h2
      case measure => omega
    · have hk' : k = len0 := by omega
      subst hk'
      clear hlt
      have hsk : wr.cell? ⟨w.heap.size, k, none⟩ = some (.int .u16 (st z0 k : Int)) := by rw [hq.cell k hk, if_pos (Nat.le_refl _)]
      have hsl := st_le z0 k
      obtain ⟨n, hn⟩ : ∃ n, n = 8 * st z0 k := ⟨_, rfl⟩
      have hni : (8 * (st z0 k : Int)) = (n : Int) := by omega
      have hmk := run_make_row' (P := Yba.prog) 34 5 (.int .u8 0) 1 Yba.underlying34 info5 rfl .i64 .i64 n (by omega) (by omega)
      have HN : Hid (n = 8 * st z0 k) := hn
      clear hn
      have hn1 : n ≤ 16384 := by have := HN.out; omega
      have HQ : Hid (Q1 w k z0 k wr) := hq
      have h1' : Row wr a1 len1 z1 := fun i hi => by
        obtain ⟨⟨b, off, e, hc⟩, hb⟩ := h1 i hi
        exact ⟨⟨b, off, e, (hq.bel.cell (p := ⟨b, off + i, none⟩) (World.block_lt_of_cell? w _ hc)).trans hc⟩, hb⟩
      clear h0 h1 hq
      generalize wr = w1 at *
      go_wp2_with fail
      clear hmk hsk hni
      go_loopg [11, 47] n (fun g x i wr => ∃ j : Nat, j ≤ n ∧ g = n - j ∧ i = .int .i64 j ∧ Q2 w1 n (dat len1 z1) j wr)
      case atStart => exact ⟨0, Nat.zero_le _, rfl, rfl, Q2.start w1 n _⟩
      case round =>
        obtain ⟨j, hj, rfl, rfl, hq⟩ := hrel
        by_cases hlt : j < n
        · have hsn : wr.cell? ⟨w1.heap.size, j, none⟩ = some (.int .u8 0) := by rw [hq.cell j hlt, if_neg (by omega)]
          have hf := hq.fz j
          have HQ2 : Hid (Q2 w1 n (dat len1 z1) j wr) := hq
          by_cases hz : len1 = 0
          · subst hz
            have HV : Hid (dat 0 z1 j = ((j : Int) * 7 + 1) % 256) := rfl
            clear h1' hq
            go_wp2_with fail
            go_roundg (n - (j + 1))
            case rel =>
              refine ⟨j + 1, by omega, rfl, by go_num, ?_⟩
              have h2 := HQ2.out.next
              rw [HV.out] at h2
              exact h2
            case measure => omega
          · obtain ⟨q, hqd⟩ : ∃ q, q = j % len1 := ⟨_, rfl⟩
            have hql : q < len1 := by rw [hqd]; exact Nat.mod_lt _ (by omega)
            obtain ⟨⟨b, off, rfl, hcell0⟩, hb0, hb1⟩ := h1' q hql
            have hcell : wr.cell? ⟨b, off + q, none⟩ = some (.int .u8 (z1 q)) := (hq.bel.cell (p := ⟨b, off + q, none⟩) (World.block_lt_of_cell? w1 _ hcell0)).trans hcell0
            have HV : Hid (dat len1 z1 j = z1 q) := by show (if len1 = 0 then _ else _) = _; rw [if_neg hz, hqd]
            have hqi : (j : Int) % (len1 : Int) = (q : Int) := by rw [hqd]; exact (Int.natCast_emod j len1).symm
            have hpos : 0 < len1 := by omega
            clear h1' hq hqd hz hcell0
            go_wp2_with fail
            go_roundg (n - (j + 1))
            case rel =>
              refine ⟨j + 1, by omega, rfl, by go_num, ?_⟩
              have h2 := HQ2.out.next
              rw [HV.out] at h2
              exact h2
            case measure => omega
        · have hj' : j = n := by omega
          subst hj'
          clear hlt
          have HQ2 : Hid (Q2 w1 j (dat len1 z1) j wr) := hq
          clear hq
          go_wp2_with fail
          obtain ⟨hbu, hbe⟩ := built_end HQ.out HQ2.out HN.out hl HB.out
          exact bodyPost_ret (v := .tuple #[.pointer (some ⟨wr.heap.size, 0, none⟩), .slice (some ⟨w.heap.size, 0, none⟩) (k + 1) (k + 1)]) (by simp [results, Yba.results9, go_sem]) rfl ⟨_, _, _, _, rfl, hbu, hbe⟩
end Go.Proofs.Ybulkadro.WB
