import Derived.Test.YbulkadqmFmtN
namespace Go.Proofs.YbulkadqmFmt.WB
open Go.RowKit Go.Extern.Stop Go.Stop Go.Extern

theorem u32_or_comm (x y : Int) : bits BinOp.or IntKind.u32 x y = bits BinOp.or IntKind.u32 y x := by
  show IntKind.u32.wrap ((BitVec.ofInt 32 x ||| BitVec.ofInt 32 y).toNat : Int) = IntKind.u32.wrap ((BitVec.ofInt 32 y ||| BitVec.ofInt 32 x).toNat : Int)
  rw [BitVec.or_comm]

theorem be32_bits2 (x0 x1 x2 x3 : Int) (b0 : 0 ≤ x0 ∧ x0 < 256) (b1 : 0 ≤ x1 ∧ x1 < 256) (b2 : 0 ≤ x2 ∧ x2 < 256) (b3 : 0 ≤ x3 ∧ x3 < 256) :
    bits BinOp.or IntKind.u32 (bits BinOp.or IntKind.u32 (bits BinOp.or IntKind.u32 (x0 * 16777216) (x1 * 65536)) (x2 * 256)) x3 = be32 x0 x1 x2 x3 := by
  have e1 : bits BinOp.or IntKind.u32 (x0 * 16777216) (x1 * 65536) = x0 * 16777216 + x1 * 65536 := by
    rw [u32_or_comm, u32_or24 (y := x1 * 65536) (x := x0 * 16777216) (by omega) (by omega) (by omega) (by omega) (by omega)]; omega
  rw [e1]
  have e2 : bits BinOp.or IntKind.u32 (x0 * 16777216 + x1 * 65536) (x2 * 256) = x0 * 16777216 + x1 * 65536 + x2 * 256 := by
    rw [u32_or_comm, u32_or16 (y := x2 * 256) (x := x0 * 16777216 + x1 * 65536) (by omega) (by omega) (by omega) (by omega) (by omega)]; omega
  rw [e2]
  rw [u32_or_comm, u32_or8 (y := x3) (x := x0 * 16777216 + x1 * 65536 + x2 * 256) (by omega) (by omega) (by omega) (by omega) (by omega)]
  unfold be32; omega

set_option maxHeartbeats 800000 in
theorem get_core (b blen c p : Nat) (x0 x1 x2 x3 : Int) (w : World) (h0 : w.cell? ⟨b, p, none⟩ = some (.int .u8 x0)) (h1 : w.cell? ⟨b, p + 1, none⟩ = some (.int .u8 x1)) (h2 : w.cell? ⟨b, p + 2, none⟩ = some (.int .u8 x2)) (h3 : w.cell? ⟨b, p + 3, none⟩ = some (.int .u8 x3))
    (b0 : 0 ≤ x0 ∧ x0 < 256) (b1 : 0 ≤ x1 ∧ x1 < 256) (b2 : 0 ≤ x2 ∧ x2 < 256) (b3 : 0 ≤ x3 ∧ x3 < 256) (hp : p + 4 ≤ blen) (hl : blen ≤ 4294967295) :
    Calls Ybaf.prog 12 #[.slice (some ⟨b, 0, none⟩) blen c, .int .i64 p] w fun e w' => e = .returned (.int .u32 (be32 x0 x1 x2 x3)) ∧ ∃ n, w' = w.drewN n := by
  have HB : Hid ((0 ≤ x0 ∧ x0 < 256) ∧ (0 ≤ x1 ∧ x1 < 256) ∧ (0 ≤ x2 ∧ x2 < 256) ∧ (0 ≤ x3 ∧ x3 < 256)) := ⟨b0, b1, b2, b3⟩
  obtain ⟨b00, b01⟩ := b0
  obtain ⟨b10, b11⟩ := b1
  obtain ⟨b20, b21⟩ := b2
  obtain ⟨b30, b31⟩ := b3
  have q0 : (0 : Int) ≤ (p : Int) := by omega
  have q1 : (p : Int) < (blen : Int) := by omega
  have q2 : (p : Int) + 1 < (blen : Int) := by omega
  have q3 : (p : Int) + 2 < (blen : Int) := by omega
  have q4 : (p : Int) + 3 < (blen : Int) := by omega
  go_enter Ybaf.func12, Ybaf.ntmps12
  go_wp2
  go_quiet (fail)
  go_wp2
  go_ret
  obtain ⟨c0, c1, c2, c3⟩ := HB.out
  exact ⟨ret_int (be32_bits2 x0 x1 x2 x3 c0 c1 c2 c3), nq, rfl⟩

/-- the bytes D in block bb, as the model reads them -/
structure Mem (w : World) (bb blen bcap : Nat) (D : List Int) : Prop where
  row : ∀ i, i < blen → w.cell? ⟨bb, i, none⟩ = some (.int .u8 (D.getD i 0))
  len : blen = D.length
  lb : blen ≤ bcap
  small : blen ≤ 4294967295
  bytes : Bytes D
theorem Mem.below {w w' : World} {bb blen bcap : Nat} {D : List Int} (h : Mem w bb blen bcap D) (hb : Below w.heap.size w w') : Mem w' bb blen bcap D :=
  ⟨fun i hi => below_keep hb (h.row i hi), h.len, h.lb, h.small, h.bytes⟩
theorem Mem.keep {w w' : World} {bb blen bcap : Nat} {D : List Int} (h : Mem w bb blen bcap D) (hb : w'.heap[bb]? = w.heap[bb]?) : Mem w' bb blen bcap D :=
  ⟨fun i hi => (World.cell?_of_block (a := ⟨bb, i, none⟩) hb).trans (h.row i hi), h.len, h.lb, h.small, h.bytes⟩

theorem get_any {bb blen bcap p : Nat} {D : List Int} {w : World} (d : Mem w bb blen bcap D) (hp : p + 4 ≤ blen) :
    Calls Ybaf.prog 12 #[.slice (some ⟨bb, 0, none⟩) blen bcap, .int .i64 p] w fun e w' => e = .returned (.int .u32 (u32At D p)) ∧ ∃ n, w' = w.drewN n := by
  have r : ∀ j, j < 4 → w.cell? ⟨bb, p + j, none⟩ = some (.int .u8 (D.getD (p + j) 0)) := fun j hj => d.row (p + j) (by omega)
  have bd : ∀ j, j < 4 → 0 ≤ D.getD (p + j) 0 ∧ D.getD (p + j) 0 < 256 := fun j hj => d.bytes (p + j) (by have := d.len; omega)
  exact get_core bb blen bcap p _ _ _ _ w (r 0 (by omega)) (r 1 (by omega)) (r 2 (by omega)) (r 3 (by omega)) (bd 0 (by omega)) (bd 1 (by omega)) (bd 2 (by omega)) (bd 3 (by omega)) hp d.small

/-- the loop of the model -/
structure MRel (bb blen bcap vb n : Nat) (D : List Int) (w wr : World) (i : Nat) : Prop where
  mem : Mem wr bb blen bcap D
  done : ∀ j, j < i → ∃ v, wr.cell? ⟨vb, j, none⟩ = some v ∧ ValIs wr (vb + 1) v (vAt D j)
  rest : ∀ j, i ≤ j → j < n → wr.cell? ⟨vb, j, none⟩ = some (.slice none 0 0)
  fz : ∀ j, wr.frozen? ⟨vb, j, none⟩ = false
  bel : Below vb w wr
  lt : vb < wr.heap.size
  vw : w.heap.size ≤ vb
  bv : bb < vb

theorem mrel_none {bb blen bcap vb n : Nat} {D : List Int} {w wr w2 : World} {i : Nat} (R : MRel bb blen bcap vb n D w wr i) (hi : i < n) (hv : vAt D i = none) (hb : Below wr.heap.size wr w2) : MRel bb blen bcap vb n D w w2 (i + 1) := by
  have hlt := R.lt
  have hcell : ∀ j, w2.cell? ⟨vb, j, none⟩ = wr.cell? ⟨vb, j, none⟩ := fun j => hb.cell (p := ⟨vb, j, none⟩) hlt
  refine ⟨R.mem.below hb, ?_, fun j hj hjn => (hcell j).trans (R.rest j (by omega) hjn), fun j => (hb.frozen (p := ⟨vb, j, none⟩) hlt).trans (R.fz j), R.bel.trans (hb.mono (by omega)), by have := hb.size; omega, R.vw, R.bv⟩
  intro j hj
  by_cases e : j = i
  · subst e
    refine ⟨.slice none 0 0, (hcell j).trans (R.rest j (Nat.le_refl _) hi), ?_⟩
    rw [hv]; rfl
  · obtain ⟨u, h1, h2⟩ := R.done j (by omega)
    exact ⟨u, (hcell j).trans h1, h2.mono (Nat.le_refl _) fun g hg hgl => hb.block g hgl⟩

theorem mrel_some {bb blen bcap vb n : Nat} {D : List Int} {w wr w2 : World} {i : Nat} (R : MRel bb blen bcap vb n D w wr i) (hi : i < n) {v : Value} (hv : ValIs w2 wr.heap.size v (vAt D i)) (hb : Below wr.heap.size wr w2) :
    MRel bb blen bcap vb n D w (w2.setCell ⟨vb, i, none⟩ v) (i + 1) := by
  have hlt := R.lt
  have hbv := R.bv
  have hsz := hb.size
  have hcell : ∀ j, w2.cell? ⟨vb, j, none⟩ = wr.cell? ⟨vb, j, none⟩ := fun j => hb.cell (p := ⟨vb, j, none⟩) hlt
  have hoth : ∀ k, k ≠ vb → (w2.setCell ⟨vb, i, none⟩ v).heap[k]? = w2.heap[k]? := fun k hk => Below.heap_setCell _ _ _ _ hk
  refine ⟨(R.mem.below hb).keep (hoth bb (by omega)), ?_, ?_, ?_, ?_, by simp; omega, R.vw, R.bv⟩
  · intro j hj
    by_cases e : j = i
    · subst e
      exact ⟨v, World.cell?_setCell_same _ _ _ ((hcell j).trans (R.rest j (Nat.le_refl _) hi)), hv.mono (by omega) fun g hg _ => hoth g (by omega)⟩
    · obtain ⟨u, h1, h2⟩ := R.done j (by omega)
      refine ⟨u, ?_, h2.mono (Nat.le_refl _) fun g hg hgl => (hoth g (by omega)).trans (hb.block g hgl)⟩
      rw [World.cell?_setCell_other _ _ _ _ (fun h => e (by cases h; rfl)), hcell]; exact h1
  · intro j hj hjn
    rw [World.cell?_setCell_other _ _ _ _ (fun h => by cases h; omega), hcell]
    exact R.rest j (by omega) hjn
  · intro j
    rw [World.frozen?_setCell]
    exact (hb.frozen (p := ⟨vb, j, none⟩) hlt).trans (R.fz j)
  · exact (R.bel.trans (hb.mono (by omega))).setCell (Nat.le_refl _) _

theorem info23 : (Ybaf.prog.info? 23).map (fun i => (i.zero, i.size, i.bytes)) = some (some (.slice none 0 0), 1, 24) := by kernel_rfl
end Go.Proofs.YbulkadqmFmt.WB
