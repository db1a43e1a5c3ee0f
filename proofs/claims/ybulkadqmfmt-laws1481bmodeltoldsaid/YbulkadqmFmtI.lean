import Derived.Test.YbulkadqmFmtH
namespace Go.Proofs.YbulkadqmFmt.WB
open Go.RowKit Go.Extern.Stop Go.Stop Go.Extern

/-- a step of the decoder at db: its own block, and new blocks, alone have turned -/
structure Step (db : Nat) (w w' : World) : Prop where
  g : w.grownBy w' (some db)
  c0 : w'.cell? ⟨db, 0, none⟩ = w.cell? ⟨db, 0, none⟩
  fz : ∀ j, w'.frozen? ⟨db, j, none⟩ = w.frozen? ⟨db, j, none⟩

theorem Step.refl (db : Nat) (w : World) : Step db w w := ⟨⟨rfl, rfl, rfl, Nat.le_refl _, fun _ _ _ => rfl⟩, rfl, fun _ => rfl⟩
theorem Step.trans {db : Nat} {a b c : World} (h : Step db a b) (k : Step db b c) : Step db a c :=
  ⟨⟨k.g.os.trans h.g.os, k.g.tape.trans h.g.tape, k.g.output.trans h.g.output, Nat.le_trans h.g.size k.g.size, fun i hi hne => (k.g.block i (Nat.lt_of_lt_of_le hi h.g.size) hne).trans (h.g.block i hi hne)⟩, k.c0.trans h.c0, fun j => (k.fz j).trans (h.fz j)⟩
theorem Step.of_below {db : Nat} {w w' : World} (h : Below w.heap.size w w') (hdb : db < w.heap.size) : Step db w w' :=
  ⟨⟨h.os, h.tape, h.output, h.size, fun k hk _ => h.block k hk⟩, h.cell (p := ⟨db, 0, none⟩) hdb, fun j => h.frozen (p := ⟨db, j, none⟩) hdb⟩
theorem Step.of_fail {db : Nat} {w w' : World} (h : FailW db w w') (hdb : db < w.heap.size) : Step db w w' :=
  ⟨h.grown, h.cell hdb (by decide), fun j => h.frozen hdb j⟩
theorem Step.of_set {db : Nat} {w : World} (v : Value) : Step db w (w.setCell ⟨db, 1, none⟩ v) :=
  ⟨⟨rfl, rfl, rfl, by simp, fun k _ hne => Below.heap_setCell _ _ _ _ (fun e => hne (by rw [e]))⟩, World.cell?_setCell_other _ _ _ _ (fun e => by cases e), fun j => by rw [World.frozen?_setCell]⟩
theorem Step.drewN {db : Nat} {w w' : World} (h : Step db w w') (n : Nat) : Step db w (w'.drewN n) := ⟨⟨h.g.os, h.g.tape, h.g.output, h.g.size, h.g.block⟩, h.c0, h.fz⟩
theorem Step.cell {db : Nat} {w w' : World} (h : Step db w w') {p : Addr} {v : Value} (hc : w.cell? p = some v) (hne : p.block ≠ db) : w'.cell? p = some v :=
  (World.cell?_of_block (h.g.block p.block (World.block_lt_of_cell? w p hc) (fun e => hne (by cases e; rfl)))).trans hc

theorem Dec.lt {w : World} {db bb blen bcap : Nat} {D : List Int} {p : Nat} {ev : Value} (h : Dec w db bb blen bcap D p ev) : db < w.heap.size := World.block_lt_of_cell? w _ h.c0
theorem Dec.step {w w' : World} {db bb blen bcap : Nat} {D : List Int} {p p' : Nat} {ev ev' : Value} (h : Dec w db bb blen bcap D p ev) (s : Step db w w') (h1 : w'.cell? ⟨db, 1, none⟩ = some (.int .i64 p')) (h2 : w'.cell? ⟨db, 2, none⟩ = some ev') (hp : p' ≤ blen) :
    Dec w' db bb blen bcap D p' ev' where
  c0 := s.c0.trans h.c0
  c1 := h1
  c2 := h2
  f1 := (s.fz 1).trans h.f1
  f2 := (s.fz 2).trans h.f2
  row := fun i hi => s.cell (h.row i hi) h.ne
  len := h.len
  ne := h.ne
  lb := h.lb
  cb := h.cb
  small := h.small
  bytes := h.bytes
  at_ := hp
theorem Dec.below {w w' : World} {db bb blen bcap : Nat} {D : List Int} {p : Nat} {ev : Value} (h : Dec w db bb blen bcap D p ev) (s : Below w.heap.size w w') : Dec w' db bb blen bcap D p ev :=
  h.step (Step.of_below s h.lt) ((s.cell (p := ⟨db, 1, none⟩) h.lt).trans h.c1) ((s.cell (p := ⟨db, 2, none⟩) h.lt).trans h.c2) h.at_

theorem nextD_ok {db bb blen bcap p : Nat} {D : List Int} {w : World} (d : Dec w db bb blen bcap D p .nilIface) (n : Nat) (h1 : p + n ≤ blen) :
    Calls Ybaf.prog 17 #[.pointer (some ⟨db, 0, none⟩), .int .i64 n] w fun e w' => (∃ a c, e = .returned (.slice (some a) n c) ∧ (0 < n → a = ⟨bb, p, none⟩)) ∧ Dec w' db bb blen bcap D (p + n) .nilIface ∧ Step db w w' := by
  refine (next_ok db bb blen bcap p n w d.c0 d.c1 d.c2 d.f1 h1 d.small d.lb).mono ?_
  rintro e w' ⟨h, m, rfl⟩
  have s : Step db w ((w.setCell ⟨db, 1, none⟩ (.int .i64 ((p + n : Nat) : Int))).drewN m) := (Step.of_set _).drewN m
  exact ⟨h, d.step s (World.cell?_setCell_same _ _ _ d.c1) ((World.cell?_setCell_other _ _ _ _ (fun e => by cases e)).trans d.c2) h1, s⟩

theorem nextD_short {F : Interp} {db bb blen bcap p : Nat} {D : List Int} {w : World} (d : Dec w db bb blen bcap D p .nilIface) (hF : F.answers w.tape) (n : Nat) (h1 : blen < p + n) :
    Calls Ybaf.prog 17 #[.pointer (some ⟨db, 0, none⟩), .int .i64 n] w fun e w' => e = .returned (.slice none 0 0) ∧ (∃ q, Dec w' db bb blen bcap D p (.iface 61 (.pointer (some q)))) ∧ Step db w w' := by
  refine (next_short F db bb blen bcap p n w hF d.c0 d.c1 d.c2 d.f2 d.at_ (by omega) d.small).mono ?_
  rintro e w' ⟨rfl, w1, hb, hfw⟩
  have d1 := d.below hb
  obtain ⟨q, hq⟩ := hfw.err d1.c2
  have s := Step.of_fail hfw d1.lt
  exact ⟨rfl, ⟨q, d1.step s ((hfw.cell d1.lt (by decide)).trans d1.c1) hq d1.at_⟩, (Step.of_below hb d.lt).trans s⟩

/-- the number at offset p -/
def u32At (D : List Int) (p : Nat) : Int := be32 (D.getD p 0) (D.getD (p + 1) 0) (D.getD (p + 2) 0) (D.getD (p + 3) 0)
theorem u32At_bd {D : List Int} (h : Bytes D) {p : Nat} (hp : p + 4 ≤ D.length) : 0 ≤ u32At D p ∧ u32At D p < 4294967296 := by
  have b0 := h p (by omega)
  have b1 := h (p + 1) (by omega)
  have b2 := h (p + 2) (by omega)
  have b3 := h (p + 3) (by omega)
  unfold u32At be32
  omega

set_option maxHeartbeats 800000 in
theorem u32_err (db : Nat) (q : Addr) (w : World) (c2 : w.cell? ⟨db, 2, none⟩ = some (.iface 61 (.pointer (some q)))) :
    Calls Ybaf.prog 13 #[.pointer (some ⟨db, 0, none⟩)] w fun e w' => e = .returned (.int .u32 0) ∧ w' = w := by
  go_enter Ybaf.func13, Ybaf.ntmps13
  go_wp2_with (go_at_call 17; refine (next_err db q 4 _ c2).mono ?_; rintro e w' ⟨rfl, rfl⟩)
  go_ret
  exact ⟨rfl, rfl⟩

set_option maxHeartbeats 800000 in
theorem u32_ok {db bb blen bcap p : Nat} {D : List Int} {w : World} (d : Dec w db bb blen bcap D p .nilIface) (h1 : p + 4 ≤ blen) :
    Calls Ybaf.prog 13 #[.pointer (some ⟨db, 0, none⟩)] w fun e w' => e = .returned (.int .u32 (u32At D p)) ∧ Dec w' db bb blen bcap D (p + 4) .nilIface ∧ Step db w w' := by
  go_enter Ybaf.func13, Ybaf.ntmps13
  go_wp2_with fail
  refine (nextD_ok d 4 h1).mono ?_
  rintro e w1 ⟨⟨a, c, rfl, ha⟩, d1, s1⟩
  obtain rfl := ha (by omega)
  go_wp2_with fail
  have r : ∀ j, j < 4 → w1.cell? ⟨bb, p + j, none⟩ = some (.int .u8 (D.getD (p + j) 0)) := fun j hj => d1.row (p + j) (by omega)
  have bd : ∀ j, j < 4 → 0 ≤ D.getD (p + j) 0 ∧ D.getD (p + j) 0 < 256 := fun j hj => d1.bytes (p + j) (by have := d1.len; omega)
  refine (be32_core bb p c _ _ _ _ w1 (r 0 (by omega)) (r 1 (by omega)) (r 2 (by omega)) (r 3 (by omega)) (bd 0 (by omega)) (bd 1 (by omega)) (bd 2 (by omega)) (bd 3 (by omega))).mono ?_
  rintro e w2 ⟨rfl, hb⟩
  clear r bd
  go_wp2_with fail
  go_ret
  exact ⟨rfl, d1.below hb, s1.trans (Step.of_below hb d1.lt)⟩

set_option maxHeartbeats 800000 in
theorem u32_short {F : Interp} {db bb blen bcap p : Nat} {D : List Int} {w : World} (d : Dec w db bb blen bcap D p .nilIface) (hF : F.answers w.tape) (h1 : blen < p + 4) :
    Calls Ybaf.prog 13 #[.pointer (some ⟨db, 0, none⟩)] w fun e w' => e = .returned (.int .u32 0) ∧ (∃ q, Dec w' db bb blen bcap D p (.iface 61 (.pointer (some q)))) ∧ Step db w w' := by
  go_enter Ybaf.func13, Ybaf.ntmps13
  go_wp2_with fail
  refine (nextD_short d hF 4 h1).mono ?_
  rintro e w1 ⟨rfl, ⟨q, d1⟩, s1⟩
  go_wp2_with fail
  go_ret
  exact ⟨rfl, ⟨q, d1⟩, s1⟩
end Go.Proofs.YbulkadqmFmt.WB
