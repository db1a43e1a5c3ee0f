import Derived.Test.YbulkadqmFmtJ
namespace Go.Proofs.YbulkadqmFmt.WB
open Go.RowKit Go.Extern.Stop Go.Stop Go.Extern

/-- one value off the bytes D from offset p on: what comes back, the new offset, whether it failed -/
def opq (D : List Int) (p : Nat) : Option (List Int) × Nat × Bool :=
  if D.length < p + 4 then (none, p, true)
  else if D.length < p + 4 + (u32At D p).toNat then (none, p + 4, true)
  else if D.length < p + 4 + (u32At D p).toNat + padN (u32At D p).toNat then (some (List.replicate (u32At D p).toNat 0), p + 4 + (u32At D p).toNat, true)
  else if cut D (p + 4 + (u32At D p).toNat) (padN (u32At D p).toNat) = List.replicate (padN (u32At D p).toNat) 0 then (some (cut D (p + 4) (u32At D p).toNat), p + 4 + (u32At D p).toNat + padN (u32At D p).toNat, false)
  else (some (List.replicate (u32At D p).toNat 0), p + 4 + (u32At D p).toNat + padN (u32At D p).toNat, true)

/-- the error: there is one, or none -/
def EvIs : Bool → Value → Prop
  | true, ev => ∃ q, ev = .iface 61 (.pointer (some q))
  | false, ev => ev = .nilIface
/-- a value that was handed back: nil, or a row of its own from block lo on -/
def ValIs (w : World) (lo : Nat) (v : Value) : Option (List Int) → Prop
  | none => v = .slice none 0 0
  | some bs => ∃ g, v = .slice (some ⟨g, 0, none⟩) bs.length bs.length ∧ lo ≤ g ∧ w.heap[g]? = some (.cells (bs.map (Value.int .u8)).toArray 5 (0, 0)) ∧ Bytes bs
/-- what 'Opaque' leaves -/
def OpqPost (db bb blen bcap : Nat) (D : List Int) (w : World) (r : Option (List Int) × Nat × Bool) (e : Ending) (w' : World) : Prop :=
  ∃ v ev, e = .returned v ∧ ValIs w' w.heap.size v r.1 ∧ Dec w' db bb blen bcap D r.2.1 ev ∧ EvIs r.2.2 ev ∧ Step db w w'

set_option maxHeartbeats 800000 in
theorem opq_err (db : Nat) (n1 : Int) (q : Addr) (w : World) (c1 : w.cell? ⟨db, 1, none⟩ = some (.int .i64 n1)) (c2 : w.cell? ⟨db, 2, none⟩ = some (.iface 61 (.pointer (some q)))) :
    Calls Ybaf.prog 11 #[.pointer (some ⟨db, 0, none⟩), .int .u32 4294967295] w fun e w' => e = .returned (.slice none 0 0) ∧ w' = w := by
  go_enter Ybaf.func11, Ybaf.ntmps11
  go_wp2_with (go_at_call 13; refine (u32_err db q _ c2).mono ?_; rintro e w' ⟨rfl, rfl⟩)
  go_ret
  exact ⟨rfl, rfl⟩

set_option maxHeartbeats 800000 in
theorem opq_short4 {F : Interp} {db bb blen bcap p : Nat} {D : List Int} {w : World} (d : Dec w db bb blen bcap D p .nilIface) (hF : F.answers w.tape) (h1 : blen < p + 4) :
    Calls Ybaf.prog 11 #[.pointer (some ⟨db, 0, none⟩), .int .u32 4294967295] w fun e w' => OpqPost db bb blen bcap D w (none, p, true) e w' := by
  have hc1 := d.c1
  go_enter Ybaf.func11, Ybaf.ntmps11
  go_wp2_with fail
  refine (u32_short d hF h1).mono ?_
  rintro e w1 ⟨rfl, ⟨q, d1⟩, s1⟩
  have hc2 := d1.c2
  go_wp2_with fail
  go_ret
  exact ⟨_, _, rfl, rfl, d1, ⟨q, rfl⟩, s1⟩

theorem after_fail {db bb blen bcap p : Nat} {D : List Int} {w1 W w4 : World} {ev : Value} (d1 : Dec w1 db bb blen bcap D p ev) (hfw : FailW db W w4) (hb : Below w1.heap.size w1 W) :
    (∃ q, Dec w4 db bb blen bcap D p (.iface 61 (.pointer (some q)))) ∧ Step db w1 w4 := by
  have d2 := d1.below hb
  have s3 := Step.of_fail hfw d2.lt
  obtain ⟨q, hq⟩ := hfw.err d2.c2
  exact ⟨⟨q, d2.step s3 ((hfw.cell d2.lt (by decide)).trans d2.c1) hq d2.at_⟩, (Step.of_below hb d1.lt).trans s3⟩

set_option maxHeartbeats 1600000 in
theorem opq_long {F : Interp} {db bb blen bcap p m : Nat} {D : List Int} {w : World} (d : Dec w db bb blen bcap D p .nilIface) (hF : F.answers w.tape) (h1 : p + 4 ≤ blen) (hm : u32At D p = (m : Int)) (h2 : blen < p + 4 + m) (hm2 : m < 4294967296) :
    Calls Ybaf.prog 11 #[.pointer (some ⟨db, 0, none⟩), .int .u32 4294967295] w fun e w' => OpqPost db bb blen bcap D w (none, p + 4, true) e w' := by
  have hc1 := d.c1
  have hsm := d.small
  go_enter Ybaf.func11, Ybaf.ntmps11
  go_wp2_with fail
  refine (u32_ok d h1).mono ?_
  rintro e w1 ⟨rfl, d1, s1⟩
  rw [hm]
  clear hm
  have hc2 := d1.c2
  go_wp2_with (go_at_call 14; refine (left_any db bb blen bcap (p + 4) _ ?_ ?_ h1 hsm).mono ?_; (exact d1.c0); (exact d1.c1); rintro e w' ⟨rfl, m2, rfl⟩)
  refine (failB F db w1.heap.size p m ((blen : Int) - ((p : Int) + 4)) _ (by show F.answers w1.tape; rw [s1.g.tape]; exact hF) ?_ ?_ ?_ ?_).mono ?_
  · exact (World.cell?_alloc_past _ _ _ d1.lt).trans d1.c2
  · exact (World.frozen?_alloc_past _ _ _ d1.lt).trans d1.f2
  · exact (World.cell?_alloc_at _ _ _ _ rfl).trans rfl
  · exact (World.cell?_alloc_at _ _ _ _ rfl).trans rfl
  rintro e w4 ⟨rfl, hfw⟩
  obtain ⟨⟨q, d3⟩, s3⟩ := after_fail d1 hfw (by exact (below_drewN (Below.refl _ w1) _).alloc (Nat.le_refl _) _)
  have s4 := s1.trans s3
  clear hfw
  go_wp2_with fail
  go_ret
  exact ⟨_, _, rfl, rfl, d3, ⟨q, rfl⟩, s4⟩

theorem Dec.only {w w' : World} {db bb blen bcap p g : Nat} {D : List Int} {ev : Value} (d : Dec w db bb blen bcap D p ev) (on : Only g w w') (h1 : g ≠ db) (h2 : g ≠ bb) : Dec w' db bb blen bcap D p ev where
  c0 := (World.cell?_of_block (w := w) (a := ⟨db, 0, none⟩) (on.block db (Ne.symm h1))).trans d.c0
  c1 := (World.cell?_of_block (w := w) (a := ⟨db, 1, none⟩) (on.block db (Ne.symm h1))).trans d.c1
  c2 := (World.cell?_of_block (w := w) (a := ⟨db, 2, none⟩) (on.block db (Ne.symm h1))).trans d.c2
  f1 := (World.frozen?_of_block (w := w) (a := ⟨db, 1, none⟩) (on.block db (Ne.symm h1))).trans d.f1
  f2 := (World.frozen?_of_block (w := w) (a := ⟨db, 2, none⟩) (on.block db (Ne.symm h1))).trans d.f2
  row := fun i hi => (World.cell?_of_block (w := w) (a := ⟨bb, i, none⟩) (on.block bb (Ne.symm h2))).trans (d.row i hi)
  len := d.len
  ne := d.ne
  lb := d.lb
  cb := d.cb
  small := d.small
  bytes := d.bytes
  at_ := d.at_
theorem Step.only {db g : Nat} {w w4 w' : World} (s : Step db w w4) (on : Only g w4 w') (h : w.heap.size ≤ g) (hg : g ≠ db) : Step db w w' where
  g := ⟨on.os.trans s.g.os, on.tape.trans s.g.tape, on.output.trans s.g.output, by rw [on.size]; exact s.g.size, fun k hk hne => (on.block k (by omega)).trans (s.g.block k hk hne)⟩
  c0 := (World.cell?_of_block (w := w4) (a := ⟨db, 0, none⟩) (on.block db (Ne.symm hg))).trans s.c0
  fz := fun j => (World.frozen?_of_block (w := w4) (a := ⟨db, j, none⟩) (on.block db (Ne.symm hg))).trans (s.fz j)

theorem made_zero (m : Nat) : madeCells #[.int .u8 0] m = ((List.replicate m (0 : Int)).map (Value.int .u8)).toArray := by
  apply Array.ext'
  apply List.ext_getElem
  · simp [madeCells]
  · intro i h1 h2
    have e : i % 1 = 0 := Nat.mod_one i
    simp [madeCells, e]

set_option maxHeartbeats 1600000 in
/-- up to the call of 'Fixed' -/
theorem opq_fits {F : Interp} {db bb blen bcap p m : Nat} {D : List Int} {w : World} (d : Dec w db bb blen bcap D p .nilIface) (hF : F.answers w.tape) (h1 : p + 4 ≤ blen) (hm : u32At D p = (m : Int)) (h2 : p + 4 + m ≤ blen) (hm2 : m < 4294967296) :
    Calls Ybaf.prog 11 #[.pointer (some ⟨db, 0, none⟩), .int .u32 4294967295] w fun e w' => OpqPost db bb blen bcap D w (opq D p) e w' := by
  have hmt : (u32At D p).toNat = m := by omega
  have hlen := d.len
  have hopq : opq D p = if D.length < p + 4 + m + padN m then (some (List.replicate m 0), p + 4 + m, true) else if cut D (p + 4 + m) (padN m) = List.replicate (padN m) 0 then (some (cut D (p + 4) m), p + 4 + m + padN m, false) else (some (List.replicate m 0), p + 4 + m + padN m, true) := by
    unfold opq
    rw [hmt, if_neg (by omega), if_neg (by omega)]
  have HO : Hid (opq D p = if D.length < p + 4 + m + padN m then (some (List.replicate m 0), p + 4 + m, true) else if cut D (p + 4 + m) (padN m) = List.replicate (padN m) 0 then (some (cut D (p + 4) m), p + 4 + m + padN m, false) else (some (List.replicate m 0), p + 4 + m + padN m, true)) := hopq
  have HL : Hid (blen = D.length) := hlen
  clear hopq hmt hlen
  have hc1 := d.c1
  have hsm := d.small
  go_enter Ybaf.func11, Ybaf.ntmps11
  go_wp2_with fail
  refine (u32_ok d h1).mono ?_
  rintro e w1 ⟨rfl, d1, s1⟩
  rw [hm]
  clear hm
  have hc2 := d1.c2
  have hmk := run_make_row' (P := Ybaf.prog) 23 5 (.int .u8 0) 1 Ybaf.underlying23 info5 rfl .u32 .u32 m (by omega) (by omega)
  go_wp2_with (go_at_call 14; refine (left_any db bb blen bcap (p + 4) _ ?_ ?_ h1 hsm).mono ?_; (exact d1.c0); (exact d1.c1); rintro e w' ⟨rfl, m2, rfl⟩)
  have hb : Below w1.heap.size w1 ((w1.drewN m2).alloc (.cells (madeCells #[.int .u8 0] m) 5)) := (below_drewN (Below.refl _ w1) _).alloc (Nat.le_refl _) _
  have d2 := d1.below hb
  have s2 := s1.trans (Step.of_below hb d1.lt)
  have hg2 : ((w1.drewN m2).alloc (.cells (madeCells #[.int .u8 0] m) 5)).heap[w1.heap.size]? = some (.cells ((List.replicate m (0 : Int)).map (Value.int .u8)).toArray 5 (0, 0)) := by
    rw [← made_zero]; exact heap_alloc_new (w1.drewN m2) _
  have hgw : w.heap.size ≤ w1.heap.size := s1.g.size
  have hgd : w1.heap.size ≠ db := by have := d1.lt; omega
  have hF2 : F.answers ((w1.drewN m2).alloc (.cells (madeCells #[.int .u8 0] m) 5)).tape := by rw [s2.g.tape]; exact hF
  generalize ((w1.drewN m2).alloc (.cells (madeCells #[.int .u8 0] m) 5)) = w2 at *
  generalize w1.heap.size = g at *
  clear hb hmk hc1 hc2 d1 s1
  by_cases hs : blen < p + 4 + m + padN m
  · have HO2 : Hid (opq D p = (some (List.replicate m 0), p + 4 + m, true)) := by have h := HO.out; rw [if_pos (by have := HL.out; omega)] at h; exact h
    refine (fixed_short d2 hF2 g m m h2 hs).mono ?_
    rintro e w3 ⟨rfl, ⟨q, d3⟩, s3⟩
    clear HO
    go_wp2_with fail
    go_ret
    rw [HO2.out]
    exact ⟨_, _, rfl, ⟨g, by simp, hgw, (s3.g.block g (Array.getElem?_eq_some_iff.1 hg2).1 (fun e => hgd (by cases e; rfl))).trans hg2, zeros_bytes m⟩, d3, ⟨q, rfl⟩, s2.trans s3⟩
  · by_cases hz : cut D (p + 4 + m) (padN m) = List.replicate (padN m) 0
    · have HO2 : Hid (opq D p = (some (cut D (p + 4) m), p + 4 + m + padN m, false)) := by have h := HO.out; rw [if_neg (by have := HL.out; omega), if_pos hz] at h; exact h
      refine (fixed_ok d2 g m _ hg2 (by simp) hgd (by omega) hz).mono ?_
      rintro e w3 ⟨rfl, w4, s4, d4, on, hg3⟩
      have hcl : (cut D (p + 4) m).length = m := cut_len (by have := HL.out; omega)
      have hcb : Bytes (cut D (p + 4) m) := cut_bytes d4.bytes (by have := HL.out; omega)
      have HC : Hid ((cut D (p + 4) m).length = m) := hcl
      clear HO hz hcl
      go_wp2_with fail
      go_ret
      rw [HO2.out]
      have hbb : bb < w.heap.size := World.block_lt_of_cell? w ⟨bb, 0, none⟩ (d.row 0 (by omega))
      exact ⟨.slice (some ⟨g, 0, none⟩) m m, .nilIface, rfl, ⟨g, by rw [HC.out], hgw, hg3, hcb⟩, d4.only on hgd (by omega), rfl, (s2.trans s4).only on hgw hgd⟩
    · have HO2 : Hid (opq D p = (some (List.replicate m 0), p + 4 + m + padN m, true)) := by have h := HO.out; rw [if_neg (by have := HL.out; omega), if_neg hz] at h; exact h
      refine (fixed_nz d2 hF2 g m m (by omega) hz).mono ?_
      rintro e w3 ⟨rfl, ⟨q, d3⟩, s3⟩
      clear HO hz
      go_wp2_with fail
      go_ret
      rw [HO2.out]
      exact ⟨_, _, rfl, ⟨g, by simp, hgw, (s3.g.block g (Array.getElem?_eq_some_iff.1 hg2).1 (fun e => hgd (by cases e; rfl))).trans hg2, zeros_bytes m⟩, d3, ⟨q, rfl⟩, s2.trans s3⟩
end Go.Proofs.YbulkadqmFmt.WB
