import Derived.Test.YbulkadqmFmtK
namespace Go.Proofs.YbulkadqmFmt.WB
open Go.RowKit Go.Extern.Stop Go.Stop Go.Extern

theorem opqD {F : Interp} {db bb blen bcap p : Nat} {D : List Int} {w : World} (d : Dec w db bb blen bcap D p .nilIface) (hF : F.answers w.tape) :
    Calls Ybaf.prog 11 #[.pointer (some ⟨db, 0, none⟩), .int .u32 4294967295] w fun e w' => OpqPost db bb blen bcap D w (opq D p) e w' := by
  have hl := d.len
  by_cases h1 : blen < p + 4
  · have e : opq D p = (none, p, true) := by unfold opq; rw [if_pos (by omega)]
    rw [e]
    exact opq_short4 d hF h1
  · have bd := u32At_bd d.bytes (p := p) (by omega)
    obtain ⟨m, hm⟩ := Int.eq_ofNat_of_zero_le bd.1
    have hmt : (u32At D p).toNat = m := by omega
    by_cases h2 : blen < p + 4 + m
    · have e : opq D p = (none, p + 4, true) := by unfold opq; rw [hmt, if_neg (by omega), if_pos (by omega)]
      rw [e]
      exact opq_long d hF (by omega) hm h2 (by omega)
    · exact opq_fits d hF (by omega) hm (by omega) (by omega)

/-- one more value, from a state (offset, failed) on -/
def stp (D : List Int) (st : Nat × Bool) : Option (List Int) × Nat × Bool := if st.2 = true then (none, st) else opq D st.1
/-- the state behind i values -/
def stAt (D : List Int) : Nat → Nat × Bool
  | 0 => (4, false)
  | i + 1 => (stp D (stAt D i)).2
/-- value i -/
def vAt (D : List Int) (i : Nat) : Option (List Int) := (stp D (stAt D i)).1

theorem opqSt {F : Interp} {db bb blen bcap : Nat} {D : List Int} {w : World} {st : Nat × Bool} {ev : Value} (d : Dec w db bb blen bcap D st.1 ev) (hev : EvIs st.2 ev) (hF : F.answers w.tape) :
    Calls Ybaf.prog 11 #[.pointer (some ⟨db, 0, none⟩), .int .u32 4294967295] w fun e w' => OpqPost db bb blen bcap D w (stp D st) e w' := by
  obtain ⟨p, f⟩ := st
  cases f with
  | true =>
    obtain ⟨q, rfl⟩ := hev
    refine (opq_err db p q w d.c1 d.c2).mono ?_
    rintro e w' ⟨rfl, rfl⟩
    exact ⟨_, _, rfl, rfl, d, ⟨q, rfl⟩, Step.refl _ _⟩
  | false =>
    obtain rfl : ev = .nilIface := hev
    exact opqD d hF

theorem ValIs.form {w : World} {lo : Nat} {v : Value} {r : Option (List Int)} (h : ValIs w lo v r) : ∃ a l c, v = .slice a l c := by
  cases r with
  | none => exact ⟨_, _, _, h⟩
  | some bs => obtain ⟨g, rfl, _⟩ := h; exact ⟨_, _, _, rfl⟩
theorem ValIs.mono {w w' : World} {lo lo' : Nat} {v : Value} {r : Option (List Int)} (h : ValIs w lo v r) (hlo : lo' ≤ lo) (hk : ∀ g, lo ≤ g → g < w.heap.size → w'.heap[g]? = w.heap[g]?) : ValIs w' lo' v r := by
  cases r with
  | none => exact h
  | some bs =>
    obtain ⟨g, rfl, h1, h2, h3⟩ := h
    exact ⟨g, rfl, by omega, (hk g h1 (Array.getElem?_eq_some_iff.1 h2).1).trans h2, h3⟩

/-- the loop of 'decodeValues' -/
structure DRel (db bb blen bcap vb n : Nat) (D : List Int) (w wr : World) (i : Nat) : Prop where
  dec : ∃ ev, Dec wr db bb blen bcap D (stAt D i).1 ev ∧ EvIs (stAt D i).2 ev
  done : ∀ j, j < i → ∃ v, wr.cell? ⟨vb, j, none⟩ = some v ∧ ValIs wr (vb + 1) v (vAt D j)
  rest : ∀ j, i ≤ j → j < n → wr.cell? ⟨vb, j, none⟩ = some (.slice none 0 0)
  fz : ∀ j, wr.frozen? ⟨vb, j, none⟩ = false
  step : Step db w wr
  lt : vb < wr.heap.size
  vw : w.heap.size ≤ vb
  dv : db < vb
  bv : bb < vb

theorem drel_step {db bb blen bcap vb n : Nat} {D : List Int} {w wr w2 : World} {i : Nat} (R : DRel db bb blen bcap vb n D w wr i) (hi : i < n) {v ev : Value} (hv : ValIs w2 wr.heap.size v (vAt D i)) (hd : Dec w2 db bb blen bcap D (stAt D (i + 1)).1 ev) (he : EvIs (stAt D (i + 1)).2 ev) (s : Step db wr w2) :
    DRel db bb blen bcap vb n D w (w2.setCell ⟨vb, i, none⟩ v) (i + 1) := by
  have hlt := R.lt
  have hdv := R.dv
  have hbv := R.bv
  have hvb : w2.heap[vb]? = wr.heap[vb]? := s.g.block vb hlt (fun e => by cases e; omega)
  have hcell : ∀ j, w2.cell? ⟨vb, j, none⟩ = wr.cell? ⟨vb, j, none⟩ := fun j => World.cell?_of_block (a := ⟨vb, j, none⟩) hvb
  have hoth : ∀ k, k ≠ vb → (w2.setCell ⟨vb, i, none⟩ v).heap[k]? = w2.heap[k]? := fun k hk => Below.heap_setCell _ _ _ _ hk
  have hsz := s.g.size
  refine ⟨⟨ev, ?_, he⟩, ?_, ?_, ?_, ?_, ?_, R.vw, R.dv, R.bv⟩
  · exact hd.only (g := vb) ⟨rfl, rfl, rfl, by simp, hoth⟩ (by omega) (by omega)
  · intro j hj
    by_cases e : j = i
    · subst e
      refine ⟨v, World.cell?_setCell_same _ _ _ ((hcell j).trans (R.rest j (Nat.le_refl _) hi)), ?_⟩
      exact hv.mono (by omega) fun g hg _ => hoth g (by omega)
    · obtain ⟨u, h1, h2⟩ := R.done j (by omega)
      refine ⟨u, ?_, ?_⟩
      · rw [World.cell?_setCell_other _ _ _ _ (fun h => e (by cases h; rfl)), hcell]; exact h1
      · exact h2.mono (Nat.le_refl _) fun g hg hgl => (hoth g (by omega)).trans (s.g.block g hgl (fun e => by cases e; omega))
  · intro j hj hjn
    rw [World.cell?_setCell_other _ _ _ _ (fun h => by cases h; omega), hcell]
    exact R.rest j (by omega) hjn
  · intro j
    rw [World.frozen?_setCell]
    exact (World.frozen?_of_block (w := wr) (a := ⟨vb, j, none⟩) hvb).trans (R.fz j)
  · exact (R.step.trans s).only (g := vb) ⟨rfl, rfl, rfl, by simp, hoth⟩ R.vw (by omega)
  · simp; omega

theorem info34 : (Ybaf.prog.info? 34).map (fun i => (i.zero, i.size, i.bytes)) = some (some (.slice none 0 0), 1, 24) := by kernel_rfl

set_option maxHeartbeats 1600000 in
theorem count_ok {db bb blen bcap n : Nat} {D : List Int} {w : World} (d : Dec w db bb blen bcap D 0 .nilIface) (h1 : 4 ≤ blen) (hn : u32At D 0 = (n : Int)) (hn2 : n < 4294967296) (h2 : n * 4 ≤ blen - 4) :
    Calls Ybaf.prog 10 #[.pointer (some ⟨db, 0, none⟩), .int .i64 4] w fun e w' => e = .returned (.int .i64 n) ∧ Dec w' db bb blen bcap D 4 .nilIface ∧ Step db w w' := by
  have hc1 := d.c1
  have hsm := d.small
  go_enter Ybaf.func10, Ybaf.ntmps10
  go_wp2_with fail
  refine (u32_ok d h1).mono ?_
  rintro e w1 ⟨rfl, d1, s1⟩
  rw [hn]
  clear hn
  have hc2 := d1.c2
  go_wp2_with (go_at_call 14; refine (left_any db bb blen bcap 4 _ ?_ ?_ h1 hsm).mono ?_; (exact d1.c0); (exact d1.c1); rintro e w' ⟨rfl, m2, rfl⟩)
  go_ret
  exact ⟨rfl, d1.below (below_drewN (Below.refl _ w1) _), s1.drewN _⟩

set_option maxHeartbeats 1600000 in
theorem count_big {F : Interp} {db bb blen bcap n : Nat} {D : List Int} {w : World} (d : Dec w db bb blen bcap D 0 .nilIface) (hF : F.answers w.tape) (h1 : 4 ≤ blen) (hn : u32At D 0 = (n : Int)) (hn2 : n < 4294967296) (h2 : blen - 4 < n * 4) :
    Calls Ybaf.prog 10 #[.pointer (some ⟨db, 0, none⟩), .int .i64 4] w fun e w' => e = .returned (.int .i64 0) ∧ (∃ q, Dec w' db bb blen bcap D 4 (.iface 61 (.pointer (some q)))) ∧ Step db w w' := by
  have hc1 := d.c1
  have hsm := d.small
  go_enter Ybaf.func10, Ybaf.ntmps10
  go_wp2_with fail
  refine (u32_ok d h1).mono ?_
  rintro e w1 ⟨rfl, d1, s1⟩
  rw [hn]
  clear hn
  have hc2 := d1.c2
  go_wp2_with (go_at_call 14; refine (left_any db bb blen bcap 4 _ ?_ ?_ h1 hsm).mono ?_; (exact d1.c0); (exact d1.c1); rintro e w' ⟨rfl, m2, rfl⟩)
  refine (failC F db w1.heap.size 0 n 4 ((blen : Int) - 4) _ (by show F.answers w1.tape; rw [s1.g.tape]; exact hF) ?_ ?_ ?_ ?_ ?_).mono ?_
  · exact (World.cell?_alloc_past _ _ _ d1.lt).trans d1.c2
  · exact (World.frozen?_alloc_past _ _ _ d1.lt).trans d1.f2
  · exact (World.cell?_alloc_at _ _ _ _ rfl).trans rfl
  · exact (World.cell?_alloc_at _ _ _ _ rfl).trans rfl
  · exact (World.cell?_alloc_at _ _ _ _ rfl).trans rfl
  rintro e w4 ⟨rfl, hfw⟩
  obtain ⟨⟨q, d3⟩, s3⟩ := after_fail d1 hfw (by exact (below_drewN (Below.refl _ w1) _).alloc (Nat.le_refl _) _)
  have s4 := s1.trans s3
  clear hfw
  go_wp2_with fail
  go_ret
  exact ⟨rfl, ⟨q, d3⟩, s4⟩

/-- what 'decodeValues' leaves -/
def DecPost (db bb blen bcap n : Nat) (D : List Int) (w : World) (e : Ending) (w' : World) : Prop :=
  (blen - 4 < n * 4 → e = .returned (.slice none 0 0) ∧ (∃ q, Dec w' db bb blen bcap D 4 (.iface 61 (.pointer (some q)))) ∧ Step db w w') ∧
  (n * 4 ≤ blen - 4 → n = 0 → e = .returned (.slice none 0 0) ∧ Dec w' db bb blen bcap D 4 .nilIface ∧ Step db w w') ∧
  (n * 4 ≤ blen - 4 → 0 < n → ∃ vb, e = .returned (.slice (some ⟨vb, 0, none⟩) n n) ∧ DRel db bb blen bcap vb n D w w' n)

set_option maxHeartbeats 1600000 in
theorem decode_any {F : Interp} {db bb blen bcap n : Nat} {D : List Int} {w : World} (d : Dec w db bb blen bcap D 0 .nilIface) (hF : F.answers w.tape) (h1 : 4 ≤ blen) (hn : u32At D 0 = (n : Int)) (hn2 : n < 4294967296) :
    Calls Ybaf.prog 7 #[.pointer (some ⟨db, 0, none⟩)] w fun e w' => DecPost db bb blen bcap n D w e w' := by
  have hsm := d.small
  by_cases h2 : blen - 4 < n * 4
  · go_enter Ybaf.func7, Ybaf.ntmps7
    go_wp2_with fail
    refine (count_big d hF h1 hn hn2 h2).mono ?_
    rintro e w1 ⟨rfl, ⟨q, d1⟩, s1⟩
    clear hn
    go_wp2_with fail
    go_ret
    exact ⟨fun _ => ⟨rfl, ⟨q, d1⟩, s1⟩, fun h => by omega, fun h => by omega⟩
  · have h3 : n * 4 ≤ blen - 4 := by omega
    clear h2
    by_cases h0 : n = 0
    · subst h0
      go_enter Ybaf.func7, Ybaf.ntmps7
      go_wp2_with fail
      refine (count_ok d h1 hn hn2 h3).mono ?_
      rintro e w1 ⟨rfl, d1, s1⟩
      clear hn
      go_wp2_with fail
      go_ret
      exact ⟨fun h => by omega, fun _ _ => ⟨rfl, d1, s1⟩, fun _ h => by omega⟩
    · have hne : ((n : Int) == 0) = false := beq_eq_false_iff_ne.2 (by omega)
      have hmk := run_make_row' (P := Ybaf.prog) 28 34 (.slice none 0 0) 24 Ybaf.underlying28 info34 rfl .i64 .i64 n (by omega) (by omega)
      go_enter Ybaf.func7, Ybaf.ntmps7
      go_wp2_with fail
      refine (count_ok d h1 hn hn2 h3).mono ?_
      rintro e w1 ⟨rfl, d1, s1⟩
      clear hn
      go_wp2_with fail
      have hb : Below w1.heap.size w1 (w1.alloc (.cells (madeCells #[.slice none 0 0] n) 34)) := (Below.refl _ w1).alloc (Nat.le_refl _) _
      have hst : DRel db bb blen bcap w1.heap.size n D w (w1.alloc (.cells (madeCells #[.slice none 0 0] n) 34)) 0 :=
        ⟨⟨_, d1.below hb, rfl⟩, fun j hj => by omega, fun j _ hj => by
            rw [World.cell?_alloc_at _ _ _ _ rfl]
            have e : j % 1 = 0 := Nat.mod_one j
            simp [madeCells, hj, e], fun j => World.frozen?_alloc_at _ _ _ _ rfl, s1.trans (Step.of_below hb d1.lt), by simp, s1.g.size, d1.lt, World.block_lt_of_cell? w1 ⟨bb, 0, none⟩ (d1.row 0 (by omega))⟩
      generalize (w1.alloc (.cells (madeCells #[.slice none 0 0] n) 34)) = w2 at *
      generalize w1.heap.size = vb at *
      clear hb hmk d1 s1
      go_loopg [5, 14] n (fun g x i wr => ∃ k : Nat, k ≤ n ∧ g = n - k ∧ i = .int .i64 k ∧ DRel db bb blen bcap vb n D w wr k)
      case atStart => exact ⟨0, Nat.zero_le _, rfl, rfl, hst⟩
      case round =>
        obtain ⟨k, hk, rfl, rfl, R⟩ := hrel
        clear hst
        by_cases hlt : k < n
        · obtain ⟨ev, hd, hev⟩ := R.dec
          have hF2 : F.answers wr.tape := by rw [R.step.g.tape]; exact hF
          go_wp2_with fail
          refine (opqSt hd hev hF2).mono ?_
          rintro e w3 ⟨v, ev2, rfl, hv, hd2, hev2, s2⟩
          have R2 := drel_step R hlt hv hd2 hev2 s2
          obtain ⟨va, vl, vc, hvf⟩ := hv.form
          have hvb : w3.heap[vb]? = wr.heap[vb]? := s2.g.block vb R.lt (fun e => by have := R.dv; cases e; omega)
          have hcell : w3.cell? ⟨vb, k, none⟩ = some (.slice none 0 0) := (World.cell?_of_block (a := ⟨vb, k, none⟩) hvb).trans (R.rest k (Nat.le_refl _) hlt)
          have hfz : w3.frozen? ⟨vb, k, none⟩ = false := (World.frozen?_of_block (a := ⟨vb, k, none⟩) hvb).trans (R.fz k)
          clear R hd hev hv hd2 hev2 s2 hvb
          subst hvf
          go_wp2_with fail
          go_roundg (n - (k + 1))
          case rel => exact ⟨k + 1, by omega, rfl, by go_num, R2⟩
          case measure => omega
        · have hk' : k = n := by omega
          subst hk'
          go_wp2_with fail
          go_ret
          exact ⟨fun h => by omega, fun _ h => by omega, fun _ _ => ⟨vb, rfl, R⟩⟩
end Go.Proofs.YbulkadqmFmt.WB
