import Derived.Test.YbulkadqmFmtI
import Derived.Laws.CopyOwn
import Derived.Deep.OwnRows
namespace Go.Proofs.YbulkadqmFmt.WB
open Go.RowKit Go.Extern.Stop Go.Stop Go.Extern

/-- the padding behind n bytes -/
def padN (n : Nat) : Nat := (4 - n % 4) % 4
theorem padN_le (n : Nat) : padN n ≤ 3 := by unfold padN; omega

set_option maxHeartbeats 800000 in
theorem fixed_short {F : Interp} {db bb blen bcap p : Nat} {D : List Int} {w : World} (d : Dec w db bb blen bcap D p .nilIface) (hF : F.answers w.tape) (g m c : Nat) (h1 : p + m ≤ blen) (h2 : blen < p + m + padN m) :
    Calls Ybaf.prog 16 #[.pointer (some ⟨db, 0, none⟩), .slice (some ⟨g, 0, none⟩) m c] w fun e w' => e = .returned (.tuple #[]) ∧ (∃ q, Dec w' db bb blen bcap D (p + m) (.iface 61 (.pointer (some q)))) ∧ Step db w w' := by
  have hsm := d.small
  go_enter Ybaf.func16, Ybaf.ntmps16
  go_wp2_with fail
  refine (nextD_ok d m h1).mono ?_
  rintro e w1 ⟨⟨a, c1, rfl, _⟩, d1, s1⟩
  have hc1 := d1.c1
  go_wp2_with fail
  refine (pad_any m (by omega) (by omega) w1).mono ?_
  rintro e w1' ⟨rfl, rfl⟩
  have hpd : ((4 - (m : Int) % 4) % 4) = ((padN m : Nat) : Int) := by unfold padN; omega
  rw [hpd]
  clear hpd
  go_wp2_with fail
  refine (nextD_short d1 (by rw [s1.g.tape]; exact hF) (padN m) h2).mono ?_
  rintro e w2 ⟨rfl, ⟨q, d2⟩, s2⟩
  have hc2 := d2.c2
  go_wp2_with fail
  exact bodyPost_ret (v := .tuple #[]) (by simp [results, Ybaf.results16, go_sem]) rfl ⟨rfl, ⟨q, d2⟩, s1.trans s2⟩

/-- m bytes from offset p on -/
def cut (D : List Int) (p m : Nat) : List Int := (D.drop p).take m
theorem cut_len {D : List Int} {p m : Nat} (h : p + m ≤ D.length) : (cut D p m).length = m := by simp [cut]; omega
theorem cut_getD {D : List Int} {p m i : Nat} (hi : i < m) : (cut D p m).getD i 0 = D.getD (p + i) 0 := by
  simp [cut, List.getD, hi]
theorem cut_bytes {D : List Int} (h : Bytes D) {p m : Nat} (hl : p + m ≤ D.length) : Bytes (cut D p m) := fun i hi => by
  rw [cut_len hl] at hi
  rw [cut_getD hi]
  exact h (p + i) (by omega)

theorem Dec.cutRow {w : World} {db bb blen bcap : Nat} {D : List Int} {p : Nat} {ev : Value} (d : Dec w db bb blen bcap D p ev) {a : Addr} {q m : Nat} (h : q + m ≤ blen) (ha : 0 < m → a = ⟨bb, q, none⟩) : Row .u8 w (some a) m (cut D q m) := by
  refine ⟨(cut_len (by have := d.len; omega)).symm, fun i hi => ⟨bb, q, by rw [ha (by omega)], ?_⟩⟩
  rw [d.row (q + i) (by omega), cut_getD hi]

theorem zeros_bytes (n : Nat) : Bytes (List.replicate n 0) := fun i hi => by
  simp at hi
  simp [List.getD, hi]

theorem made_row (w : World) (n : Nat) : Row .u8 (w.alloc (.cells (madeCells #[.int .u8 0] n) 5)) (some ⟨w.heap.size, 0, none⟩) n (List.replicate n 0) := by
  refine ⟨by simp, fun i hi => ⟨_, 0, rfl, ?_⟩⟩
  rw [World.cell?_alloc_at _ _ _ _ rfl]
  have e : i % 1 = 0 := Nat.mod_one i
  simp [madeCells, hi, List.getD, e]

set_option maxHeartbeats 800000 in
theorem fixed_nz {F : Interp} {db bb blen bcap p : Nat} {D : List Int} {w : World} (d : Dec w db bb blen bcap D p .nilIface) (hF : F.answers w.tape) (g m c : Nat) (h1 : p + m + padN m ≤ blen) (h2 : cut D (p + m) (padN m) ≠ List.replicate (padN m) 0) :
    Calls Ybaf.prog 16 #[.pointer (some ⟨db, 0, none⟩), .slice (some ⟨g, 0, none⟩) m c] w fun e w' => e = .returned (.tuple #[]) ∧ (∃ q, Dec w' db bb blen bcap D (p + m + padN m) (.iface 61 (.pointer (some q)))) ∧ Step db w w' := by
  have hsm := d.small
  have hp3 := padN_le m
  have H2 : Hid (cut D (p + m) (padN m) ≠ List.replicate (padN m) 0) := h2
  clear h2
  go_enter Ybaf.func16, Ybaf.ntmps16
  go_wp2_with fail
  refine (nextD_ok d m (by omega)).mono ?_
  rintro e w1 ⟨⟨a, c1, rfl, _⟩, d1, s1⟩
  have hc1 := d1.c1
  go_wp2_with fail
  refine (pad_any m (by omega) (by omega) w1).mono ?_
  rintro e w1' ⟨rfl, rfl⟩
  have hpd : ((4 - (m : Int) % 4) % 4) = ((padN m : Nat) : Int) := by unfold padN; omega
  rw [hpd]
  clear hpd hc1
  go_wp2_with fail
  refine (nextD_ok d1 (padN m) h1).mono ?_
  rintro e w2 ⟨⟨a2, c2, rfl, ha2⟩, d2, s2⟩
  have hc2 := d2.c2
  have hmk := run_make_row' (P := Ybaf.prog) 23 5 (.int .u8 0) 1 Ybaf.underlying23 info5 rfl .i64 .i64 (padN m) (by omega) (by omega)
  go_wp2_with fail
  have hb3 : Below w2.heap.size w2 (w2.alloc (.cells (madeCells #[.int .u8 0] (padN m)) 5)) := (Below.refl _ _).alloc (Nat.le_refl _) _
  have d3 := d2.below hb3
  have hl := d2.len
  refine (equal_any _ _ _ _ _ _ _ _ _ (d3.cutRow h1 ha2) (made_row w2 (padN m)) (cut_bytes d2.bytes (by omega)) (zeros_bytes _)).mono ?_
  rintro e w3 ⟨rfl, rfl⟩
  rw [decide_eq_false H2.out]
  have s3 := Step.of_below hb3 d2.lt
  generalize (w2.alloc (.cells (madeCells #[.int .u8 0] (padN m)) 5)) = w3 at *
  clear hb3 hmk hc2
  go_wp2_with fail
  refine (failD F db (p + m) w3 (by rw [s3.g.tape, s2.g.tape, s1.g.tape]; exact hF) d3.c2 d3.f2).mono ?_
  rintro e w4 ⟨rfl, hfw⟩
  have s4 := Step.of_fail hfw d3.lt
  obtain ⟨q, hq⟩ := hfw.err d3.c2
  have d4 := d3.step s4 ((hfw.cell d3.lt (by decide)).trans d3.c1) hq d3.at_
  go_wp2_with fail
  exact bodyPost_ret (v := .tuple #[]) (by simp [results, Ybaf.results16, go_sem]) rfl ⟨rfl, ⟨q, d4⟩, s1.trans (s2.trans (s3.trans s4))⟩

/-- but for block g the two worlds are one -/
structure Only (g : Nat) (w w' : World) : Prop where
  os : w'.os = w.os
  tape : w'.tape = w.tape
  output : w'.output = w.output
  size : w'.heap.size = w.heap.size
  block : ∀ k, k ≠ g → w'.heap[k]? = w.heap[k]?
theorem Only.refl (g : Nat) (w : World) : Only g w w := ⟨rfl, rfl, rfl, rfl, fun _ _ => rfl⟩
theorem Only.setRow (g : Nat) (w : World) (cs : Array Value) : Only g w (w.setRow g cs) := ⟨rfl, rfl, rfl, by simp [World.setRow], fun k hk => setRow_other w g k cs hk⟩

theorem cut_cells {w : World} {db bb blen bcap : Nat} {D : List Int} {p q m r : Nat} {ev : Value} (d : Dec w db bb blen bcap D q ev) (h : p + m + r ≤ blen) (j : Nat) (v : Value) (hj : ((cut D p m).map (Value.int .u8))[j]? = some v) : w.cell? ((⟨bb, p, none⟩ : Addr).add j) = some v := by
  have hl := d.len
  have hcl : (cut D p m).length = m := cut_len (by omega)
  have hjm : j < m := by
    rcases Nat.lt_or_ge j m with h | h
    · exact h
    · rw [List.getElem?_eq_none (by simpa [hcl] using h)] at hj; cases hj
  have hadd : (⟨bb, p, none⟩ : Addr).add j = ⟨bb, p + j, none⟩ := by unfold Addr.add; split <;> simp_all
  rw [hadd, d.row (p + j) (by omega)]
  rw [List.getElem?_map, List.getElem?_eq_getElem (by omega)] at hj
  have e : (cut D p m).getD j 0 = (cut D p m)[j]'(by omega) := by rw [List.getD_eq_getElem?_getD, List.getElem?_eq_getElem (by omega)]; rfl
  rw [cut_getD hjm] at e
  simp at hj
  rw [← hj, e]

/-- what 'Fixed' leaves where all is well -/
def FixedOk (db bb blen bcap : Nat) (D : List Int) (p m g : Nat) (w : World) (e : Ending) (w' : World) : Prop :=
  e = .returned (.tuple #[]) ∧ ∃ w4, Step db w w4 ∧ Dec w4 db bb blen bcap D (p + m + padN m) .nilIface ∧ Only g w4 w' ∧ w'.heap[g]? = some (.cells ((cut D p m).map (Value.int .u8)).toArray 5 (0, 0))

set_option maxHeartbeats 1600000 in
theorem fixed_ok {db bb blen bcap p : Nat} {D : List Int} {w : World} (d : Dec w db bb blen bcap D p .nilIface) (g m : Nat) (cur : Array Value) (hg : w.heap[g]? = some (.cells cur 5 (0, 0))) (hcur : cur.size = m) (hgd : g ≠ db) (h1 : p + m + padN m ≤ blen) (h2 : cut D (p + m) (padN m) = List.replicate (padN m) 0) :
    Calls Ybaf.prog 16 #[.pointer (some ⟨db, 0, none⟩), .slice (some ⟨g, 0, none⟩) m m] w fun e w' => FixedOk db bb blen bcap D p m g w e w' := by
  have hsm := d.small
  have hp3 := padN_le m
  have H2 : Hid (cut D (p + m) (padN m) = List.replicate (padN m) 0) := h2
  clear h2
  go_enter Ybaf.func16, Ybaf.ntmps16
  go_wp2_with fail
  refine (nextD_ok d m (by omega)).mono ?_
  rintro e w1 ⟨⟨a, c1, rfl, ha1⟩, d1, s1⟩
  have hc1 := d1.c1
  go_wp2_with fail
  refine (pad_any m (by omega) (by omega) w1).mono ?_
  rintro e w1' ⟨rfl, rfl⟩
  have hpd : ((4 - (m : Int) % 4) % 4) = ((padN m : Nat) : Int) := by unfold padN; omega
  rw [hpd]
  clear hpd hc1
  go_wp2_with fail
  refine (nextD_ok d1 (padN m) h1).mono ?_
  rintro e w2 ⟨⟨a2, c2, rfl, ha2⟩, d2, s2⟩
  have hc2 := d2.c2
  have hmk := run_make_row' (P := Ybaf.prog) 23 5 (.int .u8 0) 1 Ybaf.underlying23 info5 rfl .i64 .i64 (padN m) (by omega) (by omega)
  go_wp2_with fail
  have hb3 : Below w2.heap.size w2 (w2.alloc (.cells (madeCells #[.int .u8 0] (padN m)) 5)) := (Below.refl _ _).alloc (Nat.le_refl _) _
  have d3 := d2.below hb3
  have hl := d2.len
  refine (equal_any _ _ _ _ _ _ _ _ _ (d3.cutRow h1 ha2) (made_row w2 (padN m)) (cut_bytes d2.bytes (by omega)) (zeros_bytes _)).mono ?_
  rintro e w3 ⟨rfl, rfl⟩
  rw [decide_eq_true H2.out]
  have s3 := Step.of_below hb3 d2.lt
  generalize (w2.alloc (.cells (madeCells #[.int .u8 0] (padN m)) 5)) = w3 at *
  clear hb3 hmk hc2
  have s123 := s1.trans (s2.trans s3)
  have hg3 : w3.heap[g]? = some (.cells cur 5 (0, 0)) := (s123.g.block g (Array.getElem?_eq_some_iff.1 hg).1 (fun e => hgd (by cases e; rfl))).trans hg
  have hrow := d3.cutRow (a := a) (q := p) (m := m) (by omega) ha1
  have hcl : (cut D p m).length = m := cut_len (by omega)
  clear hl
  rcases Nat.eq_zero_or_pos m with hm | hm
  · subst hm
    go_wp2_with (refine wpList_copy_nothing rfl (.tmp 34) (.tmp 35) 23 23 rfl 5 Ybaf.underlying23 (by kernel_rfl) _ _ _ _ _ _ rfl rfl rfl ?_)
    go_end0
    have ecur : cur = #[] := Array.eq_empty_of_size_eq_zero hcur
    exact ⟨rfl, w3, s123, d3, Only.refl _ _, by rw [hg3, ecur]; simp [cut]⟩
  · obtain rfl := ha1 hm
    go_wp2_with (refine wpList_copy_own rfl (.tmp 34) (.tmp 35) 23 23 rfl 5 Ybaf.underlying23 (by kernel_rfl) g 0 m m ⟨bb, p, none⟩ m c1 rfl rfl cur 5 hg3 ((cut D p m).map (Value.int .u8)) (by simp [hcl]) (fun j v hj => cut_cells d3 h1 j v hj) (by simp [hcl, hcur]) (by simp [Value.oneCell']) ?_)
    go_end0
    refine ⟨rfl, w3, s123, d3, Only.setRow _ _ _, ?_⟩
    rw [setRow_heap w3 g cur _ 5 (0, 0) hg3]
    simp [hcur]
end Go.Proofs.YbulkadqmFmt.WB
