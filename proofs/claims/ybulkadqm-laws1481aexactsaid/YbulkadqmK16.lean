import Derived.Test.YbulkadqmK15
import Derived.Deep.LoopGhost
import Derived.Deep.RegionHeld3
namespace Go.Proofs.Ybulkadqm.AK
open Go.RowKit Go.Shelf Go.Lib Go.Sort

/-- place j is kept: the first, or another ballot than the one before -/
def keepsB (D : Nat → Bl) (j : Nat) : Bool := decide (j = 0) || !ceq (D j) (D (j - 1))
def cpt (D : Nat → Bl) (m : Nat) : List Bl := ((List.range m).filter (keepsB D)).map D
theorem cpt_succ (D : Nat → Bl) (m : Nat) : cpt D (m + 1) = cpt D m ++ (if keepsB D m then [D m] else []) := by
  unfold cpt
  rw [List.range_succ, List.filter_append, List.map_append]
  congr 1
  by_cases h : keepsB D m <;> simp [h]
theorem cpt_all (D : Nat → Bl) (m : Nat) (h : ∀ j, j < m → keepsB D j = true) : cpt D m = (List.range m).map D := by
  unfold cpt
  rw [List.filter_eq_self.2 (fun j hj => h j (List.mem_range.1 hj))]
/-- m places have been looked at; what is kept of them, k ballots, lies at the row's head; behind k the row is as it was -/
structure CInv (D : Nat → Bl) (m k : Nat) (E : Nat → Bl) : Prop where
  len : (cpt D m).length = k
  lt : k < m
  low : ∀ j, j < k → (cpt D m)[j]? = some (E j)
  high : ∀ j, k ≤ j → E j = D j
theorem CInv.start {D : Nat → Bl} {k : Nat} (h : ∀ j, j < k → keepsB D j = true) (hk : keepsB D k = false) : CInv D (k + 1) k D := by
  have e : cpt D (k + 1) = (List.range k).map D := by rw [cpt_succ, hk, cpt_all D k h]; simp
  refine ⟨by rw [e]; simp, by omega, fun j hj => ?_, fun _ _ => rfl⟩
  rw [e, List.getElem?_map, List.getElem?_range hj]
  rfl
theorem CInv.skip {D E : Nat → Bl} {m k : Nat} (h : CInv D m k E) (hk : keepsB D m = false) : CInv D (m + 1) k E := by
  have e : cpt D (m + 1) = cpt D m := by rw [cpt_succ, hk]; simp
  exact ⟨by rw [e]; exact h.len, by have := h.lt; omega, by rw [e]; exact h.low, h.high⟩
def upd (E : Nat → Bl) (k : Nat) (x : Bl) : Nat → Bl := fun j => if j = k then x else E j
theorem CInv.take {D E : Nat → Bl} {m k : Nat} (h : CInv D m k E) (hk : keepsB D m = true) : CInv D (m + 1) (k + 1) (upd E k (D m)) := by
  have e : cpt D (m + 1) = cpt D m ++ [D m] := by rw [cpt_succ, hk]; simp
  have hl := h.len
  refine ⟨by rw [e]; simp [hl], by have := h.lt; omega, fun j hj => ?_, fun j hj => ?_⟩
  · rw [e]
    by_cases hjk : j = k
    · subst hjk
      rw [List.getElem?_append_right (by omega), hl]
      simp [upd]
    · rw [List.getElem?_append_left (by omega), h.low j (by omega)]
      simp [upd, hjk]
  · have : j ≠ k := by omega
    simp only [upd, this, if_false]
    exact h.high j (by omega)

theorem RowB.below {w w' : World} {b n : Nat} {D : Nat → Bl} (h : RowB w b n D) (hb : Below w.heap.size w w') : RowB w' b n D := fun i hi => by
  obtain ⟨h0, h1, h2, h3⟩ := h i hi
  have hlt := World.block_lt_of_cell? w _ h0
  exact ⟨below_keep hb h0, below_keep hb h1, (hb.frozen (p := ⟨b, i * 2, none⟩) hlt).trans h2, (hb.frozen (p := ⟨b, i * 2 + 1, none⟩) hlt).trans h3⟩
def El2 (w : World) (b n : Nat) (D : Nat → Bl) : Prop := ∀ i, i < n → VAt w (D i).g (D i).n (D i).v ∧ ((D i).n = 0 ∨ (D i).g ≠ b)

theorem eq_at {w wr : World} {b n : Nat} {D : Nat → Bl} (hv : El2 w b n D) (hc : Chg b w wr) {i j : Nat} (hi : i < n) (hj : j < n) (q : Nat) :
    Calls Yba.prog 37 #[.agg #[.int .u32 (D i).c, .slice (some ⟨(D i).g, 0, none⟩) (D i).n (D i).n], .agg #[.int .u32 (D j).c, .slice (some ⟨(D j).g, 0, none⟩) (D j).n (D j).n]] (wr.drewN q) fun e w' => e = .returned (.bool (ceq (D i) (D j))) ∧ Below wr.heap.size wr w' := by
  have hd := below_drewN (Below.refl wr.heap.size wr) q
  refine (cl37 (D i) (D j) (wr.drewN q) ((hc.val (hv i hi).2 (hv i hi).1).below hd) ((hc.val (hv j hj).2 (hv j hj).1).below hd)).mono ?_
  rintro e w' ⟨he, hb⟩
  exact ⟨he, hd.trans (hb.mono hd.size)⟩

theorem zero75 (w : World) : (zeroValue 75).run Yba.prog w = .ok (.agg #[.int .u32 0, .slice none 0 0]) w := by kernel_rfl
theorem zeros_cell (m : Nat) (v : Value) (h : v ∈ (Builtin.zeroCells (Value.agg #[.int .u32 0, .slice none 0 0]).cells m).toList) : v.oneCell' = true := by
  simp only [Builtin.zeroCells, Value.cells, Array.toList_map, List.mem_map] at h
  obtain ⟨i, _, rfl⟩ := h
  rcases Nat.mod_two_eq_zero_or_one i with hm | hm
  · show (#[Value.int .u32 0, .slice none 0 0][i % 2]!).oneCell' = true
    rw [hm]; rfl
  · show (#[Value.int .u32 0, .slice none 0 0][i % 2]!).oneCell' = true
    rw [hm]; rfl
theorem clear_run (w : World) (ty b o m c : Nat) (hm : 0 < m) (ht : w.there b o (m * 2)) : ∃ W, (Builtin.clear_ #[85] ty #[.slice (some ⟨b, o, none⟩) m c]).run Yba.prog w = .ok (.tuple #[]) W ∧ Only b w W ∧ ∀ j, j < o → W.cell? ⟨b, j, none⟩ = w.cell? ⟨b, j, none⟩ ∧ W.frozen? ⟨b, j, none⟩ = w.frozen? ⟨b, j, none⟩ := by
  have hl : (Builtin.zeroCells (Value.agg #[.int .u32 0, .slice none 0 0]).cells m).toList.length = m * 2 := by simp [Builtin.zeroCells, Value.cells]
  have hst := run_storeCells_cells (P := Yba.prog) b o (Builtin.zeroCells (Value.agg #[.int .u32 0, .slice none 0 0]).cells m).toList 0 w (fun j hj => by simpa using (ht j (by omega)).1) (fun j hj => by simpa using (ht j (by omega)).2) (zeros_cell m)
  simp only [Nat.add_zero] at hst
  refine ⟨_, ?_, only_setCells b (Builtin.zeroCells (Value.agg #[.int .u32 0, .slice none 0 0]).cells m).toList o w, fun j hj => ⟨?_, World.frozen?_setCells ..⟩⟩
  · obtain ⟨m', rfl⟩ : ∃ m', m = m' + 1 := ⟨m - 1, by omega⟩
    simp [Builtin.clear_, run_underlying Yba.underlying85, hst]
  · exact World.cell?_setCells_out b _ o w ⟨b, j, none⟩ (fun _ _ => .inl hj)
theorem row_upd {w : World} {b n k : Nat} {E : Nat → Bl} (x : Bl) (h : RowB w b n E) (hk : k < n) : RowB ((w.setCell ⟨b, k * 2, none⟩ (.int .u32 x.c)).setCell ⟨b, k * 2 + 1, none⟩ (.slice (some ⟨x.g, 0, none⟩) x.n x.n)) b n (upd E k x) := fun i hi => by
  obtain ⟨h0, h1, h2, h3⟩ := h i hi
  have f2 : ((w.setCell ⟨b, k * 2, none⟩ (.int .u32 x.c)).setCell ⟨b, k * 2 + 1, none⟩ (.slice (some ⟨x.g, 0, none⟩) x.n x.n)).frozen? ⟨b, i * 2, none⟩ = false := by simpa using h2
  have f3 : ((w.setCell ⟨b, k * 2, none⟩ (.int .u32 x.c)).setCell ⟨b, k * 2 + 1, none⟩ (.slice (some ⟨x.g, 0, none⟩) x.n x.n)).frozen? ⟨b, i * 2 + 1, none⟩ = false := by simpa using h3
  by_cases hik : i = k
  · subst hik
    refine ⟨?_, ?_, f2, f3⟩
    · rw [World.cell?_setCell_other _ _ _ _ (by simp), World.cell?_setCell_same _ _ _ h0]; simp [upd]
    · rw [World.cell?_setCell_same _ _ _ ((World.cell?_setCell_other _ _ _ _ (by simp)).trans h1)]; simp [upd]
  · have e : upd E k x i = E i := by simp [upd, hik]
    rw [e]
    refine ⟨?_, ?_, f2, f3⟩
    · rw [World.cell?_setCell_other _ _ _ _ (fun e => by injection e; omega), World.cell?_setCell_other _ _ _ _ (fun e => by injection e; omega)]; exact h0
    · rw [World.cell?_setCell_other _ _ _ _ (fun e => by injection e; omega), World.cell?_setCell_other _ _ _ _ (fun e => by injection e; omega)]; exact h1
theorem only_two {w : World} {b p q : Nat} {u v : Value} : Only b w ((w.setCell ⟨b, p, none⟩ u).setCell ⟨b, q, none⟩ v) :=
  ⟨rfl, rfl, rfl, by simp, fun k hk => (Below.heap_setCell _ ⟨b, q, none⟩ v k hk).trans (Below.heap_setCell _ ⟨b, p, none⟩ u k hk)⟩
theorem RowB.chg_there {w : World} {b n : Nat} {E : Nat → Bl} (h : RowB w b n E) (k : Nat) : w.there b (k * 2) ((n - k) * 2) := fun j hj => by
  have hi : k + j / 2 < n := by omega
  obtain ⟨h0, h1, h2, h3⟩ := h (k + j / 2) hi
  rcases Nat.mod_two_eq_zero_or_one j with hm | hm
  · rw [show k * 2 + j = (k + j / 2) * 2 by omega]; exact ⟨by rw [h0]; rfl, h2⟩
  · rw [show k * 2 + j = (k + j / 2) * 2 + 1 by omega]; exact ⟨by rw [h1]; rfl, h3⟩

set_option maxRecDepth 100000 in
set_option maxHeartbeats 3200000 in
theorem compact_walk (b n cap : Nat) (D : Nat → Bl) (w : World) (h : RowB w b n D) (hv : El2 w b n D) (hn : n ≤ 100) (hcap : n ≤ cap) :
    Calls Yba.prog 36 #[.slice (some ⟨b, 0, none⟩) n cap, .func (.func 37) #[] #[]] w fun e w' => ∃ k E, e = .returned (.slice (some ⟨b, 0, none⟩) k cap) ∧ k = (cpt D n).length ∧ (∀ j, j < k → (cpt D n)[j]? = some (E j)) ∧ RowB w' b k E ∧ Chg b w w' := by
  have HR : Hid (RowB w b n D) := h
  have HV : Hid (El2 w b n D) := hv
  clear h hv
  by_cases h2 : n < 2
  · have h2' : (n : Int) < 2 := by omega
    have hk : ∀ j, j < n → keepsB D j = true := fun j hj => by
      have : j = 0 := by omega
      subst this; rfl
    go_enter Yba.func36, Yba.ntmps36
    go_wp2_with fail
    go_ret
    refine ⟨n, D, rfl, by rw [cpt_all D n hk]; simp, fun j hj => ?_, HR.out, Chg.refl _ _⟩
    rw [cpt_all D n hk, List.getElem?_map, List.getElem?_range hj]; rfl
  · have h2' : (2 : Int) ≤ (n : Int) := by omega
    go_enter Yba.func36, Yba.ntmps36
    go_wp2_with fail
    go_loopg [5] (n - 1) (fun g s5 wr => ∃ k : Nat, s5 = .int .i64 k ∧ 1 ≤ k ∧ k ≤ n ∧ g = n - k ∧ Hid (∀ j, j < k → keepsB D j = true) ∧ Hid (Below w.heap.size w wr))
    case atStart => exact ⟨1, by simp, by omega, by omega, by omega, fun j hj => by (have : j = 0 := by omega); subst this; rfl, Below.refl _ _⟩
    case round =>
      obtain ⟨k, rfl, hk1, hkn, hgk, HK, HB⟩ := hrel
      by_cases hlt : k < n
      · obtain ⟨j, hj⟩ : ∃ j, k = j + 1 := ⟨k - 1, by omega⟩
        have hj2 : (k : Int) - 1 = (j : Int) := by omega
        have HE : Hid (∀ q, Calls Yba.prog 37 #[.agg #[.int .u32 (D k).c, .slice (some ⟨(D k).g, 0, none⟩) (D k).n (D k).n], .agg #[.int .u32 (D j).c, .slice (some ⟨(D j).g, 0, none⟩) (D j).n (D j).n]] (wr.drewN q) fun e w' => e = .returned (.bool (ceq (D k) (D j))) ∧ RowKit.Below wr.heap.size wr w') := fun q => eq_at HV.out (Chg.of_below HB.out) hlt (by omega) q
        obtain ⟨x0, x1, _, _⟩ := (HR.out.below HB.out) k hlt
        obtain ⟨y0, y1, _, _⟩ := (HR.out.below HB.out) j (by omega)
        have hi1 : (k : Int) < (n : Int) := by omega
        have hi2 : (j : Int) < (n : Int) := by omega
        have hi3 : (0 : Int) ≤ (k : Int) := by omega
        have hi4 : (0 : Int) ≤ (j : Int) := by omega
        have hb0 : b < wr.heap.size := World.block_lt_of_cell? _ _ x0
        have HQ : Hid (keepsB D k = !ceq (D k) (D j)) := by show keepsB D k = _; unfold keepsB; rw [hj]; simp
        have HJ : Hid (k = j + 1) := hj
        have hw1 : IntKind.i64.wrap (j : Int) = (j : Int) := by rw [IntKind.wrap_i64]; omega
        clear hj hk1
        generalize ceq (D k) (D j) = e at *
        cases e with
        | false =>
          go_wp2_with fail
          first
          | go_region_held3 (fun w' => w'.cell? ⟨b, k * 2, none⟩ = some (.int .u32 (D k).c) ∧ w'.cell? ⟨b, k * 2 + 1, none⟩ = some (.slice (some ⟨(D k).g, 0, none⟩) (D k).n (D k).n) ∧ w'.cell? ⟨b, j * 2, none⟩ = some (.int .u32 (D j).c) ∧ w'.cell? ⟨b, j * 2 + 1, none⟩ = some (.slice (some ⟨(D j).g, 0, none⟩) (D j).n (D j).n)) (go_keep)
              (first
                | (go_at_call 37; refine (HE.out _).mono ?_; rintro e w2 ⟨rfl, hbl⟩; have z0 := below_keep hbl x0; have z1 := below_keep hbl x1; have z2 := below_keep hbl y0; have z3 := below_keep hbl y1)
                | fail)
          | fail
          all_goals
            go_wp2_with fail
            go_roundg (n - (k + 1))
            case rel => exact ⟨k + 1, by go_num, by omega, by omega, rfl, fun i hi => by (by_cases h : i = k; · (rw [h, HQ.out]; rfl)
                                                                                          · exact HK.out i (by omega)), HB.out.trans (hbl.mono HB.out.size)⟩
            case measure => omega
        | true =>
          have hc1 : (k : Int) ≤ (n : Int) := by omega
          have hc2 : (n : Int) ≤ (cap : Int) := by omega
          have hc3 : (k : Int) < (cap : Int) := by omega
          go_wp2_with fail
          first
          | go_region_held3 (fun w' => w'.cell? ⟨b, k * 2, none⟩ = some (.int .u32 (D k).c) ∧ w'.cell? ⟨b, k * 2 + 1, none⟩ = some (.slice (some ⟨(D k).g, 0, none⟩) (D k).n (D k).n) ∧ w'.cell? ⟨b, j * 2, none⟩ = some (.int .u32 (D j).c) ∧ w'.cell? ⟨b, j * 2 + 1, none⟩ = some (.slice (some ⟨(D j).g, 0, none⟩) (D j).n (D j).n)) (go_keep)
              (first
                | (go_at_call 37; refine (HE.out _).mono ?_; rintro e w2 ⟨rfl, hbl⟩; have z0 := below_keep hbl x0; have z1 := below_keep hbl x1; have z2 := below_keep hbl y0; have z3 := below_keep hbl y1)
                | fail)
          | fail
          all_goals
            go_wp2_with fail
            have HB2 : Hid (Chg b w w2) := Chg.of_below (HB.out.trans (hbl.mono HB.out.size))
            have HR2 : Hid (RowB w2 b n D) := HR.out.below (HB.out.trans (hbl.mono HB.out.size))
            have HI0 : Hid (CInv D (k + 1) k D) := CInv.start HK.out HQ.out
            clear HE x0 x1 y0 y1 z0 z1 z2 z3 hbl HB hb0 HQ
            generalize hr : n - k = r
            generalize hcr : cap - k = cr
            have HRr : Hid (n = k + r) := by show n = k + r; omega
            clear hr hcr
            go_loopg [5, 7] (r - 1) (fun g s5 s7 wq => ∃ (kk i : Nat) (E : Nat → Bl), s5 = .int .i64 kk ∧ s7 = .int .i64 i ∧ 1 ≤ i ∧ i ≤ r ∧ g = r - i ∧ Hid (CInv D (k + i) kk E) ∧ Hid (RowB wq b n E) ∧ Hid (Chg b w wq))
            case atStart => exact ⟨k, 1, D, by simp, by simp, by omega, by have := HRr.out; omega, rfl, HI0.out, HR2.out, HB2.out⟩
            case round =>
              clear HR2 HB2 HI0
              obtain ⟨kk, i, E, rfl, rfl, hi1', hir, hg2, HI, HRq, HCq⟩ := hrel
              by_cases hlt2 : i < r
              · obtain ⟨i', hi'⟩ : ∃ i', i = i' + 1 := ⟨i - 1, by omega⟩
                have hm : k + i < n := by have := HRr.out; omega
                have hm' : k + i' < n := by have := HRr.out; omega
                have hkk : kk < k + i := HI.out.lt
                have hkn2 : kk < n := by omega
                have eD : E (k + i) = D (k + i) := HI.out.high _ (by omega)
                have eD' : E (k + i') = D (k + i') := HI.out.high _ (by omega)
                have HE : Hid (∀ q, Calls Yba.prog 37 #[.agg #[.int .u32 (D (k + i)).c, .slice (some ⟨(D (k + i)).g, 0, none⟩) (D (k + i)).n (D (k + i)).n], .agg #[.int .u32 (D (k + i')).c, .slice (some ⟨(D (k + i')).g, 0, none⟩) (D (k + i')).n (D (k + i')).n]] (wr.drewN q) fun e w' => e = .returned (.bool (ceq (D (k + i)) (D (k + i')))) ∧ RowKit.Below wr.heap.size wr w') := fun q => eq_at HV.out HCq.out hm hm' q
                obtain ⟨x0, x1, _, _⟩ := HRq.out (k + i) hm
                obtain ⟨y0, y1, _, _⟩ := HRq.out (k + i') hm'
                obtain ⟨t0, t1, t2, t3⟩ := HRq.out kk hkn2
                rw [eD] at x0 x1
                rw [eD'] at y0 y1
                rw [Nat.add_mul] at x0 x1 y0 y1
                have HQ2 : Hid (keepsB D (k + i) = !ceq (D (k + i)) (D (k + i'))) := by
                  show keepsB D (k + i) = _
                  unfold keepsB
                  rw [show k + i - 1 = k + i' by omega]
                  simp [show ¬ (k = 0 ∧ i = 0) by omega]
                have hb0 : b < wr.heap.size := World.block_lt_of_cell? _ _ t0
                have hj5 : (i : Int) - 1 = (i' : Int) := by omega
                have hj6 : IntKind.i64.wrap (i' : Int) = (i' : Int) := by rw [IntKind.wrap_i64]; omega
                have hj7 : (i : Int) < (r : Int) := by omega
                have hj8 : (i' : Int) < (r : Int) := by omega
                have hj9 : (0 : Int) ≤ (i : Int) := by omega
                have hj10 : (0 : Int) ≤ (i' : Int) := by omega
                have hj11 : (0 : Int) ≤ (kk : Int) := by omega
                have hj12 : (kk : Int) < (n : Int) := by omega
                clear eD eD' hi' hm' hj2 HJ hw1
                generalize hx : D (k + i) = X at *
                generalize D (k + i') = Y at *
                generalize ceq X Y = e at *
                cases e with
                | false =>
                  go_wp2_with fail
                  first
                  | go_region_held3 (fun w' => w'.cell? ⟨b, k * 2 + i * 2, none⟩ = some (.int .u32 X.c) ∧ w'.cell? ⟨b, k * 2 + i * 2 + 1, none⟩ = some (.slice (some ⟨X.g, 0, none⟩) X.n X.n) ∧ w'.cell? ⟨b, k * 2 + i' * 2, none⟩ = some (.int .u32 Y.c) ∧ w'.cell? ⟨b, k * 2 + i' * 2 + 1, none⟩ = some (.slice (some ⟨Y.g, 0, none⟩) Y.n Y.n)) (go_keep)
                      (first
                        | (go_at_call 37; refine (HE.out _).mono ?_; rintro e w3 ⟨rfl, hbl⟩; have z0 := below_keep hbl x0; have z1 := below_keep hbl x1; have z2 := below_keep hbl y0; have z3 := below_keep hbl y1; have z4 := below_keep hbl t0; have z5 := below_keep hbl t1; have z6 := (hbl.frozen (p := ⟨b, kk * 2, none⟩) hb0).trans t2; have z7 := (hbl.frozen (p := ⟨b, kk * 2 + 1, none⟩) hb0).trans t3)
                        | fail)
                  | fail
                  all_goals
                    go_wp2_with fail
                    go_roundg (r - (i + 1))
                    case rel =>
                      have hE := HI.out.take HQ2.out
                      rw [hx] at hE
                      exact ⟨kk + 1, i + 1, upd E kk X, by go_num, by go_num, by omega, by omega, rfl, hE, row_upd X (HRq.out.below hbl) hkn2, (HCq.out.trans (Chg.of_below hbl)).trans (Chg.of_only only_two)⟩
                    case measure => omega
                | true =>
                  go_wp2_with fail
                  first
                  | go_region_held3 (fun w' => w'.cell? ⟨b, k * 2 + i * 2, none⟩ = some (.int .u32 X.c) ∧ w'.cell? ⟨b, k * 2 + i * 2 + 1, none⟩ = some (.slice (some ⟨X.g, 0, none⟩) X.n X.n) ∧ w'.cell? ⟨b, k * 2 + i' * 2, none⟩ = some (.int .u32 Y.c) ∧ w'.cell? ⟨b, k * 2 + i' * 2 + 1, none⟩ = some (.slice (some ⟨Y.g, 0, none⟩) Y.n Y.n)) (go_keep)
                      (first
                        | (go_at_call 37; refine (HE.out _).mono ?_; rintro e w3 ⟨rfl, hbl⟩; have z0 := below_keep hbl x0; have z1 := below_keep hbl x1; have z2 := below_keep hbl y0; have z3 := below_keep hbl y1)
                        | fail)
                  | fail
                  all_goals
                    go_wp2_with fail
                    go_roundg (r - (i + 1))
                    case rel => exact ⟨kk, i + 1, E, rfl, by go_num, by omega, by omega, rfl, HI.out.skip HQ2.out, HRq.out.below hbl, HCq.out.trans (Chg.of_below hbl)⟩
                    case measure => omega
              · have hir' : i = r := by omega
                have hm : k + i = n := by have := HRr.out; omega
                have hkk : kk < k + i := HI.out.lt
                have hkn2 : kk < n := by omega
                have hj11 : (0 : Int) ≤ (kk : Int) := by omega
                have hj12 : (kk : Int) < (n : Int) := by omega
                have hj13 : (kk : Int) ≤ (n : Int) := by omega
                have hj14 : (kk : Int) < (cap : Int) := by omega
                have hj15 : (kk : Int) ≤ (cap : Int) := by omega
                subst hir'
                obtain ⟨W, hW, OW, hlow⟩ := clear_run wr 0 b (kk * 2) (n - kk) (cap - kk) (by omega) (HRq.out.chg_there kk)
                go_wp2_with fail
                go_ret
                have hI := HI.out
                rw [hm] at hI
                refine ⟨kk, E, rfl, hI.len.symm, hI.low, fun j hj => ?_, HCq.out.trans (Chg.of_only OW)⟩
                obtain ⟨x0, x1, x2, x3⟩ := HRq.out j (by omega)
                have l0 := hlow (j * 2) (by omega)
                have l1 := hlow (j * 2 + 1) (by omega)
                exact ⟨l0.1.trans x0, l1.1.trans x1, l0.2.trans x2, l1.2.trans x3⟩
      · have hkn' : k = n := by omega
        subst hkn'
        go_wp2_with fail
        go_ret
        refine ⟨k, D, rfl, by rw [cpt_all D k HK.out]; simp, fun j hj => ?_, HR.out.below HB.out, Chg.of_below HB.out⟩
        rw [cpt_all D k HK.out, List.getElem?_map, List.getElem?_range hj]; rfl
end Go.Proofs.Ybulkadqm.AK
