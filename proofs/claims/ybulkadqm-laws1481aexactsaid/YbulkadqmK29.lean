import Derived.Test.YbulkadqmK28
import Derived.Test.YbulkadqmK19
import Derived.Test.YbulkadqmK21
import Derived.Test.YbulkadqmK23
namespace Go.Proofs.Ybulkadqm.AK
open Go.RowKit
set_option linter.unusedSimpArgs false

/-- the pledges that build lays, by their kind -/
def PlAt (w : World) (lo : Nat) (I : In) (kind : Int) (pl : Value) : Prop :=
  (kind = 0 ∧ ∃ sg sn pp, pl = plP I.f3 sg sn pp I.f8 I.f9 0 ∧ VAt w sg sn (I.f4 % 3).toNat ∧ PAt w lo I.f5 I.f6 (I.f7 % 3).toNat pp) ∨
  (kind = 1 ∧ ∃ sg sn, pl = plC I.f3 sg sn I.f6 I.f9 0 ∧ VAt w sg sn (I.f4 % 3).toNat) ∨
  (kind = 2 ∧ ∃ sg sn, pl = plE I.f3 sg sn I.f9 ∧ VAt w sg sn (I.f4 % 3).toNat)
/-- what build hands back -/
def BuildP (w : World) (I : In) (kind ph : Int) (e : Ending) (w' : World) : Prop :=
  ∃ sb eb mb kb zb pl pB pP pPP pH, e = .returned (.pointer (some ⟨sb, 0, none⟩)) ∧ SlotAt w' sb eb mb kb zb pl I.f2 ph pB pP pPP pH I.f22 ∧
    PAt w' w.heap.size I.f10 I.f11 (I.f12 % 3).toNat pB ∧ PAt w' w.heap.size I.f13 I.f14 (I.f15 % 3).toNat pP ∧ PAt w' w.heap.size I.f16 I.f17 (I.f18 % 3).toNat pPP ∧ PAt w' w.heap.size I.f19 I.f20 (I.f21 % 3).toNat pH ∧
    PlAt w' w.heap.size I kind pl ∧ Below w.heap.size w w' ∧ w.heap.size ≤ sb ∧ w.heap.size ≤ eb ∧ ∃ lo, sb < lo ∧ eb < lo ∧ OAt w' lo pB ∧ OAt w' lo pH
theorem cell_of_map {w : World} {b : Nat} {es : Array MapEntry} {c : Nat} {p : Addr} {v : Value} (h : w.heap[b]? = some (.map es c)) (hv : w.cell? p = some v) : p.block ≠ b := by
  rintro rfl
  simp [World.cell?, h] at hv
theorem val_map {w w' : World} {b : Nat} {es : Array MapEntry} {c : Nat} (h : w.heap[b]? = some (.map es c)) (O : Only b w w') {g n v : Nat} (hv : VAt w g n v) : VAt w' g n v := by
  rcases hv with h0 | ⟨h1, h2, h3⟩ | ⟨h1, h2, h3⟩
  · exact .inl h0
  · exact .inr (.inl ⟨h1, h2, O.cell (cell_of_map h h3) h3⟩)
  · exact .inr (.inr ⟨h1, h2, O.cell (cell_of_map h h3) h3⟩)
theorem pat_map {w w' : World} {b : Nat} {es : Array MapEntry} {c : Nat} (h : w.heap[b]? = some (.map es c)) (O : Only b w w') {lo : Nat} {has : Bool} {cc : Int} {v : Nat} {p : Option Addr} (hv : PAt w lo has cc v p) : PAt w' lo has cc v p := by
  rcases hv with hh | ⟨h1, bb, g, n, h2, h3, h4⟩
  · exact .inl hh
  · exact .inr ⟨h1, bb, g, n, h2, ⟨O.cell (cell_of_map h h3.c0) h3.c0, O.cell (cell_of_map h h3.c1) h3.c1, val_map h O h3.val⟩, h4⟩
theorem only_set1 (w : World) (b o : Nat) (v : Value) : Only b w (w.setCell ⟨b, o, none⟩ v) :=
  ⟨rfl, rfl, rfl, by simp, fun k hk => Below.heap_setCell w ⟨b, o, none⟩ v k hk⟩

set_option maxRecDepth 100000 in
set_option maxHeartbeats 6400000 in
theorem build_walk (I : In) (kind ph : Int) (w : World) (hkind : kind = 0 ∨ kind = 1 ∨ kind = 2) (v4 : 0 ≤ I.f4 ∧ I.f4 < 256) (v7 : 0 ≤ I.f7 ∧ I.f7 < 256) (v12 : 0 ≤ I.f12 ∧ I.f12 < 256) (v15 : 0 ≤ I.f15 ∧ I.f15 < 256) (v18 : 0 ≤ I.f18 ∧ I.f18 < 256) (v21 : 0 ≤ I.f21 ∧ I.f21 < 256) :
    Calls Yba.prog 7 #[.agg I.cells.toArray, .int .i64 kind, .int .i64 ph] w fun e w' => BuildP w I kind ph e w' := by
  have hc : Hid (I.cells.toArray.size = 23) := rfl
  have HKd : Hid (kind = 0 ∨ kind = 1 ∨ kind = 2) := hkind
  clear hkind
  go_enter Yba.func7, Yba.ntmps7
  go_upto_region 2 with (refine wpList_store_new rfl 47 _ _ rfl _ _ k1L.toArray rfl (by simp [go_sem]) rfl (by kernel_rfl) (by kernel_rfl) (by kernel_rfl) ?_)
  obtain ⟨W0, EW⟩ : ∃ W0, Hid (W0 = (w.alloc (.cells I.cells.toArray 25)).alloc (.cells k1L.toArray 47)) := ⟨_, rfl⟩
  rw [← EW.out]
  have ri : W0.rangeAt w.heap.size 0 I.cells := by rw [EW.out]; exact World.rangeAt_alloc (range_new w I.cells 25) _
  have rk : W0.rangeAt (w.heap.size + 1) 0 k1L := by rw [EW.out]; exact range_newb _ _ _ (by simp [go_sem])
  have HB0 : Hid (Below w.heap.size w W0) := by rw [EW.out]; exact below2 _ _ _
  have hk0 : w.heap.size + 1 < W0.heap.size := by have := World.block_lt_of_cell? _ _ (rk 0 _ rfl); exact this
  clear EW
  have hm1 : ∀ w, (Instr.makeMap 60 none).run Yba.prog w = .ok (.map (some w.heap.size)) (w.alloc (.map #[] 0)) := fun w => rfl
  simp only [Act.put]
  go_cut [8] (fun s8 wx => ∃ eb kb zb, s8 = .pointer (some ⟨eb, 0, none⟩) ∧ wx.heap[eb]? = some (.cells (enL kb).toArray 71 (0, 0)) ∧ wx.heap[kb]? = some (.map #[⟨h0, .pointer (some ⟨zb, 0, none⟩), 0⟩] 1) ∧ wx.rangeAt zb 0 s0L ∧ W0.heap.size ≤ eb ∧ Hid (Below W0.heap.size W0 wx))
  case first =>
    refine wp_region_held_drew (S := fun w' => w'.rangeAt (w.heap.size + 1) 0 k1L) (by kernel_rfl) rk (fun hHeld => ?_)
    refine wpAnyH_take (i := 0) (v := .agg (k1L).toArray) rfl (by kernel_rfl) (by kernel_rfl) (by kernel_rfl) (fun _ _ _ h => h) (yieldsIf_load_mid (by rfl) 47 _ rfl _ 0 rfl (k1L) _ (fun w h => h) Yba.underlying47 rfl (by kernel_rfl)) (by assumption) ?_
    simp only [Act.put, List.getElem_toArray, List.getElem_cons_zero, List.getElem_cons_succ, List.setIfInBounds_toArray, List.set_cons_zero, List.set_cons_succ]
    refine wpAnyH_take (i := 2) (v := h0) rfl (by kernel_rfl) (by kernel_rfl) (by kernel_rfl) (fun _ _ _ h => h) (Or.inl ⟨by rfl, fun w _ => by kernel_rfl⟩) (by assumption) ?_
    simp only [Act.put, List.getElem_toArray, List.getElem_cons_zero, List.getElem_cons_succ, List.setIfInBounds_toArray, List.set_cons_zero, List.set_cons_succ]
    refine wpAnyH_take (i := 3) (v := ?v3) rfl (by kernel_rfl) (by kernel_rfl) (by kernel_rfl) (fun _ _ _ h => h) (Or.inl ⟨by rfl, ?hy3⟩) (by assumption) ?rest3
    case hy3 => (intro w hSw; (try dsimp only at hSw); go_simp) <;> (try with_reducible rfl)
    simp only [Act.put, List.getElem_toArray, List.getElem_cons_zero, List.getElem_cons_succ, List.setIfInBounds_toArray, List.set_cons_zero, List.set_cons_succ]
    refine wpAnyH_take (i := 4) (v := ?v4) rfl (by kernel_rfl) (by kernel_rfl) (by kernel_rfl) (fun _ _ _ h => h) (Or.inl ⟨by rfl, ?hy4⟩) (by assumption) ?rest4
    case hy4 => (intro w hSw; (try dsimp only at hSw); go_simp) <;> (try with_reducible rfl)
    simp only [Act.put, List.getElem_toArray, List.getElem_cons_zero, List.getElem_cons_succ, List.setIfInBounds_toArray, List.set_cons_zero, List.set_cons_succ]
    refine wpAnyH_ready (rs := [1, 5]) (by kernel_rfl) (by simp) ?_
    refine AllReadyH.cons rfl (fun K hK => ?_) (AllReadyH.cons rfl (fun K hK => ?_) AllReadyH.nil)
    · rw [if_pos (by rfl)]
      go_simp
      refine hK.out _ _ (World.rangeAt_alloc ((World.rangeAt_drew _ _ _ _).2 rk) _) (fun hHeld2 => ?_)
      clear hK K hHeld
      refine wpAnyH_ready (rs := [5]) (by kernel_rfl) (by simp) ?_
      refine AllReadyH.cons rfl (fun K hK => ?_) AllReadyH.nil
      rw [if_pos (by rfl)]
      go_simp
      have hrk : (((W0.alloc (.map #[] 0)).alloc (.cells #[.int .u32 0, .slice none 0 0, .slice none 0 0, .int .i64 0, .int .i64 0] 106)).drew).rangeAt (w.heap.size + 1) 0 k1L := World.rangeAt_alloc (World.rangeAt_alloc rk _) _
      refine hK.out _ _ hrk (fun hHeld3 => ?_)
      clear hK K hHeld2
      refine wpAnyH_ready (rs := [6]) (by kernel_rfl) (by simp) ?_
      refine AllReadyH.cons rfl (fun K hK => ?_) AllReadyH.nil
      rw [if_pos (by rfl)]
      go_simp
      have hBx : Below W0.heap.size W0 (((W0.alloc (.map #[] 0)).alloc (.cells #[.int .u32 0, .slice none 0 0, .slice none 0 0, .int .i64 0, .int .i64 0] 106)).drew) := (below2 _ _ _).drew
      obtain ⟨W3, hp, O3, f3⟩ := put_h0 (w := ((W0.alloc (.map #[] 0)).alloc (.cells #[.int .u32 0, .slice none 0 0, .slice none 0 0, .int .i64 0, .int .i64 0] 106)).drew) (b := W0.heap.size) (.pointer (some ⟨W0.heap.size + 1, 0, none⟩)) (heap_old _ (heap_at _ rfl))
      have hzr : (((W0.alloc (.map #[] 0)).alloc (.cells #[.int .u32 0, .slice none 0 0, .slice none 0 0, .int .i64 0, .int .i64 0] 106)).drew).rangeAt (W0.heap.size + 1) 0 s0L := range_kn _ (by simp [go_sem])
      rw [hp]
      simp only [Result.andThen]
      rw [Oper.upon_skip]
      have hrk3 : W3.rangeAt (w.heap.size + 1) 0 k1L := O3.range (by omega) hrk
      have hzr3 : W3.rangeAt (W0.heap.size + 1) 0 s0L := O3.range (by omega) hzr
      have hB3 : Below W0.heap.size W0 W3 := O3.below hBx (by omega)
      refine hK.out _ _ hrk3 (fun hHeld4 => ?_)
      clear hK K hHeld3 hp O3 hrk hzr hBx
      refine wpAnyH_take (i := 7) (v := ?v7m) rfl (by kernel_rfl) (by kernel_rfl) (by kernel_rfl) (fun _ _ _ h => h) (Or.inl ⟨by rfl, ?hy7m⟩) (by assumption) ?rest7m
      case hy7m => (intro w hSw; (try dsimp only at hSw); go_simp) <;> (try with_reducible rfl)
      simp only [Act.put, List.getElem_toArray, List.getElem_cons_zero, List.getElem_cons_succ, List.setIfInBounds_toArray, List.set_cons_zero, List.set_cons_succ]
      refine wpAnyH_take (i := 8) (v := .agg (enL (W0.heap.size)).toArray) rfl (by kernel_rfl) (by kernel_rfl) (by kernel_rfl) (fun _ _ _ h => h) (Or.inl ⟨by rfl, fun w _ => by kernel_rfl⟩) (by assumption) ?_
      simp only [Act.put, List.getElem_toArray, List.getElem_cons_zero, List.getElem_cons_succ, List.setIfInBounds_toArray, List.set_cons_zero, List.set_cons_succ]
      refine wpAnyH_ready (rs := [9]) (by kernel_rfl) (by simp) ?_
      refine AllReadyH.cons rfl (fun K hK => ?_) AllReadyH.nil
      rw [if_pos (by rfl)]
      go_simp
      refine hK.out _ _ (World.rangeAt_alloc hrk3 _) (fun hHeld5 => ?_)
      clear hK K hHeld4
      refine wpAnyH_take (i := 10) (v := ?v10m) rfl (by kernel_rfl) (by kernel_rfl) (by kernel_rfl) (fun _ _ _ h => h) (Or.inl ⟨by rfl, ?hy10m⟩) (by assumption) ?rest10m
      case hy10m => (intro w hSw; (try dsimp only at hSw); go_simp) <;> (try with_reducible rfl)
      simp only [Act.put, List.getElem_toArray, List.getElem_cons_zero, List.getElem_cons_succ, List.setIfInBounds_toArray, List.set_cons_zero, List.set_cons_succ]
      refine wpAnyH_done (by kernel_rfl) ?_ _
      go_wp2_with fail
      go_meet
      exact ⟨W3.heap.size, W0.heap.size, W0.heap.size + 1, rfl, heap_at _ rfl, heap_old _ f3, World.rangeAt_alloc hzr3 _, hB3.size, hB3.alloc hB3.size _⟩
    · rw [if_pos (by rfl)]
      go_simp
      refine hK.out _ _ (World.rangeAt_alloc ((World.rangeAt_drew _ _ _ _).2 rk) _) (fun hHeld2 => ?_)
      clear hK K hHeld
      refine wpAnyH_ready (rs := [1]) (by kernel_rfl) (by simp) ?_
      refine AllReadyH.cons rfl (fun K hK => ?_) AllReadyH.nil
      rw [if_pos (by rfl)]
      go_simp
      have hrk : (((W0.alloc (.cells #[.int .u32 0, .slice none 0 0, .slice none 0 0, .int .i64 0, .int .i64 0] 106)).alloc (.map #[] 0)).drew).rangeAt (w.heap.size + 1) 0 k1L := World.rangeAt_alloc (World.rangeAt_alloc rk _) _
      refine hK.out _ _ hrk (fun hHeld3 => ?_)
      clear hK K hHeld2
      refine wpAnyH_ready (rs := [6]) (by kernel_rfl) (by simp) ?_
      refine AllReadyH.cons rfl (fun K hK => ?_) AllReadyH.nil
      rw [if_pos (by rfl)]
      go_simp
      have hBx : Below W0.heap.size W0 (((W0.alloc (.cells #[.int .u32 0, .slice none 0 0, .slice none 0 0, .int .i64 0, .int .i64 0] 106)).alloc (.map #[] 0)).drew) := (below2 _ _ _).drew
      obtain ⟨W3, hp, O3, f3⟩ := put_h0 (w := ((W0.alloc (.cells #[.int .u32 0, .slice none 0 0, .slice none 0 0, .int .i64 0, .int .i64 0] 106)).alloc (.map #[] 0)).drew) (b := W0.heap.size + 1) (.pointer (some ⟨W0.heap.size, 0, none⟩)) (heap_at _ (by simp [go_sem]))
      have hzr : (((W0.alloc (.cells #[.int .u32 0, .slice none 0 0, .slice none 0 0, .int .i64 0, .int .i64 0] 106)).alloc (.map #[] 0)).drew).rangeAt (W0.heap.size) 0 s0L := World.rangeAt_alloc (range_kn (w := W0) _ rfl) _
      rw [hp]
      simp only [Result.andThen]
      rw [Oper.upon_skip]
      have hrk3 : W3.rangeAt (w.heap.size + 1) 0 k1L := O3.range (by omega) hrk
      have hzr3 : W3.rangeAt (W0.heap.size) 0 s0L := O3.range (by omega) hzr
      have hB3 : Below W0.heap.size W0 W3 := O3.below hBx (by omega)
      refine hK.out _ _ hrk3 (fun hHeld4 => ?_)
      clear hK K hHeld3 hp O3 hrk hzr hBx
      refine wpAnyH_take (i := 7) (v := ?v7n) rfl (by kernel_rfl) (by kernel_rfl) (by kernel_rfl) (fun _ _ _ h => h) (Or.inl ⟨by rfl, ?hy7n⟩) (by assumption) ?rest7n
      case hy7n => (intro w hSw; (try dsimp only at hSw); go_simp) <;> (try with_reducible rfl)
      simp only [Act.put, List.getElem_toArray, List.getElem_cons_zero, List.getElem_cons_succ, List.setIfInBounds_toArray, List.set_cons_zero, List.set_cons_succ]
      refine wpAnyH_take (i := 8) (v := .agg (enL (W0.heap.size + 1)).toArray) rfl (by kernel_rfl) (by kernel_rfl) (by kernel_rfl) (fun _ _ _ h => h) (Or.inl ⟨by rfl, fun w _ => by kernel_rfl⟩) (by assumption) ?_
      simp only [Act.put, List.getElem_toArray, List.getElem_cons_zero, List.getElem_cons_succ, List.setIfInBounds_toArray, List.set_cons_zero, List.set_cons_succ]
      refine wpAnyH_ready (rs := [9]) (by kernel_rfl) (by simp) ?_
      refine AllReadyH.cons rfl (fun K hK => ?_) AllReadyH.nil
      rw [if_pos (by rfl)]
      go_simp
      refine hK.out _ _ (World.rangeAt_alloc hrk3 _) (fun hHeld5 => ?_)
      clear hK K hHeld4
      refine wpAnyH_take (i := 10) (v := ?v10n) rfl (by kernel_rfl) (by kernel_rfl) (by kernel_rfl) (fun _ _ _ h => h) (Or.inl ⟨by rfl, ?hy10n⟩) (by assumption) ?rest10n
      case hy10n => (intro w hSw; (try dsimp only at hSw); go_simp) <;> (try with_reducible rfl)
      simp only [Act.put, List.getElem_toArray, List.getElem_cons_zero, List.getElem_cons_succ, List.setIfInBounds_toArray, List.set_cons_zero, List.set_cons_succ]
      refine wpAnyH_done (by kernel_rfl) ?_ _
      go_wp2_with fail
      go_meet
      exact ⟨W3.heap.size, W0.heap.size + 1, W0.heap.size, rfl, heap_at _ rfl, heap_old _ f3, World.rangeAt_alloc hzr3 _, hB3.size, hB3.alloc hB3.size _⟩
  case rest =>
    obtain ⟨eb, kb, zb, rfl, e1, e2, e3, hle, HB1⟩ := hcut
    clear hm1
    replace rk := below_range HB1.out rk
    replace ri := below_range HB1.out ri
    have HBw : Hid (Below w.heap.size w wc) := HB0.out.trans (HB1.out.mono HB0.out.size)
    have c2 : wc.cell? ⟨w.heap.size, 2, none⟩ = some (.int .u64 I.f2) := ri 2 _ rfl
    have hwc : w.heap.size < wc.heap.size := World.block_lt_of_cell? _ _ c2
    have hwc1 : w.heap.size + 1 < wc.heap.size := by have := HB1.out.size; omega
    have HN : Hid (Calls Yba.prog 20 #[.pointer (some ⟨eb, 0, none⟩), .int .u64 I.f2] wc fun e w' => ∃ sb a mb c, e = .returned (.pointer (some ⟨sb, 0, none⟩)) ∧ w'.heap[sb]? = some (.cells (slL eb I.f2 a mb c).toArray 45 (0, 0)) ∧ w'.heap[mb]? = some (.map #[] 0) ∧ wc.heap.size ≤ sb ∧ wc.heap.size ≤ mb ∧ Below wc.heap.size wc w') := new_walk eb I.f2 wc
    have heb : eb < wc.heap.size := (Array.getElem?_eq_some_iff.1 e1).1
    have hkb : kb < wc.heap.size := (Array.getElem?_eq_some_iff.1 e2).1
    have hzb : zb < wc.heap.size := World.block_lt_of_cell? _ _ (e3 0 _ rfl)
    go_upto_region 4 with (go_at_call 20; refine HN.out.mono ?_; rintro e w5 ⟨sb, a, mb, cc, rfl, s1, s2, hsb, hmb, HB5⟩)
    have HB5' : Hid (Below wc.heap.size wc w5) := HB5
    clear HN c2
    replace ri := below_range HB5 ri
    replace rk := below_range HB5 rk
    replace e1 := below_obj HB5 e1
    replace e2 := below_obj HB5 e2
    replace e3 := below_range HB5 e3
    clear HB5
    have c10 : w5.cell? ⟨w.heap.size, 10, none⟩ = some (.bool I.f10) := ri 10 _ rfl
    have c11 : w5.cell? ⟨w.heap.size, 11, none⟩ = some (.int .u32 I.f11) := ri 11 _ rfl
    have c12 : w5.cell? ⟨w.heap.size, 12, none⟩ = some (.int .u8 I.f12) := ri 12 _ rfl
    have c13 : w5.cell? ⟨w.heap.size, 13, none⟩ = some (.bool I.f13) := ri 13 _ rfl
    have c14 : w5.cell? ⟨w.heap.size, 14, none⟩ = some (.int .u32 I.f14) := ri 14 _ rfl
    have c15 : w5.cell? ⟨w.heap.size, 15, none⟩ = some (.int .u8 I.f15) := ri 15 _ rfl
    have c16 : w5.cell? ⟨w.heap.size, 16, none⟩ = some (.bool I.f16) := ri 16 _ rfl
    have c17 : w5.cell? ⟨w.heap.size, 17, none⟩ = some (.int .u32 I.f17) := ri 17 _ rfl
    have c18 : w5.cell? ⟨w.heap.size, 18, none⟩ = some (.int .u8 I.f18) := ri 18 _ rfl
    have c19 : w5.cell? ⟨w.heap.size, 19, none⟩ = some (.bool I.f19) := ri 19 _ rfl
    have c20 : w5.cell? ⟨w.heap.size, 20, none⟩ = some (.int .u32 I.f20) := ri 20 _ rfl
    have c21 : w5.cell? ⟨w.heap.size, 21, none⟩ = some (.int .u8 I.f21) := ri 21 _ rfl
    have HBL : Hid (∀ (has : Bool) (c x : Int) (w : World), 0 ≤ x → x < 256 → Calls Yba.prog 13 #[.bool has, .int .u32 c, .int .u8 x] w fun e w' => ∃ p, e = .returned (.pointer p) ∧ PAt w' w.heap.size has c (x % 3).toNat p ∧ OAt w' w.heap.size p ∧ Below w.heap.size w w') := fun has c x w h0 h1 => bal_walk2 has c x w h0 h1
    go_cut [] (fun wx => ∃ pB pP pPP pH, (∃ w6, wx = w6.setCells sb 15 [.int .i64 ph, .pointer pB, .pointer pP, .pointer pPP, .pointer pH, .pointer none, .int .u32 0, .int .u32 0] ∧ Hid (Below w5.heap.size w5 w6) ∧ PAt w6 w5.heap.size I.f10 I.f11 (I.f12 % 3).toNat pB ∧ PAt w6 w5.heap.size I.f13 I.f14 (I.f15 % 3).toNat pP ∧ PAt w6 w5.heap.size I.f16 I.f17 (I.f18 % 3).toNat pPP ∧ PAt w6 w5.heap.size I.f19 I.f20 (I.f21 % 3).toNat pH ∧ OAt w6 w5.heap.size pB ∧ OAt w6 w5.heap.size pH))
    case first =>
      refine wp_region_held_drew (S := fun w' => w'.cell? ⟨w.heap.size, 10, none⟩ = some (.bool I.f10) ∧ w'.cell? ⟨w.heap.size, 11, none⟩ = some (.int .u32 I.f11) ∧ w'.cell? ⟨w.heap.size, 12, none⟩ = some (.int .u8 I.f12) ∧ w'.cell? ⟨w.heap.size, 13, none⟩ = some (.bool I.f13) ∧ w'.cell? ⟨w.heap.size, 14, none⟩ = some (.int .u32 I.f14) ∧ w'.cell? ⟨w.heap.size, 15, none⟩ = some (.int .u8 I.f15) ∧ w'.cell? ⟨w.heap.size, 16, none⟩ = some (.bool I.f16) ∧ w'.cell? ⟨w.heap.size, 17, none⟩ = some (.int .u32 I.f17) ∧ w'.cell? ⟨w.heap.size, 18, none⟩ = some (.int .u8 I.f18) ∧ w'.cell? ⟨w.heap.size, 19, none⟩ = some (.bool I.f19) ∧ w'.cell? ⟨w.heap.size, 20, none⟩ = some (.int .u32 I.f20) ∧ w'.cell? ⟨w.heap.size, 21, none⟩ = some (.int .u8 I.f21)) (by kernel_rfl) ⟨c10, c11, c12, c13, c14, c15, c16, c17, c18, c19, c20, c21⟩ (fun hHeld => ?_)
      refine wpAnyH_take (i := 0) (v := ?v0p) rfl (by kernel_rfl) (by kernel_rfl) (by kernel_rfl) (fun _ _ _ h => h) (Or.inl ⟨by rfl, ?hy0p⟩) (by assumption) ?rest0p
      case hy0p => (intro w hSw; (try dsimp only at hSw); go_simp) <;> (try with_reducible rfl)
      simp only [Act.put, List.getElem_toArray, List.getElem_cons_zero, List.getElem_cons_succ, List.setIfInBounds_toArray, List.set_cons_zero, List.set_cons_succ]
      refine wpAnyH_take (i := 1) (v := ?v1p) rfl (by kernel_rfl) (by kernel_rfl) (by kernel_rfl) (fun _ _ _ h => h) (Or.inl ⟨by rfl, ?hy1p⟩) (by assumption) ?rest1p
      case hy1p => (intro w hSw; (try dsimp only at hSw); go_simp) <;> (try with_reducible rfl)
      simp only [Act.put, List.getElem_toArray, List.getElem_cons_zero, List.getElem_cons_succ, List.setIfInBounds_toArray, List.set_cons_zero, List.set_cons_succ]
      refine wpAnyH_take (i := 2) (v := ?v2p) rfl (by kernel_rfl) (by kernel_rfl) (by kernel_rfl) (fun _ _ _ h => h) (Or.inl ⟨by rfl, ?hy2p⟩) (by assumption) ?rest2p
      case hy2p => (intro w hSw; (try dsimp only at hSw); go_simp) <;> (try with_reducible rfl)
      simp only [Act.put, List.getElem_toArray, List.getElem_cons_zero, List.getElem_cons_succ, List.setIfInBounds_toArray, List.set_cons_zero, List.set_cons_succ]
      refine wpAnyH_take (i := 3) (v := ?v3p) rfl (by kernel_rfl) (by kernel_rfl) (by kernel_rfl) (fun _ _ _ h => h) (Or.inl ⟨by rfl, ?hy3p⟩) (by assumption) ?rest3p
      case hy3p => (intro w hSw; (try dsimp only at hSw); go_simp) <;> (try with_reducible rfl)
      simp only [Act.put, List.getElem_toArray, List.getElem_cons_zero, List.getElem_cons_succ, List.setIfInBounds_toArray, List.set_cons_zero, List.set_cons_succ]
      refine wpAnyH_take (i := 4) (v := ?v4p) rfl (by kernel_rfl) (by kernel_rfl) (by kernel_rfl) (fun _ _ _ h => h) (Or.inl ⟨by rfl, ?hy4p⟩) (by assumption) ?rest4p
      case hy4p => (intro w hSw; (try dsimp only at hSw); go_simp) <;> (try with_reducible rfl)
      simp only [Act.put, List.getElem_toArray, List.getElem_cons_zero, List.getElem_cons_succ, List.setIfInBounds_toArray, List.set_cons_zero, List.set_cons_succ]
      refine wpAnyH_take (i := 5) (v := ?v5p) rfl (by kernel_rfl) (by kernel_rfl) (by kernel_rfl) (fun _ _ _ h => h) (Or.inl ⟨by rfl, ?hy5p⟩) (by assumption) ?rest5p
      case hy5p => (intro w hSw; (try dsimp only at hSw); go_simp) <;> (try with_reducible rfl)
      simp only [Act.put, List.getElem_toArray, List.getElem_cons_zero, List.getElem_cons_succ, List.setIfInBounds_toArray, List.set_cons_zero, List.set_cons_succ]
      refine wpAnyH_take (i := 6) (v := ?v6p) rfl (by kernel_rfl) (by kernel_rfl) (by kernel_rfl) (fun _ _ _ h => h) (Or.inl ⟨by rfl, ?hy6p⟩) (by assumption) ?rest6p
      case hy6p => (intro w hSw; (try dsimp only at hSw); go_simp) <;> (try with_reducible rfl)
      simp only [Act.put, List.getElem_toArray, List.getElem_cons_zero, List.getElem_cons_succ, List.setIfInBounds_toArray, List.set_cons_zero, List.set_cons_succ]
      refine wpAnyH_take (i := 7) (v := ?v7p) rfl (by kernel_rfl) (by kernel_rfl) (by kernel_rfl) (fun _ _ _ h => h) (Or.inl ⟨by rfl, ?hy7p⟩) (by assumption) ?rest7p
      case hy7p => (intro w hSw; (try dsimp only at hSw); go_simp) <;> (try with_reducible rfl)
      simp only [Act.put, List.getElem_toArray, List.getElem_cons_zero, List.getElem_cons_succ, List.setIfInBounds_toArray, List.set_cons_zero, List.set_cons_succ]
      refine wpAnyH_take (i := 9) (v := ?v9p) rfl (by kernel_rfl) (by kernel_rfl) (by kernel_rfl) (fun _ _ _ h => h) (Or.inl ⟨by rfl, ?hy9p⟩) (by assumption) ?rest9p
      case hy9p => (intro w hSw; (try dsimp only at hSw); go_simp) <;> (try with_reducible rfl)
      simp only [Act.put, List.getElem_toArray, List.getElem_cons_zero, List.getElem_cons_succ, List.setIfInBounds_toArray, List.set_cons_zero, List.set_cons_succ]
      refine wpAnyH_take (i := 10) (v := ?v10p) rfl (by kernel_rfl) (by kernel_rfl) (by kernel_rfl) (fun _ _ _ h => h) (Or.inl ⟨by rfl, ?hy10p⟩) (by assumption) ?rest10p
      case hy10p => (intro w hSw; (try dsimp only at hSw); go_simp) <;> (try with_reducible rfl)
      simp only [Act.put, List.getElem_toArray, List.getElem_cons_zero, List.getElem_cons_succ, List.setIfInBounds_toArray, List.set_cons_zero, List.set_cons_succ]
      refine wpAnyH_take (i := 11) (v := ?v11p) rfl (by kernel_rfl) (by kernel_rfl) (by kernel_rfl) (fun _ _ _ h => h) (Or.inl ⟨by rfl, ?hy11p⟩) (by assumption) ?rest11p
      case hy11p => (intro w hSw; (try dsimp only at hSw); go_simp) <;> (try with_reducible rfl)
      simp only [Act.put, List.getElem_toArray, List.getElem_cons_zero, List.getElem_cons_succ, List.setIfInBounds_toArray, List.set_cons_zero, List.set_cons_succ]
      refine wpAnyH_take (i := 12) (v := ?v12p) rfl (by kernel_rfl) (by kernel_rfl) (by kernel_rfl) (fun _ _ _ h => h) (Or.inl ⟨by rfl, ?hy12p⟩) (by assumption) ?rest12p
      case hy12p => (intro w hSw; (try dsimp only at hSw); go_simp) <;> (try with_reducible rfl)
      simp only [Act.put, List.getElem_toArray, List.getElem_cons_zero, List.getElem_cons_succ, List.setIfInBounds_toArray, List.set_cons_zero, List.set_cons_succ]
      refine wpAnyH_take (i := 13) (v := ?v13p) rfl (by kernel_rfl) (by kernel_rfl) (by kernel_rfl) (fun _ _ _ h => h) (Or.inl ⟨by rfl, ?hy13p⟩) (by assumption) ?rest13p
      case hy13p => (intro w hSw; (try dsimp only at hSw); go_simp) <;> (try with_reducible rfl)
      simp only [Act.put, List.getElem_toArray, List.getElem_cons_zero, List.getElem_cons_succ, List.setIfInBounds_toArray, List.set_cons_zero, List.set_cons_succ]
      refine wpAnyH_take (i := 14) (v := ?v14p) rfl (by kernel_rfl) (by kernel_rfl) (by kernel_rfl) (fun _ _ _ h => h) (Or.inl ⟨by rfl, ?hy14p⟩) (by assumption) ?rest14p
      case hy14p => (intro w hSw; (try dsimp only at hSw); go_simp) <;> (try with_reducible rfl)
      simp only [Act.put, List.getElem_toArray, List.getElem_cons_zero, List.getElem_cons_succ, List.setIfInBounds_toArray, List.set_cons_zero, List.set_cons_succ]
      refine wpAnyH_take (i := 16) (v := ?v16p) rfl (by kernel_rfl) (by kernel_rfl) (by kernel_rfl) (fun _ _ _ h => h) (Or.inl ⟨by rfl, ?hy16p⟩) (by assumption) ?rest16p
      case hy16p => (intro w hSw; (try dsimp only at hSw); go_simp) <;> (try with_reducible rfl)
      simp only [Act.put, List.getElem_toArray, List.getElem_cons_zero, List.getElem_cons_succ, List.setIfInBounds_toArray, List.set_cons_zero, List.set_cons_succ]
      refine wpAnyH_take (i := 17) (v := ?v17p) rfl (by kernel_rfl) (by kernel_rfl) (by kernel_rfl) (fun _ _ _ h => h) (Or.inl ⟨by rfl, ?hy17p⟩) (by assumption) ?rest17p
      case hy17p => (intro w hSw; (try dsimp only at hSw); go_simp) <;> (try with_reducible rfl)
      simp only [Act.put, List.getElem_toArray, List.getElem_cons_zero, List.getElem_cons_succ, List.setIfInBounds_toArray, List.set_cons_zero, List.set_cons_succ]
      refine wpAnyH_take (i := 18) (v := ?v18p) rfl (by kernel_rfl) (by kernel_rfl) (by kernel_rfl) (fun _ _ _ h => h) (Or.inl ⟨by rfl, ?hy18p⟩) (by assumption) ?rest18p
      case hy18p => (intro w hSw; (try dsimp only at hSw); go_simp) <;> (try with_reducible rfl)
      simp only [Act.put, List.getElem_toArray, List.getElem_cons_zero, List.getElem_cons_succ, List.setIfInBounds_toArray, List.set_cons_zero, List.set_cons_succ]
      refine wpAnyH_take (i := 19) (v := ?v19p) rfl (by kernel_rfl) (by kernel_rfl) (by kernel_rfl) (fun _ _ _ h => h) (Or.inl ⟨by rfl, ?hy19p⟩) (by assumption) ?rest19p
      case hy19p => (intro w hSw; (try dsimp only at hSw); go_simp) <;> (try with_reducible rfl)
      simp only [Act.put, List.getElem_toArray, List.getElem_cons_zero, List.getElem_cons_succ, List.setIfInBounds_toArray, List.set_cons_zero, List.set_cons_succ]
      refine wpAnyH_take (i := 20) (v := ?v20p) rfl (by kernel_rfl) (by kernel_rfl) (by kernel_rfl) (fun _ _ _ h => h) (Or.inl ⟨by rfl, ?hy20p⟩) (by assumption) ?rest20p
      case hy20p => (intro w hSw; (try dsimp only at hSw); go_simp) <;> (try with_reducible rfl)
      simp only [Act.put, List.getElem_toArray, List.getElem_cons_zero, List.getElem_cons_succ, List.setIfInBounds_toArray, List.set_cons_zero, List.set_cons_succ]
      refine wpAnyH_take (i := 21) (v := ?v21p) rfl (by kernel_rfl) (by kernel_rfl) (by kernel_rfl) (fun _ _ _ h => h) (Or.inl ⟨by rfl, ?hy21p⟩) (by assumption) ?rest21p
      case hy21p => (intro w hSw; (try dsimp only at hSw); go_simp) <;> (try with_reducible rfl)
      simp only [Act.put, List.getElem_toArray, List.getElem_cons_zero, List.getElem_cons_succ, List.setIfInBounds_toArray, List.set_cons_zero, List.set_cons_succ]
      refine wpAnyH_take (i := 23) (v := ?v23p) rfl (by kernel_rfl) (by kernel_rfl) (by kernel_rfl) (fun _ _ _ h => h) (Or.inl ⟨by rfl, ?hy23p⟩) (by assumption) ?rest23p
      case hy23p => (intro w hSw; (try dsimp only at hSw); go_simp) <;> (try with_reducible rfl)
      simp only [Act.put, List.getElem_toArray, List.getElem_cons_zero, List.getElem_cons_succ, List.setIfInBounds_toArray, List.set_cons_zero, List.set_cons_succ]
      refine wpAnyH_take (i := 24) (v := ?v24p) rfl (by kernel_rfl) (by kernel_rfl) (by kernel_rfl) (fun _ _ _ h => h) (Or.inl ⟨by rfl, ?hy24p⟩) (by assumption) ?rest24p
      case hy24p => (intro w hSw; (try dsimp only at hSw); go_simp) <;> (try with_reducible rfl)
      simp only [Act.put, List.getElem_toArray, List.getElem_cons_zero, List.getElem_cons_succ, List.setIfInBounds_toArray, List.set_cons_zero, List.set_cons_succ]
      refine wpAnyH_take (i := 25) (v := ?v25p) rfl (by kernel_rfl) (by kernel_rfl) (by kernel_rfl) (fun _ _ _ h => h) (Or.inl ⟨by rfl, ?hy25p⟩) (by assumption) ?rest25p
      case hy25p => (intro w hSw; (try dsimp only at hSw); go_simp) <;> (try with_reducible rfl)
      simp only [Act.put, List.getElem_toArray, List.getElem_cons_zero, List.getElem_cons_succ, List.setIfInBounds_toArray, List.set_cons_zero, List.set_cons_succ]
      refine wpAnyH_take (i := 26) (v := ?v26p) rfl (by kernel_rfl) (by kernel_rfl) (by kernel_rfl) (fun _ _ _ h => h) (Or.inl ⟨by rfl, ?hy26p⟩) (by assumption) ?rest26p
      case hy26p => (intro w hSw; (try dsimp only at hSw); go_simp) <;> (try with_reducible rfl)
      simp only [Act.put, List.getElem_toArray, List.getElem_cons_zero, List.getElem_cons_succ, List.setIfInBounds_toArray, List.set_cons_zero, List.set_cons_succ]
      refine wpAnyH_take (i := 27) (v := ?v27p) rfl (by kernel_rfl) (by kernel_rfl) (by kernel_rfl) (fun _ _ _ h => h) (Or.inl ⟨by rfl, ?hy27p⟩) (by assumption) ?rest27p
      case hy27p => (intro w hSw; (try dsimp only at hSw); go_simp) <;> (try with_reducible rfl)
      simp only [Act.put, List.getElem_toArray, List.getElem_cons_zero, List.getElem_cons_succ, List.setIfInBounds_toArray, List.set_cons_zero, List.set_cons_succ]
      refine wpAnyH_take (i := 28) (v := ?v28p) rfl (by kernel_rfl) (by kernel_rfl) (by kernel_rfl) (fun _ _ _ h => h) (Or.inl ⟨by rfl, ?hy28p⟩) (by assumption) ?rest28p
      case hy28p => (intro w hSw; (try dsimp only at hSw); go_simp) <;> (try with_reducible rfl)
      simp only [Act.put, List.getElem_toArray, List.getElem_cons_zero, List.getElem_cons_succ, List.setIfInBounds_toArray, List.set_cons_zero, List.set_cons_succ]
      refine wpAnyH_ready (rs := [8]) (by kernel_rfl) (by simp) ?_
      refine AllReadyH.cons rfl (fun K hK => ?_) AllReadyH.nil
      rw [if_pos (by rfl)]
      go_simp
      refine (HBL.out _ _ _ _ v12.1 v12.2).mono ?_
      rintro e w6 ⟨pB, rfl, hpB, opB, hb6⟩
      have b6 : Below w5.heap.size w5 w6 := (Below.refl _ w5).drew.trans hb6
      refine hK.out _ _ ⟨below_keep b6 c10, below_keep b6 c11, below_keep b6 c12, below_keep b6 c13, below_keep b6 c14, below_keep b6 c15, below_keep b6 c16, below_keep b6 c17, below_keep b6 c18, below_keep b6 c19, below_keep b6 c20, below_keep b6 c21⟩ (fun hHeld2 => ?_)
      clear hK K hHeld
      refine wpAnyH_ready (rs := [15]) (by kernel_rfl) (by simp) ?_
      refine AllReadyH.cons rfl (fun K hK => ?_) AllReadyH.nil
      rw [if_pos (by rfl)]
      go_simp
      refine (HBL.out _ _ _ _ v15.1 v15.2).mono ?_
      rintro e w7 ⟨pP, rfl, hpP, _, hb7⟩
      have b7 : Below w5.heap.size w5 w7 := b6.trans (hb7.mono b6.size)
      refine hK.out _ _ ⟨below_keep b7 c10, below_keep b7 c11, below_keep b7 c12, below_keep b7 c13, below_keep b7 c14, below_keep b7 c15, below_keep b7 c16, below_keep b7 c17, below_keep b7 c18, below_keep b7 c19, below_keep b7 c20, below_keep b7 c21⟩ (fun hHeld7 => ?_)
      clear hK K
      refine wpAnyH_ready (rs := [22]) (by kernel_rfl) (by simp) ?_
      refine AllReadyH.cons rfl (fun K hK => ?_) AllReadyH.nil
      rw [if_pos (by rfl)]
      go_simp
      refine (HBL.out _ _ _ _ v18.1 v18.2).mono ?_
      rintro e w8 ⟨pPP, rfl, hpPP, _, hb8⟩
      have b8 : Below w5.heap.size w5 w8 := b7.trans (hb8.mono b7.size)
      refine hK.out _ _ ⟨below_keep b8 c10, below_keep b8 c11, below_keep b8 c12, below_keep b8 c13, below_keep b8 c14, below_keep b8 c15, below_keep b8 c16, below_keep b8 c17, below_keep b8 c18, below_keep b8 c19, below_keep b8 c20, below_keep b8 c21⟩ (fun hHeld8 => ?_)
      clear hK K
      refine wpAnyH_ready (rs := [29]) (by kernel_rfl) (by simp) ?_
      refine AllReadyH.cons rfl (fun K hK => ?_) AllReadyH.nil
      rw [if_pos (by rfl)]
      go_simp
      refine (HBL.out _ _ _ _ v21.1 v21.2).mono ?_
      rintro e w9 ⟨pH, rfl, hpH, opH, hb9⟩
      have b9 : Below w5.heap.size w5 w9 := b8.trans (hb9.mono b8.size)
      refine hK.out _ _ ⟨below_keep b9 c10, below_keep b9 c11, below_keep b9 c12, below_keep b9 c13, below_keep b9 c14, below_keep b9 c15, below_keep b9 c16, below_keep b9 c17, below_keep b9 c18, below_keep b9 c19, below_keep b9 c20, below_keep b9 c21⟩ (fun hHeld9 => ?_)
      clear hK K
      refine wpAnyH_take (i := 30) (v := ?v30q) rfl (by kernel_rfl) (by kernel_rfl) (by kernel_rfl) (fun _ _ _ h => h) (Or.inl ⟨by rfl, ?hy30q⟩) (by assumption) ?rest30q
      case hy30q => (intro w hSw; (try dsimp only at hSw); go_simp) <;> (try with_reducible rfl)
      simp only [Act.put, List.getElem_toArray, List.getElem_cons_zero, List.getElem_cons_succ, List.setIfInBounds_toArray, List.set_cons_zero, List.set_cons_succ]
      refine wpAnyH_take (i := 31) (v := ?v31q) rfl (by kernel_rfl) (by kernel_rfl) (by kernel_rfl) (fun _ _ _ h => h) (Or.inl ⟨by rfl, ?hy31q⟩) (by assumption) ?rest31q
      case hy31q => (intro w hSw; (try dsimp only at hSw); go_simp) <;> (try with_reducible rfl)
      simp only [Act.put, List.getElem_toArray, List.getElem_cons_zero, List.getElem_cons_succ, List.setIfInBounds_toArray, List.set_cons_zero, List.set_cons_succ]
      refine wpAnyH_take (i := 32) (v := ?v32q) rfl (by kernel_rfl) (by kernel_rfl) (by kernel_rfl) (fun _ _ _ h => h) (Or.inl ⟨by rfl, ?hy32q⟩) (by assumption) ?rest32q
      case hy32q => (intro w hSw; (try dsimp only at hSw); go_simp) <;> (try with_reducible rfl)
      simp only [Act.put, List.getElem_toArray, List.getElem_cons_zero, List.getElem_cons_succ, List.setIfInBounds_toArray, List.set_cons_zero, List.set_cons_succ]
      refine wpAnyH_ready (rs := [33]) (by kernel_rfl) (by simp) ?_
      refine AllReadyH.cons rfl (fun K hK => ?_) AllReadyH.nil
      rw [if_pos (by rfl)]
      have s19 := below_obj b9 s1
      refine wp_store_mid 41 _ _ rfl sb 15 #[.int .i64 ph, .pointer pB, .pointer pP, .pointer pPP, .pointer pH, .pointer none, .int .u32 0, .int .u32 0] rfl rfl (there_block s19 (by show 15 + 8 ≤ 27; omega)) (by kernel_rfl) (by kernel_rfl) ?_
      have hne : w.heap.size ≠ sb := by omega
      refine hK.out _ _ ⟨(only_setCells sb _ 15 w9).cell hne (below_keep b9 c10), (only_setCells sb _ 15 w9).cell hne (below_keep b9 c11), (only_setCells sb _ 15 w9).cell hne (below_keep b9 c12), (only_setCells sb _ 15 w9).cell hne (below_keep b9 c13), (only_setCells sb _ 15 w9).cell hne (below_keep b9 c14), (only_setCells sb _ 15 w9).cell hne (below_keep b9 c15), (only_setCells sb _ 15 w9).cell hne (below_keep b9 c16), (only_setCells sb _ 15 w9).cell hne (below_keep b9 c17), (only_setCells sb _ 15 w9).cell hne (below_keep b9 c18), (only_setCells sb _ 15 w9).cell hne (below_keep b9 c19), (only_setCells sb _ 15 w9).cell hne (below_keep b9 c20), (only_setCells sb _ 15 w9).cell hne (below_keep b9 c21)⟩ (fun hHeld10 => ?_)
      refine wpAnyH_done (by kernel_rfl) ?_ _
      go_wp2_with fail
      go_meet
      exact ⟨pB, pP, pPP, pH, w9, rfl, b9, (((hpB.below hb7).below hb8).below hb9).lo (Nat.le_refl _), ((hpP.below hb8).below hb9).lo b6.size, (hpPP.below hb9).lo b7.size, hpH.lo b8.size, (((opB.below hb7).below hb8).below hb9).lo (Nat.le_refl _), opH.lo b8.size⟩
    case rest =>
      obtain ⟨pB, pP, pPP, pH, w6, E6, HB6, hB, hP, hPP, hH, oB, oH⟩ := hcut
      have O6 := only_setCells sb [.int .i64 ph, .pointer pB, .pointer pP, .pointer pPP, .pointer pH, .pointer none, .int .u32 0, .int .u32 0] 15 w6
      rw [← E6] at O6
      have hmbs : mb ≠ sb := by rintro rfl; rw [s1] at s2; cases s2
      have SE0 := pre_slot (ph := ph) pB pP pPP pH (below_obj HB6.out s1) (below_obj HB6.out e1) (below_obj HB6.out e2) (below_range HB6.out e3) (by omega) (by omega) (by omega)
      rw [← E6] at SE0
      have hs5 : sb < w5.heap.size := (Array.getElem?_eq_some_iff.1 s1).1
      have hm5 : mb < w5.heap.size := (Array.getElem?_eq_some_iff.1 s2).1
      have he5 : eb < w5.heap.size := (Array.getElem?_eq_some_iff.1 e1).1
      have QB : Hid (OAt wc w5.heap.size pB) := oB.only O6 hs5
      have QH : Hid (OAt wc w5.heap.size pH) := oH.only O6 hs5
      have m6 := O6.obj hmbs (below_obj HB6.out s2)
      have ri6 := O6.range (by omega) (below_range HB6.out ri)
      have rk6 := O6.range (by omega) (below_range HB6.out rk)
      have HpB : Hid (PAt wc w.heap.size I.f10 I.f11 (I.f12 % 3).toNat pB) := by rw [E6]; exact (hB.sets _).lo (by have := HBw.out.size; have := HB5'.out.size; omega)
      have HpP : Hid (PAt wc w.heap.size I.f13 I.f14 (I.f15 % 3).toNat pP) := by rw [E6]; exact (hP.sets _).lo (by have := HBw.out.size; have := HB5'.out.size; omega)
      have HpPP : Hid (PAt wc w.heap.size I.f16 I.f17 (I.f18 % 3).toNat pPP) := by rw [E6]; exact (hPP.sets _).lo (by have := HBw.out.size; have := HB5'.out.size; omega)
      have HpH : Hid (PAt wc w.heap.size I.f19 I.f20 (I.f21 % 3).toNat pH) := by rw [E6]; exact (hH.sets _).lo (by have := HBw.out.size; have := HB5'.out.size; omega)
      have HBc : Hid (Below w.heap.size w wc) := O6.below ((HBw.out.trans (HB5'.out.mono HBw.out.size)).trans (HB6.out.mono (Nat.le_trans HBw.out.size HB5'.out.size))) (by have := HBw.out.size; omega)
      have hsw : w.heap.size < sb := by omega
      have hmw : w.heap.size < mb := by omega
      have hmb2 : eb ≠ mb ∧ kb ≠ mb ∧ zb ≠ mb := ⟨by omega, by omega, by omega⟩
      have hsb2 : eb ≠ sb ∧ kb ≠ sb ∧ zb ≠ sb := ⟨by omega, by omega, by omega⟩
      have hew : w.heap.size ≤ eb := by have := HB0.out.size; omega
      have c22 : wc.cell? ⟨w.heap.size, 22, none⟩ = some (.bool I.f22) := ri6 22 _ rfl
      have c5 := SE0.st
      have f5 := SE0.f5
      have hl1 : sb < wc.heap.size := World.block_lt_of_cell? _ _ c5
      have HSE : Hid (SlotE wc sb eb mb kb zb I.f2 ph pB pP pPP pH false) := SE0
      have hl2 : w.heap.size < wc.heap.size := World.block_lt_of_cell? _ _ c22
      clear SE0 E6 O6 hB hP hPP hH oB oH HB6 s1 s2 e1 e2 e3 ri rk HBw HB5' hsb hmb heb hkb hzb HB1 HB0 hle HBL hk0
      clear c10 c11 c12 c13 c14 c15 c16 c17 c18 c19 c20 c21
      go_upto_region 6 with fail
      obtain ⟨W7, E7⟩ : ∃ W7, Hid (W7 = wc.setCell ⟨sb, 5, none⟩ (.bool I.f22)) := ⟨_, rfl⟩
      rw [← E7.out]
      have O7 : Only sb wc W7 := by rw [E7.out]; exact only_set1 _ _ _ _
      have F7 : Fr sb eb wc W7 := by rw [E7.out]; exact Fr.set _ _ _ (.inl rfl)
      have HSE7 : Hid (SlotE W7 sb eb mb kb zb I.f2 ph pB pP pPP pH I.f22) := by rw [E7.out]; exact HSE.out.set5 _ hsb2.2.1
      have m7 := O7.obj hmbs m6
      have ri7 := O7.range (by omega) ri6
      have rk7 : W7.rangeAt (w.heap.size + 1) 0 k1L := by
        have hne : w.heap.size + 1 ≠ sb := by
          intro e
          have h0 := rk6 0 _ rfl
          rw [e] at h0
          have h1 := HSE.out.e
          rw [h1] at h0
          cases h0
        exact O7.range hne rk6
      have GpB : Hid (PAt W7 w.heap.size I.f10 I.f11 (I.f12 % 3).toNat pB) := HpB.out.fr F7
      have GpP : Hid (PAt W7 w.heap.size I.f13 I.f14 (I.f15 % 3).toNat pP) := HpP.out.fr F7
      have GpPP : Hid (PAt W7 w.heap.size I.f16 I.f17 (I.f18 % 3).toNat pPP) := HpPP.out.fr F7
      have GpH : Hid (PAt W7 w.heap.size I.f19 I.f20 (I.f21 % 3).toNat pH) := HpH.out.fr F7
      have QB7 : Hid (OAt W7 w5.heap.size pB) := QB.out.only O7 hs5
      have QH7 : Hid (OAt W7 w5.heap.size pH) := QH.out.only O7 hs5
      have HB7 : Hid (Below w.heap.size w W7) := O7.below HBc.out (by omega)
      clear E7 O7 F7 HSE m6 ri6 rk6 HpB HpP HpPP HpH HBc c5 f5 hl1 c22 hl2
      have c3 : W7.cell? ⟨w.heap.size, 3, none⟩ = some (.int .u32 I.f3) := ri7 3 _ rfl
      have c4 : W7.cell? ⟨w.heap.size, 4, none⟩ = some (.int .u8 I.f4) := ri7 4 _ rfl
      have hl2 : w.heap.size < W7.heap.size := World.block_lt_of_cell? _ _ c3
      have HVL : Hid (∀ w, Calls Yba.prog 12 #[.int .u8 I.f4] w fun e w' => ∃ g n, e = .returned (.slice (some ⟨g, 0, none⟩) n n) ∧ VAt w' g n (I.f4 % 3).toNat ∧ Below w.heap.size w w') := fun w => val_walk I.f4 w v4.1 v4.2
      go_cut [10] (fun s10 wx => ∃ sq sg sn, s10 = .pointer (some ⟨sq, 0, none⟩) ∧ wx.cell? ⟨sq, 0, none⟩ = some (.int .u32 I.f3) ∧ wx.cell? ⟨sq, 1, none⟩ = some (.slice (some ⟨sg, 0, none⟩) sn sn) ∧ Hid (VAt wx sg sn (I.f4 % 3).toNat) ∧ Hid (Below W7.heap.size W7 wx))
      case first =>
        refine wp_region_held_drew (S := fun w' => w'.cell? ⟨w.heap.size, 3, none⟩ = some (.int .u32 I.f3) ∧ w'.cell? ⟨w.heap.size, 4, none⟩ = some (.int .u8 I.f4)) (by kernel_rfl) ⟨c3, c4⟩ (fun hHeld => ?_)
        refine wpAnyH_take (i := 0) (v := ?v0r) rfl (by kernel_rfl) (by kernel_rfl) (by kernel_rfl) (fun _ _ _ h => h) (Or.inl ⟨by rfl, ?hy0r⟩) (by assumption) ?rest0r
        case hy0r => (intro w hSw; (try dsimp only at hSw); go_simp) <;> (try with_reducible rfl)
        simp only [Act.put, List.getElem_toArray, List.getElem_cons_zero, List.getElem_cons_succ, List.setIfInBounds_toArray, List.set_cons_zero, List.set_cons_succ]
        refine wpAnyH_take (i := 1) (v := ?v1r) rfl (by kernel_rfl) (by kernel_rfl) (by kernel_rfl) (fun _ _ _ h => h) (Or.inl ⟨by rfl, ?hy1r⟩) (by assumption) ?rest1r
        case hy1r => (intro w hSw; (try dsimp only at hSw); go_simp) <;> (try with_reducible rfl)
        simp only [Act.put, List.getElem_toArray, List.getElem_cons_zero, List.getElem_cons_succ, List.setIfInBounds_toArray, List.set_cons_zero, List.set_cons_succ]
        refine wpAnyH_take (i := 2) (v := ?v2r) rfl (by kernel_rfl) (by kernel_rfl) (by kernel_rfl) (fun _ _ _ h => h) (Or.inl ⟨by rfl, ?hy2r⟩) (by assumption) ?rest2r
        case hy2r => (intro w hSw; (try dsimp only at hSw); go_simp) <;> (try with_reducible rfl)
        simp only [Act.put, List.getElem_toArray, List.getElem_cons_zero, List.getElem_cons_succ, List.setIfInBounds_toArray, List.set_cons_zero, List.set_cons_succ]
        refine wpAnyH_take (i := 3) (v := ?v3r) rfl (by kernel_rfl) (by kernel_rfl) (by kernel_rfl) (fun _ _ _ h => h) (Or.inl ⟨by rfl, ?hy3r⟩) (by assumption) ?rest3r
        case hy3r => (intro w hSw; (try dsimp only at hSw); go_simp) <;> (try with_reducible rfl)
        simp only [Act.put, List.getElem_toArray, List.getElem_cons_zero, List.getElem_cons_succ, List.setIfInBounds_toArray, List.set_cons_zero, List.set_cons_succ]
        refine wpAnyH_ready (rs := [4, 6]) (by kernel_rfl) (by simp) ?_
        refine AllReadyH.cons rfl (fun K hK => ?_) (AllReadyH.cons rfl (fun K hK => ?_) AllReadyH.nil)
        · rw [if_pos (by rfl)]
          go_simp
          refine (HVL.out _).mono ?_
          rintro e w8 ⟨sg, sn, rfl, hvs, hb8⟩
          have b8 : Below W7.heap.size W7 w8 := (Below.refl _ W7).drew.trans hb8
          refine hK.out _ _ ⟨below_keep b8 c3, below_keep b8 c4⟩ (fun hHeld2 => ?_)
          clear hK K hHeld
          refine wpAnyH_take (i := 5) (v := ?v5s) rfl (by kernel_rfl) (by kernel_rfl) (by kernel_rfl) (fun _ _ _ h => h) (Or.inl ⟨by rfl, ?hy5s⟩) (by assumption) ?rest5s
          case hy5s => (intro w hSw; (try dsimp only at hSw); go_simp) <;> (try with_reducible rfl)
          simp only [Act.put, List.getElem_toArray, List.getElem_cons_zero, List.getElem_cons_succ, List.setIfInBounds_toArray, List.set_cons_zero, List.set_cons_succ]
          refine wpAnyH_ready (rs := [6]) (by kernel_rfl) (by simp) ?_
          refine AllReadyH.cons rfl (fun K hK => ?_) AllReadyH.nil
          rw [if_pos (by rfl)]
          go_simp
          refine hK.out _ _ ⟨alloc_keep _ (below_keep b8 c3), alloc_keep _ (below_keep b8 c4)⟩ (fun hHeld3 => ?_)
          clear hK K hHeld2
          refine wpAnyH_ready (rs := [7]) (by kernel_rfl) (by simp) ?_
          refine AllReadyH.cons rfl (fun K hK => ?_) AllReadyH.nil
          rw [if_pos (by rfl)]
          go_simp
          have hb9 := boxed_below w8 I.f3 sg sn
          refine hK.out _ _ ⟨below_keep hb9 (below_keep b8 c3), below_keep hb9 (below_keep b8 c4)⟩ (fun hHeld4 => ?_)
          clear hK K hHeld3
          refine wpAnyH_done (by kernel_rfl) ?_ _
          go_wp2_with fail
          go_meet
          exact ⟨w8.heap.size, sg, sn, rfl, (boxed_at w8 I.f3 sg sn).1, (boxed_at w8 I.f3 sg sn).2, hvs.below hb9, b8.trans (hb9.mono b8.size)⟩
        · rw [if_pos (by rfl)]
          go_simp
          refine hK.out _ _ ⟨alloc_keep (w := W7.drew) _ c3, alloc_keep (w := W7.drew) _ c4⟩ (fun hHeld2 => ?_)
          clear hK K hHeld
          refine wpAnyH_ready (rs := [4]) (by kernel_rfl) (by simp) ?_
          refine AllReadyH.cons rfl (fun K hK => ?_) AllReadyH.nil
          rw [if_pos (by rfl)]
          go_simp
          refine (HVL.out _).mono ?_
          rintro e w8 ⟨sg, sn, rfl, hvs, hb8⟩
          have bA : Below W7.heap.size W7 (W7.alloc (.cells #[.int .u32 0, .slice none 0 0] 75)).drew := ((Below.refl _ W7).alloc (Nat.le_refl _) _).drew
          have b8 : Below W7.heap.size W7 w8 := bA.trans (hb8.mono bA.size)
          have hob : (W7.alloc (.cells #[.int .u32 0, .slice none 0 0] 75)).drew.heap[W7.heap.size]? = some (.cells #[.int .u32 0, .slice none 0 0] 75 (0, 0)) := heap_at (w := W7) (.cells #[.int .u32 0, .slice none 0 0] 75) rfl
          have hob8 := below_obj hb8 hob
          have z0 : w8.cell? ⟨W7.heap.size, 0, none⟩ = some (.int .u32 0) := by rw [cell_of_row _ _ _ _ _ _ hob8]; rfl
          have z1 : w8.cell? ⟨W7.heap.size, 1, none⟩ = some (.slice none 0 0) := by rw [cell_of_row _ _ _ _ _ _ hob8]; rfl
          have zf0 : w8.frozen? ⟨W7.heap.size, 0, none⟩ = false := by unfold World.frozen?; rw [hob8]; simp
          have zf1 : w8.frozen? ⟨W7.heap.size, 1, none⟩ = false := by unfold World.frozen?; rw [hob8]; simp
          clear hob hob8
          refine hK.out _ _ ⟨below_keep b8 c3, below_keep b8 c4⟩ (fun hHeld3 => ?_)
          clear hK K hHeld2
          refine wpAnyH_take (i := 5) (v := ?v5t) rfl (by kernel_rfl) (by kernel_rfl) (by kernel_rfl) (fun _ _ _ h => h) (Or.inl ⟨by rfl, ?hy5t⟩) (by assumption) ?rest5t
          case hy5t => (intro w hSw; (try dsimp only at hSw); go_simp) <;> (try with_reducible rfl)
          simp only [Act.put, List.getElem_toArray, List.getElem_cons_zero, List.getElem_cons_succ, List.setIfInBounds_toArray, List.set_cons_zero, List.set_cons_succ]
          refine wpAnyH_ready (rs := [7]) (by kernel_rfl) (by simp) ?_
          refine AllReadyH.cons rfl (fun K hK => ?_) AllReadyH.nil
          rw [if_pos (by rfl)]
          go_simp
          have O9 : Only W7.heap.size w8 ((w8.setCell ⟨W7.heap.size, 0, none⟩ (.int .u32 I.f3)).setCell ⟨W7.heap.size, 1, none⟩ (.slice (some ⟨sg, 0, none⟩) sn sn)) := only_two
          refine hK.out _ _ ⟨O9.cell (by show w.heap.size ≠ _; omega) (below_keep b8 c3), O9.cell (by show w.heap.size ≠ _; omega) (below_keep b8 c4)⟩ (fun hHeld4 => ?_)
          clear hK K hHeld3
          refine wpAnyH_done (by kernel_rfl) ?_ _
          go_wp2_with fail
          go_meet
          have k0 : ((w8.setCell ⟨W7.heap.size, 0, none⟩ (.int .u32 I.f3)).setCell ⟨W7.heap.size, 1, none⟩ (.slice (some ⟨sg, 0, none⟩) sn sn)).cell? ⟨W7.heap.size, 0, none⟩ = some (.int .u32 I.f3) := by
            rw [World.cell?_setCell_other _ _ _ _ (by simp), World.cell?_setCell_same _ _ _ z0]
          have k1' : ((w8.setCell ⟨W7.heap.size, 0, none⟩ (.int .u32 I.f3)).setCell ⟨W7.heap.size, 1, none⟩ (.slice (some ⟨sg, 0, none⟩) sn sn)).cell? ⟨W7.heap.size, 1, none⟩ = some (.slice (some ⟨sg, 0, none⟩) sn sn) :=
            World.cell?_setCell_same _ _ _ ((World.cell?_setCell_other _ _ _ _ (by simp)).trans z1)
          have hvs2 : VAt ((w8.setCell ⟨W7.heap.size, 0, none⟩ (.int .u32 I.f3)).setCell ⟨W7.heap.size, 1, none⟩ (.slice (some ⟨sg, 0, none⟩) sn sn)) sg sn (I.f4 % 3).toNat := by
            rcases hvs with h0 | ⟨h1, h2, h3⟩ | ⟨h1, h2, h3⟩
            · exact .inl h0
            · refine .inr (.inl ⟨h1, h2, O9.cell (fun e => ?_) h3⟩)
              rw [show (⟨sg, 0, none⟩ : Addr) = ⟨W7.heap.size, 0, none⟩ from by simp at e; rw [e], z0] at h3
              cases h3
            · refine .inr (.inr ⟨h1, h2, O9.cell (fun e => ?_) h3⟩)
              rw [show (⟨sg, 0, none⟩ : Addr) = ⟨W7.heap.size, 0, none⟩ from by simp at e; rw [e], z0] at h3
              cases h3
          exact ⟨W7.heap.size, sg, sn, rfl, k0, k1', hvs2, O9.below b8 (Nat.le_refl _)⟩
      case rest =>
        obtain ⟨sq, sg, sn, rfl, q0, q1, HVS, HB8⟩ := hcut
        have HB8w : Hid (Below w.heap.size w wc) := HB7.out.trans (HB8.out.mono HB7.out.size)
        have HSE8 : Hid (SlotE wc sb eb mb kb zb I.f2 ph pB pP pPP pH I.f22) := HSE7.out.below HB8.out
        have m8 := below_obj HB8.out m7
        have ri8 := below_range HB8.out ri7
        have rk8 := below_range HB8.out rk7
        have QB8 : Hid (OAt wc w5.heap.size pB) := QB7.out.below HB8.out
        have QH8 : Hid (OAt wc w5.heap.size pH) := QH7.out.below HB8.out
        have JpB : Hid (PAt wc w.heap.size I.f10 I.f11 (I.f12 % 3).toNat pB) := GpB.out.below HB8.out
        have JpP : Hid (PAt wc w.heap.size I.f13 I.f14 (I.f15 % 3).toNat pP) := GpP.out.below HB8.out
        have JpPP : Hid (PAt wc w.heap.size I.f16 I.f17 (I.f18 % 3).toNat pPP) := GpPP.out.below HB8.out
        have JpH : Hid (PAt wc w.heap.size I.f19 I.f20 (I.f21 % 3).toNat pH) := GpH.out.below HB8.out
        clear HB8 HB7 HSE7 m7 ri7 rk7 GpB GpP GpPP GpH c3 c4 hl2 HVL
        have hq : sq < wc.heap.size := World.block_lt_of_cell? _ _ q0
        have d5 : wc.cell? ⟨w.heap.size, 5, none⟩ = some (.bool I.f5) := ri8 5 _ rfl
        have d6 : wc.cell? ⟨w.heap.size, 6, none⟩ = some (.int .u32 I.f6) := ri8 6 _ rfl
        have d7 : wc.cell? ⟨w.heap.size, 7, none⟩ = some (.int .u8 I.f7) := ri8 7 _ rfl
        have d8 : wc.cell? ⟨w.heap.size, 8, none⟩ = some (.int .u32 I.f8) := ri8 8 _ rfl
        have d9 : wc.cell? ⟨w.heap.size, 9, none⟩ = some (.int .u32 I.f9) := ri8 9 _ rfl
        have hl3 : w.heap.size < wc.heap.size := World.block_lt_of_cell? _ _ d5
        rcases HKd.out with hk0 | hk1 | hk2
        · subst hk0
          have HBL : Hid (∀ w, Calls Yba.prog 13 #[.bool I.f5, .int .u32 I.f6, .int .u8 I.f7] w fun e w' => ∃ p, e = .returned (.pointer p) ∧ PAt w' w.heap.size I.f5 I.f6 (I.f7 % 3).toNat p ∧ Below w.heap.size w w') := fun w => bal_walk I.f5 I.f6 I.f7 w v7.1 v7.2
          go_upto_region 11 with fail
          refine wp_region_held_drew (S := fun w' => w'.cell? ⟨sq, 0, none⟩ = some (.int .u32 I.f3) ∧ w'.cell? ⟨sq, 1, none⟩ = some (.slice (some ⟨sg, 0, none⟩) sn sn) ∧ w'.cell? ⟨w.heap.size, 5, none⟩ = some (.bool I.f5) ∧ w'.cell? ⟨w.heap.size, 6, none⟩ = some (.int .u32 I.f6) ∧ w'.cell? ⟨w.heap.size, 7, none⟩ = some (.int .u8 I.f7) ∧ w'.cell? ⟨w.heap.size, 8, none⟩ = some (.int .u32 I.f8) ∧ w'.cell? ⟨w.heap.size, 9, none⟩ = some (.int .u32 I.f9)) (by kernel_rfl) ⟨q0, q1, d5, d6, d7, d8, d9⟩ (fun hHeld => ?_)
          refine wpAnyH_take (i := 0) (v := ?v0u) rfl (by kernel_rfl) (by kernel_rfl) (by kernel_rfl) (fun _ _ _ h => h) (Or.inl ⟨by rfl, ?hy0u⟩) (by assumption) ?rest0u
          case hy0u => (intro w hSw; (try dsimp only at hSw); go_simp) <;> (try with_reducible rfl)
          simp only [Act.put, List.getElem_toArray, List.getElem_cons_zero, List.getElem_cons_succ, List.setIfInBounds_toArray, List.set_cons_zero, List.set_cons_succ]
          refine wpAnyH_take (i := 1) (v := ?v1u) rfl (by kernel_rfl) (by kernel_rfl) (by kernel_rfl) (fun _ _ _ h => h) (Or.inl ⟨by rfl, ?hy1u⟩) (by assumption) ?rest1u
          case hy1u => (intro w hSw; (try dsimp only at hSw); go_simp) <;> (try with_reducible rfl)
          simp only [Act.put, List.getElem_toArray, List.getElem_cons_zero, List.getElem_cons_succ, List.setIfInBounds_toArray, List.set_cons_zero, List.set_cons_succ]
          refine wpAnyH_take (i := 2) (v := ?v2u) rfl (by kernel_rfl) (by kernel_rfl) (by kernel_rfl) (fun _ _ _ h => h) (Or.inl ⟨by rfl, ?hy2u⟩) (by assumption) ?rest2u
          case hy2u => (intro w hSw; (try dsimp only at hSw); go_simp) <;> (try with_reducible rfl)
          simp only [Act.put, List.getElem_toArray, List.getElem_cons_zero, List.getElem_cons_succ, List.setIfInBounds_toArray, List.set_cons_zero, List.set_cons_succ]
          refine wpAnyH_take (i := 3) (v := ?v3u) rfl (by kernel_rfl) (by kernel_rfl) (by kernel_rfl) (fun _ _ _ h => h) (Or.inl ⟨by rfl, ?hy3u⟩) (by assumption) ?rest3u
          case hy3u => (intro w hSw; (try dsimp only at hSw); go_simp) <;> (try with_reducible rfl)
          simp only [Act.put, List.getElem_toArray, List.getElem_cons_zero, List.getElem_cons_succ, List.setIfInBounds_toArray, List.set_cons_zero, List.set_cons_succ]
          refine wpAnyH_take (i := 4) (v := ?v4u) rfl (by kernel_rfl) (by kernel_rfl) (by kernel_rfl) (fun _ _ _ h => h) (Or.inl ⟨by rfl, ?hy4u⟩) (by assumption) ?rest4u
          case hy4u => (intro w hSw; (try dsimp only at hSw); go_simp) <;> (try with_reducible rfl)
          simp only [Act.put, List.getElem_toArray, List.getElem_cons_zero, List.getElem_cons_succ, List.setIfInBounds_toArray, List.set_cons_zero, List.set_cons_succ]
          refine wpAnyH_take (i := 5) (v := ?v5u) rfl (by kernel_rfl) (by kernel_rfl) (by kernel_rfl) (fun _ _ _ h => h) (Or.inl ⟨by rfl, ?hy5u⟩) (by assumption) ?rest5u
          case hy5u => (intro w hSw; (try dsimp only at hSw); go_simp) <;> (try with_reducible rfl)
          simp only [Act.put, List.getElem_toArray, List.getElem_cons_zero, List.getElem_cons_succ, List.setIfInBounds_toArray, List.set_cons_zero, List.set_cons_succ]
          refine wpAnyH_take (i := 6) (v := ?v6u) rfl (by kernel_rfl) (by kernel_rfl) (by kernel_rfl) (fun _ _ _ h => h) (Or.inl ⟨by rfl, ?hy6u⟩) (by assumption) ?rest6u
          case hy6u => (intro w hSw; (try dsimp only at hSw); go_simp) <;> (try with_reducible rfl)
          simp only [Act.put, List.getElem_toArray, List.getElem_cons_zero, List.getElem_cons_succ, List.setIfInBounds_toArray, List.set_cons_zero, List.set_cons_succ]
          refine wpAnyH_take (i := 8) (v := ?v8u) rfl (by kernel_rfl) (by kernel_rfl) (by kernel_rfl) (fun _ _ _ h => h) (Or.inl ⟨by rfl, ?hy8u⟩) (by assumption) ?rest8u
          case hy8u => (intro w hSw; (try dsimp only at hSw); go_simp) <;> (try with_reducible rfl)
          simp only [Act.put, List.getElem_toArray, List.getElem_cons_zero, List.getElem_cons_succ, List.setIfInBounds_toArray, List.set_cons_zero, List.set_cons_succ]
          refine wpAnyH_take (i := 9) (v := ?v9u) rfl (by kernel_rfl) (by kernel_rfl) (by kernel_rfl) (fun _ _ _ h => h) (Or.inl ⟨by rfl, ?hy9u⟩) (by assumption) ?rest9u
          case hy9u => (intro w hSw; (try dsimp only at hSw); go_simp) <;> (try with_reducible rfl)
          simp only [Act.put, List.getElem_toArray, List.getElem_cons_zero, List.getElem_cons_succ, List.setIfInBounds_toArray, List.set_cons_zero, List.set_cons_succ]
          refine wpAnyH_take (i := 10) (v := ?v10u) rfl (by kernel_rfl) (by kernel_rfl) (by kernel_rfl) (fun _ _ _ h => h) (Or.inl ⟨by rfl, ?hy10u⟩) (by assumption) ?rest10u
          case hy10u => (intro w hSw; (try dsimp only at hSw); go_simp) <;> (try with_reducible rfl)
          simp only [Act.put, List.getElem_toArray, List.getElem_cons_zero, List.getElem_cons_succ, List.setIfInBounds_toArray, List.set_cons_zero, List.set_cons_succ]
          refine wpAnyH_take (i := 11) (v := ?v11u) rfl (by kernel_rfl) (by kernel_rfl) (by kernel_rfl) (fun _ _ _ h => h) (Or.inl ⟨by rfl, ?hy11u⟩) (by assumption) ?rest11u
          case hy11u => (intro w hSw; (try dsimp only at hSw); go_simp) <;> (try with_reducible rfl)
          simp only [Act.put, List.getElem_toArray, List.getElem_cons_zero, List.getElem_cons_succ, List.setIfInBounds_toArray, List.set_cons_zero, List.set_cons_succ]
          refine wpAnyH_ready (rs := [7]) (by kernel_rfl) (by simp) ?_
          refine AllReadyH.cons rfl (fun K hK => ?_) AllReadyH.nil
          rw [if_pos (by rfl)]
          go_simp
          refine (HBL.out _).mono ?_
          rintro e w9 ⟨pp, rfl, hpp, hb9⟩
          have b9 : Below wc.heap.size wc w9 := (Below.refl _ wc).drew.trans hb9
          refine hK.out _ _ ⟨below_keep b9 q0, below_keep b9 q1, below_keep b9 d5, below_keep b9 d6, below_keep b9 d7, below_keep b9 d8, below_keep b9 d9⟩ (fun hHeld2 => ?_)
          clear hK K hHeld
          refine wpAnyH_take (i := 12) (v := ?v12u) rfl (by kernel_rfl) (by kernel_rfl) (by kernel_rfl) (fun _ _ _ h => h) (Or.inl ⟨by rfl, ?hy12u⟩) (by assumption) ?rest12u
          case hy12u => (intro w hSw; (try dsimp only at hSw); go_simp) <;> (try with_reducible rfl)
          simp only [Act.put, List.getElem_toArray, List.getElem_cons_zero, List.getElem_cons_succ, List.setIfInBounds_toArray, List.set_cons_zero, List.set_cons_succ]
          refine wpAnyH_take (i := 13) (v := ?v13u) rfl (by kernel_rfl) (by kernel_rfl) (by kernel_rfl) (fun _ _ _ h => h) (Or.inl ⟨by rfl, ?hy13u⟩) (by assumption) ?rest13u
          case hy13u => (intro w hSw; (try dsimp only at hSw); go_simp) <;> (try with_reducible rfl)
          simp only [Act.put, List.getElem_toArray, List.getElem_cons_zero, List.getElem_cons_succ, List.setIfInBounds_toArray, List.set_cons_zero, List.set_cons_succ]
          refine wpAnyH_take (i := 14) (v := ?v14u) rfl (by kernel_rfl) (by kernel_rfl) (by kernel_rfl) (fun _ _ _ h => h) (Or.inl ⟨by rfl, ?hy14u⟩) (by assumption) ?rest14u
          case hy14u => (intro w hSw; (try dsimp only at hSw); go_simp) <;> (try with_reducible rfl)
          simp only [Act.put, List.getElem_toArray, List.getElem_cons_zero, List.getElem_cons_succ, List.setIfInBounds_toArray, List.set_cons_zero, List.set_cons_succ]
          refine wpAnyH_done (by kernel_rfl) ?_ _
          have HPP9 : Hid (PAt w9 w.heap.size I.f5 I.f6 (I.f7 % 3).toNat pp) := hpp.lo (by show w.heap.size ≤ wc.heap.size; omega)
          have HB9 : Hid (Below wc.heap.size wc w9) := b9
          clear hpp hb9 b9 HBL
          have HSE9 : Hid (SlotE w9 sb eb mb kb zb I.f2 ph pB pP pPP pH I.f22) := HSE8.out.below HB9.out
          have m9 : w9.heap[mb]? = some (.map #[] 0) := below_obj HB9.out m8
          have rk9 : w9.rangeAt (w.heap.size + 1) 0 k1L := below_range HB9.out rk8
          have g4 := HSE9.out.bl
          have hl9 : sb < w9.heap.size := World.block_lt_of_cell? _ _ g4
          have hkm : w.heap.size + 1 ≠ mb := by
            intro e
            have h0 := World.block_lt_of_cell? _ _ (rk9 0 _ rfl)
            have h1 := cell_of_map m9 (rk9 0 _ rfl)
            exact h1 e
          go_upto_region 14 with fail
          refine wp_region_held_drew (S := fun w' => w'.cell? ⟨sb, 4, none⟩ = some (.map (some mb)) ∧ w'.rangeAt (w.heap.size + 1) 0 k1L) (by kernel_rfl) ⟨g4, rk9⟩ (fun hHeldx => ?_)
          refine wpAnyH_take (i := 0) (v := ?v0v) rfl (by kernel_rfl) (by kernel_rfl) (by kernel_rfl) (fun _ _ _ h => h) (Or.inl ⟨by rfl, ?hy0v⟩) (by assumption) ?rest0v
          case hy0v => (intro w hSw; (try dsimp only at hSw); go_simp) <;> (try with_reducible rfl)
          simp only [Act.put, List.getElem_toArray, List.getElem_cons_zero, List.getElem_cons_succ, List.setIfInBounds_toArray, List.set_cons_zero, List.set_cons_succ]
          refine wpAnyH_take (i := 1) (v := ?v1v) rfl (by kernel_rfl) (by kernel_rfl) (by kernel_rfl) (fun _ _ _ h => h) (Or.inl ⟨by rfl, ?hy1v⟩) (by assumption) ?rest1v
          case hy1v => (intro w hSw; (try dsimp only at hSw); go_simp) <;> (try with_reducible rfl)
          simp only [Act.put, List.getElem_toArray, List.getElem_cons_zero, List.getElem_cons_succ, List.setIfInBounds_toArray, List.set_cons_zero, List.set_cons_succ]
          refine wpAnyH_take (i := 2) (v := ?v2v) rfl (by kernel_rfl) (by kernel_rfl) (by kernel_rfl) (fun _ _ _ h => h) (Or.inl ⟨by rfl, ?hy2v⟩) (by assumption) ?rest2v
          case hy2v => (intro w hSw; (try dsimp only at hSw); go_simp) <;> (try with_reducible rfl)
          simp only [Act.put, List.getElem_toArray, List.getElem_cons_zero, List.getElem_cons_succ, List.setIfInBounds_toArray, List.set_cons_zero, List.set_cons_succ]
          refine wpAnyH_take (i := 3) (v := ?v3v) rfl (by kernel_rfl) (by kernel_rfl) (by kernel_rfl) (fun _ _ _ h => h) (Or.inl ⟨by rfl, ?hy3v⟩) (by assumption) ?rest3v
          case hy3v => (intro w hSw; (try dsimp only at hSw); go_simp) <;> (try with_reducible rfl)
          simp only [Act.put, List.getElem_toArray, List.getElem_cons_zero, List.getElem_cons_succ, List.setIfInBounds_toArray, List.set_cons_zero, List.set_cons_succ]
          refine wpAnyH_take (i := 4) (v := .agg (k1L).toArray) rfl (by kernel_rfl) (by kernel_rfl) (by kernel_rfl) (fun _ _ _ h => h) (yieldsIf_load_mid (by rfl) 47 _ rfl _ 0 rfl (k1L) _ (fun w h => h.2) Yba.underlying47 rfl (by kernel_rfl)) (by assumption) ?_
          simp only [Act.put, List.getElem_toArray, List.getElem_cons_zero, List.getElem_cons_succ, List.setIfInBounds_toArray, List.set_cons_zero, List.set_cons_succ]
          refine wpAnyH_take (i := 5) (v := .agg (k1L).toArray) rfl (by kernel_rfl) (by kernel_rfl) (by kernel_rfl) (fun _ _ _ h => h) (yieldsIf_load_mid (by rfl) 47 _ rfl _ 0 rfl (k1L) _ (fun w h => h.2) Yba.underlying47 rfl (by kernel_rfl)) (by assumption) ?_
          simp only [Act.put, List.getElem_toArray, List.getElem_cons_zero, List.getElem_cons_succ, List.setIfInBounds_toArray, List.set_cons_zero, List.set_cons_succ]
          refine wpAnyH_take (i := 6) (v := ?v6v) rfl (by kernel_rfl) (by kernel_rfl) (by kernel_rfl) (fun _ _ _ h => h) (Or.inl ⟨by rfl, ?hy6v⟩) (by assumption) ?rest6v
          case hy6v => (intro w hSw; (try dsimp only at hSw); go_simp) <;> (try with_reducible rfl)
          simp only [Act.put, List.getElem_toArray, List.getElem_cons_zero, List.getElem_cons_succ, List.setIfInBounds_toArray, List.set_cons_zero, List.set_cons_succ]
          refine wpAnyH_take (i := 7) (v := .agg (stL (plP I.f3 sg sn pp I.f8 I.f9 0)).toArray) rfl (by kernel_rfl) (by kernel_rfl) (by kernel_rfl) (fun _ _ _ h => h) (Or.inl ⟨by rfl, fun w _ => by kernel_rfl⟩) (by assumption) ?_
          simp only [Act.put, List.getElem_toArray, List.getElem_cons_zero, List.getElem_cons_succ, List.setIfInBounds_toArray, List.set_cons_zero, List.set_cons_succ]
          refine wpAnyH_ready (rs := [8]) (by kernel_rfl) (by simp) ?_
          refine AllReadyH.cons rfl (fun K hK => ?_) AllReadyH.nil
          rw [if_pos (by rfl)]
          go_simp
          obtain ⟨W10, hp10, O10, m10⟩ := put_one (w := w9.drew) (b := mb) (.agg (stL (plP I.f3 sg sn pp I.f8 I.f9 0)).toArray) Yba.underlying31 m9
          rw [hp10]
          simp only [Result.andThen]
          rw [Oper.upon_skip]
          have OO : Only mb w9 W10 := ⟨O10.os, O10.tape, O10.output, O10.size, O10.block⟩
          refine hK.out _ _ ⟨OO.cell (by show sb ≠ _; omega) g4, OO.range hkm rk9⟩ (fun hHeldy => ?_)
          clear hK K hHeldx
          refine wpAnyH_done (by kernel_rfl) ?_ _
          go_wp2_with fail
          go_ret
          have b10 : Below w.heap.size w W10 := OO.below (HB8w.out.trans (HB9.out.mono HB8w.out.size)) (by omega)
          exact ⟨sb, eb, mb, kb, zb, plP I.f3 sg sn pp I.f8 I.f9 0, pB, pP, pPP, pH, rfl, (HSE9.out.only OO (fun e => hmbs e.symm) hmb2.1 hmb2.2.1 hmb2.2.2).full m10, pat_map m9 OO (JpB.out.below HB9.out), pat_map m9 OO (JpP.out.below HB9.out), pat_map m9 OO (JpPP.out.below HB9.out), pat_map m9 OO (JpH.out.below HB9.out), .inl ⟨rfl, sg, sn, pp, rfl, val_map m9 OO (HVS.out.below HB9.out), pat_map m9 OO HPP9.out⟩, b10, by omega, hew, w5.heap.size, hs5, he5, (QB8.out.below HB9.out).only OO hm5, (QH8.out.below HB9.out).only OO hm5⟩
        · subst hk1
          have HSE9 : Hid (SlotE wc sb eb mb kb zb I.f2 ph pB pP pPP pH I.f22) := HSE8.out.below (Below.refl _ _)
          have m9 : wc.heap[mb]? = some (.map #[] 0) := below_obj (Below.refl _ _) m8
          have rk9 : wc.rangeAt (w.heap.size + 1) 0 k1L := below_range (Below.refl _ _) rk8
          have g4 := HSE9.out.bl
          have hl9 : sb < wc.heap.size := World.block_lt_of_cell? _ _ g4
          have hkm : w.heap.size + 1 ≠ mb := by
            intro e
            have h0 := World.block_lt_of_cell? _ _ (rk9 0 _ rfl)
            have h1 := cell_of_map m9 (rk9 0 _ rfl)
            exact h1 e
          go_upto_region 14 with fail
          refine wp_region_held_drew (S := fun w' => w'.cell? ⟨sb, 4, none⟩ = some (.map (some mb)) ∧ w'.rangeAt (w.heap.size + 1) 0 k1L) (by kernel_rfl) ⟨g4, rk9⟩ (fun hHeldx => ?_)
          refine wpAnyH_take (i := 0) (v := ?v0w) rfl (by kernel_rfl) (by kernel_rfl) (by kernel_rfl) (fun _ _ _ h => h) (Or.inl ⟨by rfl, ?hy0w⟩) (by assumption) ?rest0w
          case hy0w => (intro w hSw; (try dsimp only at hSw); go_simp) <;> (try with_reducible rfl)
          simp only [Act.put, List.getElem_toArray, List.getElem_cons_zero, List.getElem_cons_succ, List.setIfInBounds_toArray, List.set_cons_zero, List.set_cons_succ]
          refine wpAnyH_take (i := 1) (v := ?v1w) rfl (by kernel_rfl) (by kernel_rfl) (by kernel_rfl) (fun _ _ _ h => h) (Or.inl ⟨by rfl, ?hy1w⟩) (by assumption) ?rest1w
          case hy1w => (intro w hSw; (try dsimp only at hSw); go_simp) <;> (try with_reducible rfl)
          simp only [Act.put, List.getElem_toArray, List.getElem_cons_zero, List.getElem_cons_succ, List.setIfInBounds_toArray, List.set_cons_zero, List.set_cons_succ]
          refine wpAnyH_take (i := 2) (v := ?v2w) rfl (by kernel_rfl) (by kernel_rfl) (by kernel_rfl) (fun _ _ _ h => h) (Or.inl ⟨by rfl, ?hy2w⟩) (by assumption) ?rest2w
          case hy2w => (intro w hSw; (try dsimp only at hSw); go_simp) <;> (try with_reducible rfl)
          simp only [Act.put, List.getElem_toArray, List.getElem_cons_zero, List.getElem_cons_succ, List.setIfInBounds_toArray, List.set_cons_zero, List.set_cons_succ]
          refine wpAnyH_take (i := 3) (v := ?v3w) rfl (by kernel_rfl) (by kernel_rfl) (by kernel_rfl) (fun _ _ _ h => h) (Or.inl ⟨by rfl, ?hy3w⟩) (by assumption) ?rest3w
          case hy3w => (intro w hSw; (try dsimp only at hSw); go_simp) <;> (try with_reducible rfl)
          simp only [Act.put, List.getElem_toArray, List.getElem_cons_zero, List.getElem_cons_succ, List.setIfInBounds_toArray, List.set_cons_zero, List.set_cons_succ]
          refine wpAnyH_take (i := 4) (v := .agg (k1L).toArray) rfl (by kernel_rfl) (by kernel_rfl) (by kernel_rfl) (fun _ _ _ h => h) (yieldsIf_load_mid (by rfl) 47 _ rfl _ 0 rfl (k1L) _ (fun w h => h.2) Yba.underlying47 rfl (by kernel_rfl)) (by assumption) ?_
          simp only [Act.put, List.getElem_toArray, List.getElem_cons_zero, List.getElem_cons_succ, List.setIfInBounds_toArray, List.set_cons_zero, List.set_cons_succ]
          refine wpAnyH_take (i := 5) (v := .agg (k1L).toArray) rfl (by kernel_rfl) (by kernel_rfl) (by kernel_rfl) (fun _ _ _ h => h) (yieldsIf_load_mid (by rfl) 47 _ rfl _ 0 rfl (k1L) _ (fun w h => h.2) Yba.underlying47 rfl (by kernel_rfl)) (by assumption) ?_
          simp only [Act.put, List.getElem_toArray, List.getElem_cons_zero, List.getElem_cons_succ, List.setIfInBounds_toArray, List.set_cons_zero, List.set_cons_succ]
          refine wpAnyH_take (i := 6) (v := ?v6w) rfl (by kernel_rfl) (by kernel_rfl) (by kernel_rfl) (fun _ _ _ h => h) (Or.inl ⟨by rfl, ?hy6w⟩) (by assumption) ?rest6w
          case hy6w => (intro w hSw; (try dsimp only at hSw); go_simp) <;> (try with_reducible rfl)
          simp only [Act.put, List.getElem_toArray, List.getElem_cons_zero, List.getElem_cons_succ, List.setIfInBounds_toArray, List.set_cons_zero, List.set_cons_succ]
          refine wpAnyH_take (i := 7) (v := .agg (stL (plC I.f3 sg sn I.f6 I.f9 0)).toArray) rfl (by kernel_rfl) (by kernel_rfl) (by kernel_rfl) (fun _ _ _ h => h) (Or.inl ⟨by rfl, fun w _ => by kernel_rfl⟩) (by assumption) ?_
          simp only [Act.put, List.getElem_toArray, List.getElem_cons_zero, List.getElem_cons_succ, List.setIfInBounds_toArray, List.set_cons_zero, List.set_cons_succ]
          refine wpAnyH_ready (rs := [8]) (by kernel_rfl) (by simp) ?_
          refine AllReadyH.cons rfl (fun K hK => ?_) AllReadyH.nil
          rw [if_pos (by rfl)]
          go_simp
          obtain ⟨W10, hp10, O10, m10⟩ := put_one (w := wc.drew) (b := mb) (.agg (stL (plC I.f3 sg sn I.f6 I.f9 0)).toArray) Yba.underlying31 m9
          rw [hp10]
          simp only [Result.andThen]
          rw [Oper.upon_skip]
          have OO : Only mb wc W10 := ⟨O10.os, O10.tape, O10.output, O10.size, O10.block⟩
          refine hK.out _ _ ⟨OO.cell (by show sb ≠ _; omega) g4, OO.range hkm rk9⟩ (fun hHeldy => ?_)
          clear hK K hHeldx
          refine wpAnyH_done (by kernel_rfl) ?_ _
          go_wp2_with fail
          go_ret
          have b10 : Below w.heap.size w W10 := OO.below (HB8w.out.trans ((Below.refl _ _).mono HB8w.out.size)) (by omega)
          exact ⟨sb, eb, mb, kb, zb, plC I.f3 sg sn I.f6 I.f9 0, pB, pP, pPP, pH, rfl, (HSE9.out.only OO (fun e => hmbs e.symm) hmb2.1 hmb2.2.1 hmb2.2.2).full m10, pat_map m9 OO (JpB.out.below (Below.refl _ _)), pat_map m9 OO (JpP.out.below (Below.refl _ _)), pat_map m9 OO (JpPP.out.below (Below.refl _ _)), pat_map m9 OO (JpH.out.below (Below.refl _ _)), .inr (.inl ⟨rfl, sg, sn, rfl, val_map m9 OO HVS.out⟩), b10, by omega, hew, w5.heap.size, hs5, he5, (QB8.out.below (Below.refl _ _)).only OO hm5, (QH8.out.below (Below.refl _ _)).only OO hm5⟩
        · subst hk2
          have HSE9 : Hid (SlotE wc sb eb mb kb zb I.f2 ph pB pP pPP pH I.f22) := HSE8.out.below (Below.refl _ _)
          have m9 : wc.heap[mb]? = some (.map #[] 0) := below_obj (Below.refl _ _) m8
          have rk9 : wc.rangeAt (w.heap.size + 1) 0 k1L := below_range (Below.refl _ _) rk8
          have g4 := HSE9.out.bl
          have hl9 : sb < wc.heap.size := World.block_lt_of_cell? _ _ g4
          have hkm : w.heap.size + 1 ≠ mb := by
            intro e
            have h0 := World.block_lt_of_cell? _ _ (rk9 0 _ rfl)
            have h1 := cell_of_map m9 (rk9 0 _ rfl)
            exact h1 e
          go_upto_region 14 with fail
          refine wp_region_held_drew (S := fun w' => w'.cell? ⟨sb, 4, none⟩ = some (.map (some mb)) ∧ w'.rangeAt (w.heap.size + 1) 0 k1L) (by kernel_rfl) ⟨g4, rk9⟩ (fun hHeldx => ?_)
          refine wpAnyH_take (i := 0) (v := ?v0x) rfl (by kernel_rfl) (by kernel_rfl) (by kernel_rfl) (fun _ _ _ h => h) (Or.inl ⟨by rfl, ?hy0x⟩) (by assumption) ?rest0x
          case hy0x => (intro w hSw; (try dsimp only at hSw); go_simp) <;> (try with_reducible rfl)
          simp only [Act.put, List.getElem_toArray, List.getElem_cons_zero, List.getElem_cons_succ, List.setIfInBounds_toArray, List.set_cons_zero, List.set_cons_succ]
          refine wpAnyH_take (i := 1) (v := ?v1x) rfl (by kernel_rfl) (by kernel_rfl) (by kernel_rfl) (fun _ _ _ h => h) (Or.inl ⟨by rfl, ?hy1x⟩) (by assumption) ?rest1x
          case hy1x => (intro w hSw; (try dsimp only at hSw); go_simp) <;> (try with_reducible rfl)
          simp only [Act.put, List.getElem_toArray, List.getElem_cons_zero, List.getElem_cons_succ, List.setIfInBounds_toArray, List.set_cons_zero, List.set_cons_succ]
          refine wpAnyH_take (i := 2) (v := ?v2x) rfl (by kernel_rfl) (by kernel_rfl) (by kernel_rfl) (fun _ _ _ h => h) (Or.inl ⟨by rfl, ?hy2x⟩) (by assumption) ?rest2x
          case hy2x => (intro w hSw; (try dsimp only at hSw); go_simp) <;> (try with_reducible rfl)
          simp only [Act.put, List.getElem_toArray, List.getElem_cons_zero, List.getElem_cons_succ, List.setIfInBounds_toArray, List.set_cons_zero, List.set_cons_succ]
          refine wpAnyH_take (i := 3) (v := ?v3x) rfl (by kernel_rfl) (by kernel_rfl) (by kernel_rfl) (fun _ _ _ h => h) (Or.inl ⟨by rfl, ?hy3x⟩) (by assumption) ?rest3x
          case hy3x => (intro w hSw; (try dsimp only at hSw); go_simp) <;> (try with_reducible rfl)
          simp only [Act.put, List.getElem_toArray, List.getElem_cons_zero, List.getElem_cons_succ, List.setIfInBounds_toArray, List.set_cons_zero, List.set_cons_succ]
          refine wpAnyH_take (i := 4) (v := .agg (k1L).toArray) rfl (by kernel_rfl) (by kernel_rfl) (by kernel_rfl) (fun _ _ _ h => h) (yieldsIf_load_mid (by rfl) 47 _ rfl _ 0 rfl (k1L) _ (fun w h => h.2) Yba.underlying47 rfl (by kernel_rfl)) (by assumption) ?_
          simp only [Act.put, List.getElem_toArray, List.getElem_cons_zero, List.getElem_cons_succ, List.setIfInBounds_toArray, List.set_cons_zero, List.set_cons_succ]
          refine wpAnyH_take (i := 5) (v := .agg (k1L).toArray) rfl (by kernel_rfl) (by kernel_rfl) (by kernel_rfl) (fun _ _ _ h => h) (yieldsIf_load_mid (by rfl) 47 _ rfl _ 0 rfl (k1L) _ (fun w h => h.2) Yba.underlying47 rfl (by kernel_rfl)) (by assumption) ?_
          simp only [Act.put, List.getElem_toArray, List.getElem_cons_zero, List.getElem_cons_succ, List.setIfInBounds_toArray, List.set_cons_zero, List.set_cons_succ]
          refine wpAnyH_take (i := 6) (v := ?v6x) rfl (by kernel_rfl) (by kernel_rfl) (by kernel_rfl) (fun _ _ _ h => h) (Or.inl ⟨by rfl, ?hy6x⟩) (by assumption) ?rest6x
          case hy6x => (intro w hSw; (try dsimp only at hSw); go_simp) <;> (try with_reducible rfl)
          simp only [Act.put, List.getElem_toArray, List.getElem_cons_zero, List.getElem_cons_succ, List.setIfInBounds_toArray, List.set_cons_zero, List.set_cons_succ]
          refine wpAnyH_take (i := 7) (v := .agg (stL (plE I.f3 sg sn I.f9)).toArray) rfl (by kernel_rfl) (by kernel_rfl) (by kernel_rfl) (fun _ _ _ h => h) (Or.inl ⟨by rfl, fun w _ => by kernel_rfl⟩) (by assumption) ?_
          simp only [Act.put, List.getElem_toArray, List.getElem_cons_zero, List.getElem_cons_succ, List.setIfInBounds_toArray, List.set_cons_zero, List.set_cons_succ]
          refine wpAnyH_ready (rs := [8]) (by kernel_rfl) (by simp) ?_
          refine AllReadyH.cons rfl (fun K hK => ?_) AllReadyH.nil
          rw [if_pos (by rfl)]
          go_simp
          obtain ⟨W10, hp10, O10, m10⟩ := put_one (w := wc.drew) (b := mb) (.agg (stL (plE I.f3 sg sn I.f9)).toArray) Yba.underlying31 m9
          rw [hp10]
          simp only [Result.andThen]
          rw [Oper.upon_skip]
          have OO : Only mb wc W10 := ⟨O10.os, O10.tape, O10.output, O10.size, O10.block⟩
          refine hK.out _ _ ⟨OO.cell (by show sb ≠ _; omega) g4, OO.range hkm rk9⟩ (fun hHeldy => ?_)
          clear hK K hHeldx
          refine wpAnyH_done (by kernel_rfl) ?_ _
          go_wp2_with fail
          go_ret
          have b10 : Below w.heap.size w W10 := OO.below (HB8w.out.trans ((Below.refl _ _).mono HB8w.out.size)) (by omega)
          exact ⟨sb, eb, mb, kb, zb, plE I.f3 sg sn I.f9, pB, pP, pPP, pH, rfl, (HSE9.out.only OO (fun e => hmbs e.symm) hmb2.1 hmb2.2.1 hmb2.2.2).full m10, pat_map m9 OO (JpB.out.below (Below.refl _ _)), pat_map m9 OO (JpP.out.below (Below.refl _ _)), pat_map m9 OO (JpPP.out.below (Below.refl _ _)), pat_map m9 OO (JpH.out.below (Below.refl _ _)), .inr (.inr ⟨rfl, sg, sn, rfl, val_map m9 OO HVS.out⟩), b10, by omega, hew, w5.heap.size, hs5, he5, (QB8.out.below (Below.refl _ _)).only OO hm5, (QH8.out.below (Below.refl _ _)).only OO hm5⟩
end Go.Proofs.Ybulkadqm.AK
