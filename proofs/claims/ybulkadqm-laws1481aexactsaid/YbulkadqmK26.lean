import Derived.Test.YbulkadqmK25
namespace Go.Proofs.Ybulkadqm.AK
open Go.RowKit
set_option linter.unusedSimpArgs false

/-- what confirmPrepared comes to, by the candidate that is picked -/
def ConfP (w : World) (xs : List Bl) (pk : List Bl → Option Bl) (sb eb : Nat) (idx : Int) (stopped : Bool) (pB : Option Addr) (keep : Bl → Bool) (e : Ending) (w' : World) : Prop :=
  ∃ p L w1, Cands w xs p L w1 ∧ ((pk L = none ∧ e = .returned (.bool false) ∧ Below w.heap.size w w') ∨ (∃ x, pk L = some x ∧ x ∈ L ∧ e = .returned (.bool true) ∧ Done w w' sb eb idx stopped pB (keep x) x))
theorem ConfP.no {w : World} {xs : List Bl} {pk : List Bl → Option Bl} {sb eb : Nat} {idx : Int} {stopped : Bool} {pB : Option Addr} {keep : Bl → Bool} {w' : World} {p : Option Addr} {L : List Bl} {w1 : World} (h : Cands w xs p L w1) (hp : pk L = none) (hb : Below w.heap.size w w') :
    ConfP w xs pk sb eb idx stopped pB keep (.returned (.bool false)) w' := ⟨p, L, w1, h, .inl ⟨hp, rfl, hb⟩⟩
theorem ConfP.yes {w : World} {xs : List Bl} {pk : List Bl → Option Bl} {sb eb : Nat} {idx : Int} {stopped : Bool} {pB : Option Addr} {keep : Bl → Bool} {w' : World} {p : Option Addr} {L : List Bl} {w1 : World} {x : Bl} (h : Cands w xs p L w1) (hp : pk L = some x) (hx : x ∈ L) (hd : Done w w' sb eb idx stopped pB (keep x) x) :
    ConfP w xs pk sb eb idx stopped pB keep (.returned (.bool true)) w' := ⟨p, L, w1, h, .inr ⟨x, hp, hx, rfl, hd⟩⟩
theorem set_alloc (w : World) (o : Obj) (p : Addr) (v : Value) (h : p.block < w.heap.size) : (w.alloc o).setCell p v = (w.setCell p v).alloc o := by
  simp only [World.setCell, World.alloc]
  congr 1
  apply Array.ext_getElem?
  intro i
  rw [Array.getElem?_modify, Array.getElem?_push, Array.getElem?_push, Array.getElem?_modify]
  by_cases h1 : p.block = i
  · subst h1
    have hne : ¬ p.block = w.heap.size := by omega
    simp [hne]
  · by_cases h2 : i = w.heap.size
    · subst h2; simp [h1]
    · simp [h1, h2]
theorem cmp_at {w : World} {c c' : Int} {g n v g' n' v' : Nat} (h : VAt w g n v) (h' : VAt w g' n' v') (q : Nat) :
    Calls Yba.prog 22 #[.agg #[.int .u32 c, .slice (some ⟨g, 0, none⟩) n n], .agg #[.int .u32 c', .slice (some ⟨g', 0, none⟩) n' n']] (w.drewN q) fun e w' => e = .returned (.int .i64 (cmpB c v c' v')) ∧ Below w.heap.size w w' := by
  have hd := below_drewN (Below.refl w.heap.size w) q
  refine (compare_walk c c' g n v g' n' v' (w.drewN q) (h.below hd) (h'.below hd)).mono ?_
  rintro e w' ⟨he, rfl⟩
  exact ⟨he, hd.trans ((boxed2_below ..).mono hd.size)⟩

theorem cov_at {w : World} {p : Option Addr} {lo : Nat} {has : Bool} {cp : Int} {vp : Nat} {c : Int} {g n v : Nat} (h : PAt w lo has cp vp p) (h' : VAt w g n v) (q : Nat) :
    Calls Yba.prog 23 #[.pointer p, .agg #[.int .u32 c, .slice (some ⟨g, 0, none⟩) n n]] (w.drewN q) fun e w' => e = .returned (.bool (cov has cp vp c v)) ∧ Below w.heap.size w w' := by
  have hd := below_drewN (Below.refl w.heap.size w) q
  refine (cov_any p lo has cp vp c g n v (w.drewN q) (h.below hd) (h'.below hd)).mono ?_
  rintro e w' ⟨he, hb⟩
  exact ⟨he, hd.trans (hb.mono hd.size)⟩

theorem acc_at {w : World} {c : Int} {g n v : Nat} (h : VAt w g n v) (q : Nat) :
    Calls Yba.prog 11 #[.agg #[.int .u32 c, .slice (some ⟨g, 0, none⟩) n n]] (w.drewN q) fun e w' => e = .returned (.func (.func 27) #[] #[.pointer (some ⟨w.heap.size, 0, none⟩)]) ∧ Below w.heap.size w w' ∧ BAt w' w.heap.size c g n v := by
  have hd := below_drewN (Below.refl w.heap.size w) q
  have hz : (w.drewN q).heap.size = w.heap.size := Nat.le_antisymm (by simp) hd.size
  refine (accepts_walk c g n (w.drewN q)).mono ?_
  rintro e w' ⟨he, rfl⟩
  have hb := boxed_below (w.drewN q) c g n
  refine ⟨by rw [he, hz], hd.trans (hb.mono hd.size), ?_⟩
  have a := boxed_at (w.drewN q) c g n
  rw [hz] at a
  exact ⟨a.1, a.2, (h.below hd).below hb⟩

set_option maxRecDepth 100000 in
set_option maxHeartbeats 6400000 in
theorem confirm_walk (sb eb mb kb zb : Nat) (pl : Value) (hpl : pl.oneCell' = true) (idx : Int) (pB pP pPP pH : Option Addr) (hasB : Bool) (bc : Int) (bv : Nat) (hasP : Bool) (pc : Int) (pv : Nat) (hasPP : Bool) (ppc : Int) (ppv : Nat) (hasH : Bool) (hc : Int) (hv : Nat) (stopped : Bool) (acc : Int → Nat → Bool) (xs : List Bl) (w : World)
    (S : SlotAt w sb eb mb kb zb pl idx 0 pB pP pPP pH stopped) (hB : PAt w 0 hasB bc bv pB) (hP : PAt w 0 hasP pc pv pP) (hPP : PAt w 0 hasPP ppc ppv pPP) (hH : PAt w 0 hasH hc hv pH)
    (HV : ∀ w' xb c g n v, Below w.heap.size w w' → BAt w' xb c g n v → Calls Yba.prog 27 #[stv pl, .pointer (some ⟨xb, 0, none⟩)] w' fun e w'' => e = .returned (.bool (acc c v)) ∧ Below w'.heap.size w' w'')
    (HC : Calls Yba.prog 21 #[.pointer (some ⟨sb, 0, none⟩)] w fun e w' => ∃ p cap L, e = .returned (.slice p L.length cap) ∧ Cands w xs p L w') :
    Calls Yba.prog 8 #[.pointer (some ⟨sb, 0, none⟩)] w fun e w' => ConfP w xs (pick hasH hc hv (fun x => (cov hasP pc pv x.c x.v || cov hasPP ppc ppv x.c x.v) && acc x.c x.v)) sb eb idx stopped pB (fun x => hasB && !decide (cmpB bc bv x.c x.v < 0)) e w' := by
  have HS : Hid (SlotAt w sb eb mb kb zb pl idx 0 pB pP pPP pH stopped) := S
  have HB : Hid (PAt w 0 hasB bc bv pB) := hB
  have HP : Hid (PAt w 0 hasP pc pv pP) := hP
  have HPP : Hid (PAt w 0 hasPP ppc ppv pPP) := hPP
  have HH : Hid (PAt w 0 hasH hc hv pH) := hH
  have HV2 : Hid (∀ w' xb c g n v, Below w.heap.size w w' → BAt w' xb c g n v → Calls Yba.prog 27 #[stv pl, .pointer (some ⟨xb, 0, none⟩)] w' fun e w'' => e = .returned (.bool (acc c v)) ∧ Below w'.heap.size w' w'') := HV
  have HC2 : Hid (Calls Yba.prog 21 #[.pointer (some ⟨sb, 0, none⟩)] w fun e w' => ∃ p cap L, e = .returned (.slice p L.length cap) ∧ Cands w xs p L w') := HC
  have c15 := S.ph
  have hsb := World.block_lt_of_cell? w _ S.ph
  clear S hB hP hPP hH HV HC
  obtain ⟨pk, PK⟩ : ∃ pk, Hid (pk = pick hasH hc hv (fun x => (cov hasP pc pv x.c x.v || cov hasPP ppc ppv x.c x.v) && acc x.c x.v)) := ⟨_, rfl⟩
  obtain ⟨kp, KP⟩ : ∃ kp, Hid (kp = fun x : Bl => hasB && !decide (cmpB bc bv x.c x.v < 0)) := ⟨_, rfl⟩
  rw [← PK.out, ← KP.out]
  go_enter Yba.func8, Yba.ntmps8
  go_wp2_with (go_at_call 21; refine HC2.out.mono ?_; rintro e w1 ⟨p, cap, L, rfl, HL⟩)
  have HL2 : Hid (Cands w xs p L w1) := HL
  have hL100 : L.length ≤ 100 := HL.len
  clear HL HC2
  go_loopg [19] L.length (fun g s19 wr => ∃ i : Nat, s19 = .int .i64 i ∧ i ≤ L.length ∧ g = L.length - i ∧ Hid (pk L = pk (L.drop i)) ∧ Hid (Below w1.heap.size w1 wr))
  case atStart => exact ⟨0, by simp, by omega, by omega, by (show pk L = pk (L.drop 0)); simp, Below.refl _ _⟩
  case round =>
    obtain ⟨i, rfl, hiL, hgk, HPI, HBr⟩ := hrel
    have HBw : Hid (Below w.heap.size w wr) := HL2.out.below.trans (HBr.out.mono HL2.out.below.size)
    by_cases hlt : i < L.length
    · obtain ⟨x, hx⟩ : ∃ x, L[i]? = some x := ⟨L[i], by simp [hlt]⟩
      obtain ⟨rb, hp, hrb, x0, x1⟩ := HL2.out.row i x hx
      replace x0 := below_keep HBr.out x0
      replace x1 := below_keep HBr.out x1
      have HXV : Hid (VAt wr x.g x.n x.v) := (HL2.out.val x (List.mem_of_getElem? hx)).below HBr.out
      have HXm : Hid (x ∈ L) := List.mem_of_getElem? hx
      have HPD : Hid (pk (L.drop i) = if hasH && decide (cmpB x.c x.v hc hv ≤ 0) then none else if (cov hasP pc pv x.c x.v || cov hasPP ppc ppv x.c x.v) && acc x.c x.v then some x else pk (L.drop (i + 1))) := by
        show pk (L.drop i) = _
        rw [PK.out]
        exact pick_drop hx
      have hrb2 : rb < wr.heap.size := World.block_lt_of_cell? _ _ x0
      have hi0 : (0 : Int) ≤ (i : Int) := by omega
      have hi1 : (i : Int) < (L.length : Int) := by omega
      subst hp
      clear hx
      go_upto_region 7 with fail
      have EB : Hid (boxed wr x.c x.g x.n = wr.alloc (.cells #[.int .u32 x.c, .slice (some ⟨x.g, 0, none⟩) x.n x.n] 75)) := rfl
      rw [← EB.out]
      have HB2 : Hid (Below wr.heap.size wr (boxed wr x.c x.g x.n)) := boxed_below ..
      have t0 := (boxed_at wr x.c x.g x.n).1
      have t1 := (boxed_at wr x.c x.g x.n).2
      generalize boxed wr x.c x.g x.n = w2 at *
      clear EB x0 x1
      have HW2 : Hid (Below w.heap.size w w2) := HBw.out.trans (HB2.out.mono HBw.out.size)
      have HXV2 : Hid (VAt w2 x.g x.n x.v) := HXV.out.below HB2.out
      have c19 := below_keep HW2.out HS.out.h
      have hsb2 : sb < w2.heap.size := World.block_lt_of_cell? _ _ c19
      go_cut [38] (fun s38 wx => s38 = .bool (hasH && decide (cmpB x.c x.v hc hv ≤ 0)) ∧ Hid (Below w2.heap.size w2 wx))
      case first =>
        have hH2 := HH.out.below HW2.out
        rcases hH2 with ⟨rfl, rfl⟩ | ⟨rfl, hb, gh, nh, rfl, hHB, _⟩
        · refine wp_region_held_drew (S := fun w' => w'.cell? ⟨sb, 19, none⟩ = some (.pointer none)) (by kernel_rfl) c19 (fun hHeld => ?_)
          refine wpAnyH_take (i := 0) (v := ?v0) rfl (by kernel_rfl) (by kernel_rfl) (by kernel_rfl) (fun _ _ _ h => h) (Or.inl ⟨by rfl, ?hy0⟩) (by assumption) ?rest0
          case hy0 => (intro w hSw; (try dsimp only at hSw); go_simp) <;> (try with_reducible rfl)
          simp only [Act.put, List.getElem_toArray, List.getElem_cons_zero, List.getElem_cons_succ, List.setIfInBounds_toArray, List.set_cons_zero, List.set_cons_succ]
          refine wpAnyH_take (i := 1) (v := ?v1) rfl (by kernel_rfl) (by kernel_rfl) (by kernel_rfl) (fun _ _ _ h => h) (Or.inl ⟨by rfl, ?hy1⟩) (by assumption) ?rest1
          case hy1 => (intro w hSw; (try dsimp only at hSw); go_simp) <;> (try with_reducible rfl)
          simp only [Act.put, List.getElem_toArray, List.getElem_cons_zero, List.getElem_cons_succ, List.setIfInBounds_toArray, List.set_cons_zero, List.set_cons_succ]
          refine wpAnyH_take (i := 2) (v := ?v2) rfl (by kernel_rfl) (by kernel_rfl) (by kernel_rfl) (fun _ _ _ h => h) (Or.inl ⟨by rfl, ?hy2⟩) (by assumption) ?rest2
          case hy2 => (intro w hSw; (try dsimp only at hSw); go_simp) <;> (try with_reducible rfl)
          simp only [Act.put, List.getElem_toArray, List.getElem_cons_zero, List.getElem_cons_succ, List.setIfInBounds_toArray, List.set_cons_zero, List.set_cons_succ]
          refine wpAnyH_take (i := 3) (v := ?v3) rfl (by kernel_rfl) (by kernel_rfl) (by kernel_rfl) (fun _ _ _ h => h) (Or.inl ⟨by rfl, ?hy3⟩) (by assumption) ?rest3
          case hy3 => (intro w hSw; (try dsimp only at hSw); go_simp) <;> (try with_reducible rfl)
          simp only [Act.put, List.getElem_toArray, List.getElem_cons_zero, List.getElem_cons_succ, List.setIfInBounds_toArray, List.set_cons_zero, List.set_cons_succ]
          refine wpAnyH_take (i := 4) (v := ?v4) rfl (by kernel_rfl) (by kernel_rfl) (by kernel_rfl) (fun _ _ _ h => h) (Or.inl ⟨by rfl, ?hy4⟩) (by assumption) ?rest4
          case hy4 => (intro w hSw; (try dsimp only at hSw); go_simp) <;> (try with_reducible rfl)
          simp only [Act.put, List.getElem_toArray, List.getElem_cons_zero, List.getElem_cons_succ, List.setIfInBounds_toArray, List.set_cons_zero, List.set_cons_succ]
          refine wpAnyH_take (i := 5) (v := ?v5) rfl (by kernel_rfl) (by kernel_rfl) (by kernel_rfl) (fun _ _ _ h => h) (Or.inl ⟨by rfl, ?hy5⟩) (by assumption) ?rest5
          case hy5 => (intro w hSw; (try dsimp only at hSw); go_simp) <;> (try with_reducible rfl)
          simp only [Act.put, List.getElem_toArray, List.getElem_cons_zero, List.getElem_cons_succ, List.setIfInBounds_toArray, List.set_cons_zero, List.set_cons_succ]
          refine wpAnyH_take (i := 6) (v := undef) rfl (by kernel_rfl) (by kernel_rfl) (by kernel_rfl) (fun _ _ _ h => h) (Or.inr ⟨by rfl, rfl⟩) (by assumption) ?_
          simp only [Act.put, List.getElem_toArray, List.getElem_cons_zero, List.getElem_cons_succ, List.setIfInBounds_toArray, List.set_cons_zero, List.set_cons_succ]
          refine wpAnyH_take (i := 7) (v := undef) rfl (by kernel_rfl) (by kernel_rfl) (by kernel_rfl) (fun _ _ _ h => h) (Or.inr ⟨by rfl, rfl⟩) (by assumption) ?_
          simp only [Act.put, List.getElem_toArray, List.getElem_cons_zero, List.getElem_cons_succ, List.setIfInBounds_toArray, List.set_cons_zero, List.set_cons_succ]
          refine wpAnyH_take (i := 8) (v := undef) rfl (by kernel_rfl) (by kernel_rfl) (by kernel_rfl) (fun _ _ _ h => h) (Or.inr ⟨by rfl, rfl⟩) (by assumption) ?_
          simp only [Act.put, List.getElem_toArray, List.getElem_cons_zero, List.getElem_cons_succ, List.setIfInBounds_toArray, List.set_cons_zero, List.set_cons_succ]
          refine wpAnyH_take (i := 9) (v := undef) rfl (by kernel_rfl) (by kernel_rfl) (by kernel_rfl) (fun _ _ _ h => h) (Or.inr ⟨by rfl, rfl⟩) (by assumption) ?_
          simp only [Act.put, List.getElem_toArray, List.getElem_cons_zero, List.getElem_cons_succ, List.setIfInBounds_toArray, List.set_cons_zero, List.set_cons_succ]
          refine wpAnyH_take (i := 10) (v := undef) rfl (by kernel_rfl) (by kernel_rfl) (by kernel_rfl) (fun _ _ _ h => h) (Or.inr ⟨by rfl, rfl⟩) (by assumption) ?_
          simp only [Act.put, List.getElem_toArray, List.getElem_cons_zero, List.getElem_cons_succ, List.setIfInBounds_toArray, List.set_cons_zero, List.set_cons_succ]
          refine wpAnyH_take (i := 11) (v := undef) rfl (by kernel_rfl) (by kernel_rfl) (by kernel_rfl) (fun _ _ _ h => h) (Or.inr ⟨by rfl, rfl⟩) (by assumption) ?_
          simp only [Act.put, List.getElem_toArray, List.getElem_cons_zero, List.getElem_cons_succ, List.setIfInBounds_toArray, List.set_cons_zero, List.set_cons_succ]
          refine wpAnyH_take (i := 12) (v := undef) rfl (by kernel_rfl) (by kernel_rfl) (by kernel_rfl) (fun _ _ _ h => h) (Or.inr ⟨by rfl, rfl⟩) (by assumption) ?_
          simp only [Act.put, List.getElem_toArray, List.getElem_cons_zero, List.getElem_cons_succ, List.setIfInBounds_toArray, List.set_cons_zero, List.set_cons_succ]
          refine wpAnyH_take (i := 13) (v := undef) rfl (by kernel_rfl) (by kernel_rfl) (by kernel_rfl) (fun _ _ _ h => h) (Or.inr ⟨by rfl, rfl⟩) (by assumption) ?_
          simp only [Act.put, List.getElem_toArray, List.getElem_cons_zero, List.getElem_cons_succ, List.setIfInBounds_toArray, List.set_cons_zero, List.set_cons_succ]
          refine wpAnyH_take (i := 14) (v := undef) rfl (by kernel_rfl) (by kernel_rfl) (by kernel_rfl) (fun _ _ _ h => h) (Or.inr ⟨by rfl, rfl⟩) (by assumption) ?_
          simp only [Act.put, List.getElem_toArray, List.getElem_cons_zero, List.getElem_cons_succ, List.setIfInBounds_toArray, List.set_cons_zero, List.set_cons_succ]
          refine wpAnyH_take (i := 15) (v := ?v15) rfl (by kernel_rfl) (by kernel_rfl) (by kernel_rfl) (fun _ _ _ h => h) (Or.inl ⟨by rfl, ?hy15⟩) (by assumption) ?rest15
          case hy15 => (intro w hSw; (try dsimp only at hSw); go_simp) <;> (try with_reducible rfl)
          simp only [Act.put, List.getElem_toArray, List.getElem_cons_zero, List.getElem_cons_succ, List.setIfInBounds_toArray, List.set_cons_zero, List.set_cons_succ]
          refine wpAnyH_done (by kernel_rfl) ?_ _
          go_wp2_with fail
          go_meet
          exact ⟨by simp, below_drewN (Below.refl _ _) _⟩
        · have b0 := hHB.c0
          have b1 := hHB.c1
          have hbl0 : hb < w2.heap.size := World.block_lt_of_cell? _ _ b0
          have HK : Hid (∀ q, Calls Yba.prog 22 #[.agg #[.int .u32 x.c, .slice (some ⟨x.g, 0, none⟩) x.n x.n], .agg #[.int .u32 hc, .slice (some ⟨gh, 0, none⟩) nh nh]] (w2.drewN q) fun e w' => e = .returned (.int .i64 (cmpB x.c x.v hc hv)) ∧ Below w2.heap.size w2 w') := fun q => cmp_at HXV2.out hHB.val q
          clear hHB
          refine wp_region_held_drew (S := fun w' => w'.cell? ⟨sb, 19, none⟩ = some (.pointer (some ⟨hb, 0, none⟩)) ∧ w'.cell? ⟨hb, 0, none⟩ = some (.int .u32 hc) ∧ w'.cell? ⟨hb, 1, none⟩ = some (.slice (some ⟨gh, 0, none⟩) nh nh) ∧ w'.cell? ⟨wr.heap.size, 0, none⟩ = some (.int .u32 x.c) ∧ w'.cell? ⟨wr.heap.size, 1, none⟩ = some (.slice (some ⟨x.g, 0, none⟩) x.n x.n)) (by kernel_rfl) ⟨c19, b0, b1, t0, t1⟩ (fun hHeld => ?_)
          refine wpAnyH_take (i := 0) (v := ?v0c) rfl (by kernel_rfl) (by kernel_rfl) (by kernel_rfl) (fun _ _ _ h => h) (Or.inl ⟨by rfl, ?hy0c⟩) (by assumption) ?rest0c
          case hy0c => (intro w hSw; (try dsimp only at hSw); go_simp) <;> (try with_reducible rfl)
          simp only [Act.put, List.getElem_toArray, List.getElem_cons_zero, List.getElem_cons_succ, List.setIfInBounds_toArray, List.set_cons_zero, List.set_cons_succ]
          refine wpAnyH_take (i := 1) (v := ?v1c) rfl (by kernel_rfl) (by kernel_rfl) (by kernel_rfl) (fun _ _ _ h => h) (Or.inl ⟨by rfl, ?hy1c⟩) (by assumption) ?rest1c
          case hy1c => (intro w hSw; (try dsimp only at hSw); go_simp) <;> (try with_reducible rfl)
          simp only [Act.put, List.getElem_toArray, List.getElem_cons_zero, List.getElem_cons_succ, List.setIfInBounds_toArray, List.set_cons_zero, List.set_cons_succ]
          refine wpAnyH_take (i := 2) (v := ?v2c) rfl (by kernel_rfl) (by kernel_rfl) (by kernel_rfl) (fun _ _ _ h => h) (Or.inl ⟨by rfl, ?hy2c⟩) (by assumption) ?rest2c
          case hy2c => (intro w hSw; (try dsimp only at hSw); go_simp) <;> (try with_reducible rfl)
          simp only [Act.put, List.getElem_toArray, List.getElem_cons_zero, List.getElem_cons_succ, List.setIfInBounds_toArray, List.set_cons_zero, List.set_cons_succ]
          refine wpAnyH_take (i := 3) (v := ?v3c) rfl (by kernel_rfl) (by kernel_rfl) (by kernel_rfl) (fun _ _ _ h => h) (Or.inl ⟨by rfl, ?hy3c⟩) (by assumption) ?rest3c
          case hy3c => (intro w hSw; (try dsimp only at hSw); go_simp) <;> (try with_reducible rfl)
          simp only [Act.put, List.getElem_toArray, List.getElem_cons_zero, List.getElem_cons_succ, List.setIfInBounds_toArray, List.set_cons_zero, List.set_cons_succ]
          refine wpAnyH_take (i := 4) (v := ?v4c) rfl (by kernel_rfl) (by kernel_rfl) (by kernel_rfl) (fun _ _ _ h => h) (Or.inl ⟨by rfl, ?hy4c⟩) (by assumption) ?rest4c
          case hy4c => (intro w hSw; (try dsimp only at hSw); go_simp) <;> (try with_reducible rfl)
          simp only [Act.put, List.getElem_toArray, List.getElem_cons_zero, List.getElem_cons_succ, List.setIfInBounds_toArray, List.set_cons_zero, List.set_cons_succ]
          refine wpAnyH_take (i := 5) (v := ?v5c) rfl (by kernel_rfl) (by kernel_rfl) (by kernel_rfl) (fun _ _ _ h => h) (Or.inl ⟨by rfl, ?hy5c⟩) (by assumption) ?rest5c
          case hy5c => (intro w hSw; (try dsimp only at hSw); go_simp) <;> (try with_reducible rfl)
          simp only [Act.put, List.getElem_toArray, List.getElem_cons_zero, List.getElem_cons_succ, List.setIfInBounds_toArray, List.set_cons_zero, List.set_cons_succ]
          refine wpAnyH_take (i := 6) (v := ?v6c) rfl (by kernel_rfl) (by kernel_rfl) (by kernel_rfl) (fun _ _ _ h => h) (Or.inl ⟨by rfl, ?hy6c⟩) (by assumption) ?rest6c
          case hy6c => (intro w hSw; (try dsimp only at hSw); go_simp) <;> (try with_reducible rfl)
          simp only [Act.put, List.getElem_toArray, List.getElem_cons_zero, List.getElem_cons_succ, List.setIfInBounds_toArray, List.set_cons_zero, List.set_cons_succ]
          refine wpAnyH_take (i := 7) (v := ?v7c) rfl (by kernel_rfl) (by kernel_rfl) (by kernel_rfl) (fun _ _ _ h => h) (Or.inl ⟨by rfl, ?hy7c⟩) (by assumption) ?rest7c
          case hy7c => (intro w hSw; (try dsimp only at hSw); go_simp) <;> (try with_reducible rfl)
          simp only [Act.put, List.getElem_toArray, List.getElem_cons_zero, List.getElem_cons_succ, List.setIfInBounds_toArray, List.set_cons_zero, List.set_cons_succ]
          refine wpAnyH_take (i := 8) (v := ?v8c) rfl (by kernel_rfl) (by kernel_rfl) (by kernel_rfl) (fun _ _ _ h => h) (Or.inl ⟨by rfl, ?hy8c⟩) (by assumption) ?rest8c
          case hy8c => (intro w hSw; (try dsimp only at hSw); go_simp) <;> (try with_reducible rfl)
          simp only [Act.put, List.getElem_toArray, List.getElem_cons_zero, List.getElem_cons_succ, List.setIfInBounds_toArray, List.set_cons_zero, List.set_cons_succ]
          refine wpAnyH_take (i := 9) (v := ?v9c) rfl (by kernel_rfl) (by kernel_rfl) (by kernel_rfl) (fun _ _ _ h => h) (Or.inl ⟨by rfl, ?hy9c⟩) (by assumption) ?rest9c
          case hy9c => (intro w hSw; (try dsimp only at hSw); go_simp) <;> (try with_reducible rfl)
          simp only [Act.put, List.getElem_toArray, List.getElem_cons_zero, List.getElem_cons_succ, List.setIfInBounds_toArray, List.set_cons_zero, List.set_cons_succ]
          refine wpAnyH_take (i := 10) (v := ?v10c) rfl (by kernel_rfl) (by kernel_rfl) (by kernel_rfl) (fun _ _ _ h => h) (Or.inl ⟨by rfl, ?hy10c⟩) (by assumption) ?rest10c
          case hy10c => (intro w hSw; (try dsimp only at hSw); go_simp) <;> (try with_reducible rfl)
          simp only [Act.put, List.getElem_toArray, List.getElem_cons_zero, List.getElem_cons_succ, List.setIfInBounds_toArray, List.set_cons_zero, List.set_cons_succ]
          refine wpAnyH_take (i := 11) (v := ?v11c) rfl (by kernel_rfl) (by kernel_rfl) (by kernel_rfl) (fun _ _ _ h => h) (Or.inl ⟨by rfl, ?hy11c⟩) (by assumption) ?rest11c
          case hy11c => (intro w hSw; (try dsimp only at hSw); go_simp) <;> (try with_reducible rfl)
          simp only [Act.put, List.getElem_toArray, List.getElem_cons_zero, List.getElem_cons_succ, List.setIfInBounds_toArray, List.set_cons_zero, List.set_cons_succ]
          refine wpAnyH_take (i := 12) (v := ?v12c) rfl (by kernel_rfl) (by kernel_rfl) (by kernel_rfl) (fun _ _ _ h => h) (Or.inl ⟨by rfl, ?hy12c⟩) (by assumption) ?rest12c
          case hy12c => (intro w hSw; (try dsimp only at hSw); go_simp) <;> (try with_reducible rfl)
          simp only [Act.put, List.getElem_toArray, List.getElem_cons_zero, List.getElem_cons_succ, List.setIfInBounds_toArray, List.set_cons_zero, List.set_cons_succ]
          refine wpAnyH_ready (rs := [13]) (by kernel_rfl) (by simp) ?_
          refine AllReadyH.cons rfl (fun K hK => ?_) AllReadyH.nil
          rw [if_pos (by rfl)]
          go_simp
          refine (HK.out 1).mono ?_
          rintro e w3 ⟨rfl, hbl⟩
          refine hK.out _ _ ⟨below_keep hbl c19, below_keep hbl b0, below_keep hbl b1, below_keep hbl t0, below_keep hbl t1⟩ (fun hHeld2 => ?_)
          clear hK K hHeld
          refine wpAnyH_take (i := 14) (v := ?v14c) rfl (by kernel_rfl) (by kernel_rfl) (by kernel_rfl) (fun _ _ _ h => h) (Or.inl ⟨by rfl, ?hy14c⟩) (by assumption) ?rest14c
          case hy14c => (intro w hSw; (try dsimp only at hSw); go_simp) <;> (try with_reducible rfl)
          simp only [Act.put, List.getElem_toArray, List.getElem_cons_zero, List.getElem_cons_succ, List.setIfInBounds_toArray, List.set_cons_zero, List.set_cons_succ]
          refine wpAnyH_take (i := 15) (v := ?v15c) rfl (by kernel_rfl) (by kernel_rfl) (by kernel_rfl) (fun _ _ _ h => h) (Or.inl ⟨by rfl, ?hy15c⟩) (by assumption) ?rest15c
          case hy15c => (intro w hSw; (try dsimp only at hSw); go_simp) <;> (try with_reducible rfl)
          simp only [Act.put, List.getElem_toArray, List.getElem_cons_zero, List.getElem_cons_succ, List.setIfInBounds_toArray, List.set_cons_zero, List.set_cons_succ]
          refine wpAnyH_done (by kernel_rfl) ?_ _
          go_wp2_with fail
          go_meet
          exact ⟨by simp, hbl⟩
      case rest =>
        obtain ⟨rfl, HB3⟩ := hcut
        have HW3 : Hid (Below w.heap.size w wc) := HW2.out.trans (HB3.out.mono HW2.out.size)
        have HXV3 : Hid (VAt wc x.g x.n x.v) := HXV2.out.below HB3.out
        replace t0 := below_keep HB3.out t0
        replace t1 := below_keep HB3.out t1
        clear c19 hsb2
        generalize (hasH && decide (cmpB x.c x.v hc hv ≤ 0)) = b1 at *
        cases b1 with
        | true =>
          go_wp2_with fail
          go_ret
          exact ConfP.no HL2.out (by rw [HPI.out, HPD.out]; rfl) HW3.out
        | false =>
          have c17 := below_keep HW3.out HS.out.p
          have c18 := below_keep HW3.out HS.out.pp
          have hsb3 : sb < wc.heap.size := World.block_lt_of_cell? _ _ c17
          have HK1 : Hid (∀ q, Calls Yba.prog 23 #[.pointer pP, .agg #[.int .u32 x.c, .slice (some ⟨x.g, 0, none⟩) x.n x.n]] (wc.drewN q) fun e w' => e = .returned (.bool (cov hasP pc pv x.c x.v)) ∧ Below wc.heap.size wc w') := fun q => cov_at (HP.out.below HW3.out) HXV3.out q
          have HK2 : Hid (∀ w4, Below wc.heap.size wc w4 → Calls Yba.prog 23 #[.pointer pPP, .agg #[.int .u32 x.c, .slice (some ⟨x.g, 0, none⟩) x.n x.n]] w4 fun e w' => e = .returned (.bool (cov hasPP ppc ppv x.c x.v)) ∧ Below wc.heap.size wc w') := fun w4 hb => by
            refine (cov_any pPP 0 hasPP ppc ppv x.c x.g x.n x.v w4 ((HPP.out.below HW3.out).below hb) (HXV3.out.below hb)).mono ?_
            rintro e w' ⟨he, h2⟩
            exact ⟨he, hb.trans (h2.mono hb.size)⟩
          go_upto_region 8 with fail
          go_cut [54] (fun s54 wx => s54 = .bool (!(cov hasP pc pv x.c x.v || cov hasPP ppc ppv x.c x.v)) ∧ Hid (Below wc.heap.size wc wx))
          case first =>
            generalize cov hasP pc pv x.c x.v = b2 at *
            generalize cov hasPP ppc ppv x.c x.v = b3 at *
            refine wp_region_held_drew (S := fun w' => w'.cell? ⟨sb, 17, none⟩ = some (.pointer pP) ∧ w'.cell? ⟨sb, 18, none⟩ = some (.pointer pPP) ∧ w'.cell? ⟨wr.heap.size, 0, none⟩ = some (.int .u32 x.c) ∧ w'.cell? ⟨wr.heap.size, 1, none⟩ = some (.slice (some ⟨x.g, 0, none⟩) x.n x.n)) (by kernel_rfl) ⟨c17, c18, t0, t1⟩ (fun hHeld => ?_)
            refine wpAnyH_take (i := 0) (v := ?v0d) rfl (by kernel_rfl) (by kernel_rfl) (by kernel_rfl) (fun _ _ _ h => h) (Or.inl ⟨by rfl, ?hy0d⟩) (by assumption) ?rest0d
            case hy0d => (intro w hSw; (try dsimp only at hSw); go_simp) <;> (try with_reducible rfl)
            simp only [Act.put, List.getElem_toArray, List.getElem_cons_zero, List.getElem_cons_succ, List.setIfInBounds_toArray, List.set_cons_zero, List.set_cons_succ]
            refine wpAnyH_take (i := 1) (v := ?v1d) rfl (by kernel_rfl) (by kernel_rfl) (by kernel_rfl) (fun _ _ _ h => h) (Or.inl ⟨by rfl, ?hy1d⟩) (by assumption) ?rest1d
            case hy1d => (intro w hSw; (try dsimp only at hSw); go_simp) <;> (try with_reducible rfl)
            simp only [Act.put, List.getElem_toArray, List.getElem_cons_zero, List.getElem_cons_succ, List.setIfInBounds_toArray, List.set_cons_zero, List.set_cons_succ]
            refine wpAnyH_take (i := 2) (v := ?v2d) rfl (by kernel_rfl) (by kernel_rfl) (by kernel_rfl) (fun _ _ _ h => h) (Or.inl ⟨by rfl, ?hy2d⟩) (by assumption) ?rest2d
            case hy2d => (intro w hSw; (try dsimp only at hSw); go_simp) <;> (try with_reducible rfl)
            simp only [Act.put, List.getElem_toArray, List.getElem_cons_zero, List.getElem_cons_succ, List.setIfInBounds_toArray, List.set_cons_zero, List.set_cons_succ]
            refine wpAnyH_take (i := 3) (v := ?v3d) rfl (by kernel_rfl) (by kernel_rfl) (by kernel_rfl) (fun _ _ _ h => h) (Or.inl ⟨by rfl, ?hy3d⟩) (by assumption) ?rest3d
            case hy3d => (intro w hSw; (try dsimp only at hSw); go_simp) <;> (try with_reducible rfl)
            simp only [Act.put, List.getElem_toArray, List.getElem_cons_zero, List.getElem_cons_succ, List.setIfInBounds_toArray, List.set_cons_zero, List.set_cons_succ]
            refine wpAnyH_take (i := 4) (v := ?v4d) rfl (by kernel_rfl) (by kernel_rfl) (by kernel_rfl) (fun _ _ _ h => h) (Or.inl ⟨by rfl, ?hy4d⟩) (by assumption) ?rest4d
            case hy4d => (intro w hSw; (try dsimp only at hSw); go_simp) <;> (try with_reducible rfl)
            simp only [Act.put, List.getElem_toArray, List.getElem_cons_zero, List.getElem_cons_succ, List.setIfInBounds_toArray, List.set_cons_zero, List.set_cons_succ]
            refine wpAnyH_ready (rs := [5]) (by kernel_rfl) (by simp) ?_
            refine AllReadyH.cons rfl (fun K hK => ?_) AllReadyH.nil
            rw [if_pos (by rfl)]
            go_simp
            refine (HK1.out 1).mono ?_
            rintro e w4 ⟨rfl, hbl⟩
            refine hK.out _ _ ⟨below_keep hbl c17, below_keep hbl c18, below_keep hbl t0, below_keep hbl t1⟩ (fun hHeld2 => ?_)
            clear hK K hHeld
            refine wpAnyH_take (i := 6) (v := ?v6d) rfl (by kernel_rfl) (by kernel_rfl) (by kernel_rfl) (fun _ _ _ h => h) (Or.inl ⟨by rfl, ?hy6d⟩) (by assumption) ?rest6d
            case hy6d => (intro w hSw; (try dsimp only at hSw); go_simp) <;> (try with_reducible rfl)
            simp only [Act.put, List.getElem_toArray, List.getElem_cons_zero, List.getElem_cons_succ, List.setIfInBounds_toArray, List.set_cons_zero, List.set_cons_succ]
            refine wpAnyH_take (i := 7) (v := ?v7d) rfl (by kernel_rfl) (by kernel_rfl) (by kernel_rfl) (fun _ _ _ h => h) (Or.inl ⟨by rfl, ?hy7d⟩) (by assumption) ?rest7d
            case hy7d => (intro w hSw; (try dsimp only at hSw); go_simp) <;> (try with_reducible rfl)
            simp only [Act.put, List.getElem_toArray, List.getElem_cons_zero, List.getElem_cons_succ, List.setIfInBounds_toArray, List.set_cons_zero, List.set_cons_succ]
            cases b2 with
            | true =>
              refine wpAnyH_take (i := 8) (v := undef) rfl (by kernel_rfl) (by kernel_rfl) (by kernel_rfl) (fun _ _ _ h => h) (Or.inr ⟨by rfl, rfl⟩) (by assumption) ?_
              simp only [Act.put, List.getElem_toArray, List.getElem_cons_zero, List.getElem_cons_succ, List.setIfInBounds_toArray, List.set_cons_zero, List.set_cons_succ]
              refine wpAnyH_take (i := 9) (v := undef) rfl (by kernel_rfl) (by kernel_rfl) (by kernel_rfl) (fun _ _ _ h => h) (Or.inr ⟨by rfl, rfl⟩) (by assumption) ?_
              simp only [Act.put, List.getElem_toArray, List.getElem_cons_zero, List.getElem_cons_succ, List.setIfInBounds_toArray, List.set_cons_zero, List.set_cons_succ]
              refine wpAnyH_take (i := 10) (v := undef) rfl (by kernel_rfl) (by kernel_rfl) (by kernel_rfl) (fun _ _ _ h => h) (Or.inr ⟨by rfl, rfl⟩) (by assumption) ?_
              simp only [Act.put, List.getElem_toArray, List.getElem_cons_zero, List.getElem_cons_succ, List.setIfInBounds_toArray, List.set_cons_zero, List.set_cons_succ]
              refine wpAnyH_take (i := 11) (v := undef) rfl (by kernel_rfl) (by kernel_rfl) (by kernel_rfl) (fun _ _ _ h => h) (Or.inr ⟨by rfl, rfl⟩) (by assumption) ?_
              simp only [Act.put, List.getElem_toArray, List.getElem_cons_zero, List.getElem_cons_succ, List.setIfInBounds_toArray, List.set_cons_zero, List.set_cons_succ]
              refine wpAnyH_take (i := 12) (v := undef) rfl (by kernel_rfl) (by kernel_rfl) (by kernel_rfl) (fun _ _ _ h => h) (Or.inr ⟨by rfl, rfl⟩) (by assumption) ?_
              simp only [Act.put, List.getElem_toArray, List.getElem_cons_zero, List.getElem_cons_succ, List.setIfInBounds_toArray, List.set_cons_zero, List.set_cons_succ]
              refine wpAnyH_take (i := 13) (v := undef) rfl (by kernel_rfl) (by kernel_rfl) (by kernel_rfl) (fun _ _ _ h => h) (Or.inr ⟨by rfl, rfl⟩) (by assumption) ?_
              simp only [Act.put, List.getElem_toArray, List.getElem_cons_zero, List.getElem_cons_succ, List.setIfInBounds_toArray, List.set_cons_zero, List.set_cons_succ]
              refine wpAnyH_take (i := 14) (v := undef) rfl (by kernel_rfl) (by kernel_rfl) (by kernel_rfl) (fun _ _ _ h => h) (Or.inr ⟨by rfl, rfl⟩) (by assumption) ?_
              simp only [Act.put, List.getElem_toArray, List.getElem_cons_zero, List.getElem_cons_succ, List.setIfInBounds_toArray, List.set_cons_zero, List.set_cons_succ]
              refine wpAnyH_take (i := 15) (v := ?v15d) rfl (by kernel_rfl) (by kernel_rfl) (by kernel_rfl) (fun _ _ _ h => h) (Or.inl ⟨by rfl, ?hy15d⟩) (by assumption) ?rest15d
              case hy15d => (intro w hSw; (try dsimp only at hSw); go_simp) <;> (try with_reducible rfl)
              simp only [Act.put, List.getElem_toArray, List.getElem_cons_zero, List.getElem_cons_succ, List.setIfInBounds_toArray, List.set_cons_zero, List.set_cons_succ]
              refine wpAnyH_done (by kernel_rfl) ?_ _
              go_wp2_with fail
              go_meet
              exact ⟨by simp, hbl⟩
            | false =>
              refine wpAnyH_take (i := 8) (v := ?v8e) rfl (by kernel_rfl) (by kernel_rfl) (by kernel_rfl) (fun _ _ _ h => h) (Or.inl ⟨by rfl, ?hy8e⟩) (by assumption) ?rest8e
              case hy8e => (intro w hSw; (try dsimp only at hSw); go_simp) <;> (try with_reducible rfl)
              simp only [Act.put, List.getElem_toArray, List.getElem_cons_zero, List.getElem_cons_succ, List.setIfInBounds_toArray, List.set_cons_zero, List.set_cons_succ]
              refine wpAnyH_take (i := 9) (v := ?v9e) rfl (by kernel_rfl) (by kernel_rfl) (by kernel_rfl) (fun _ _ _ h => h) (Or.inl ⟨by rfl, ?hy9e⟩) (by assumption) ?rest9e
              case hy9e => (intro w hSw; (try dsimp only at hSw); go_simp) <;> (try with_reducible rfl)
              simp only [Act.put, List.getElem_toArray, List.getElem_cons_zero, List.getElem_cons_succ, List.setIfInBounds_toArray, List.set_cons_zero, List.set_cons_succ]
              refine wpAnyH_take (i := 10) (v := ?v10e) rfl (by kernel_rfl) (by kernel_rfl) (by kernel_rfl) (fun _ _ _ h => h) (Or.inl ⟨by rfl, ?hy10e⟩) (by assumption) ?rest10e
              case hy10e => (intro w hSw; (try dsimp only at hSw); go_simp) <;> (try with_reducible rfl)
              simp only [Act.put, List.getElem_toArray, List.getElem_cons_zero, List.getElem_cons_succ, List.setIfInBounds_toArray, List.set_cons_zero, List.set_cons_succ]
              refine wpAnyH_take (i := 11) (v := ?v11e) rfl (by kernel_rfl) (by kernel_rfl) (by kernel_rfl) (fun _ _ _ h => h) (Or.inl ⟨by rfl, ?hy11e⟩) (by assumption) ?rest11e
              case hy11e => (intro w hSw; (try dsimp only at hSw); go_simp) <;> (try with_reducible rfl)
              simp only [Act.put, List.getElem_toArray, List.getElem_cons_zero, List.getElem_cons_succ, List.setIfInBounds_toArray, List.set_cons_zero, List.set_cons_succ]
              refine wpAnyH_take (i := 12) (v := ?v12e) rfl (by kernel_rfl) (by kernel_rfl) (by kernel_rfl) (fun _ _ _ h => h) (Or.inl ⟨by rfl, ?hy12e⟩) (by assumption) ?rest12e
              case hy12e => (intro w hSw; (try dsimp only at hSw); go_simp) <;> (try with_reducible rfl)
              simp only [Act.put, List.getElem_toArray, List.getElem_cons_zero, List.getElem_cons_succ, List.setIfInBounds_toArray, List.set_cons_zero, List.set_cons_succ]
              refine wpAnyH_ready (rs := [13]) (by kernel_rfl) (by simp) ?_
              refine AllReadyH.cons rfl (fun K hK => ?_) AllReadyH.nil
              rw [if_pos (by rfl)]
              go_simp
              refine (HK2.out _ hbl).mono ?_
              rintro e w5 ⟨rfl, hbl2⟩
              refine hK.out _ _ ⟨below_keep hbl2 c17, below_keep hbl2 c18, below_keep hbl2 t0, below_keep hbl2 t1⟩ (fun hHeld3 => ?_)
              clear hK K hHeld2
              refine wpAnyH_take (i := 14) (v := ?v14e) rfl (by kernel_rfl) (by kernel_rfl) (by kernel_rfl) (fun _ _ _ h => h) (Or.inl ⟨by rfl, ?hy14e⟩) (by assumption) ?rest14e
              case hy14e => (intro w hSw; (try dsimp only at hSw); go_simp) <;> (try with_reducible rfl)
              simp only [Act.put, List.getElem_toArray, List.getElem_cons_zero, List.getElem_cons_succ, List.setIfInBounds_toArray, List.set_cons_zero, List.set_cons_succ]
              refine wpAnyH_take (i := 15) (v := ?v15e) rfl (by kernel_rfl) (by kernel_rfl) (by kernel_rfl) (fun _ _ _ h => h) (Or.inl ⟨by rfl, ?hy15e⟩) (by assumption) ?rest15e
              case hy15e => (intro w hSw; (try dsimp only at hSw); go_simp) <;> (try with_reducible rfl)
              simp only [Act.put, List.getElem_toArray, List.getElem_cons_zero, List.getElem_cons_succ, List.setIfInBounds_toArray, List.set_cons_zero, List.set_cons_succ]
              refine wpAnyH_done (by kernel_rfl) ?_ _
              go_wp2_with fail
              go_meet
              exact ⟨by simp, hbl2⟩
          case rest =>
            obtain ⟨rfl, HB4⟩ := hcut
            have HW4 : Hid (Below w.heap.size w wc) := HW3.out.trans (HB4.out.mono HW3.out.size)
            have HXV4 : Hid (VAt wc x.g x.n x.v) := HXV3.out.below HB4.out
            have HB14 : Hid (Below w1.heap.size w1 wc) := ((HBr.out.trans (HB2.out.mono HBr.out.size)).trans (HB3.out.mono (Nat.le_trans HBr.out.size HB2.out.size))).trans (HB4.out.mono (Nat.le_trans (Nat.le_trans HBr.out.size HB2.out.size) HB3.out.size))
            replace t0 := below_keep HB4.out t0
            replace t1 := below_keep HB4.out t1
            clear c17 c18 hsb3 HK1 HK2
            generalize (cov hasP pc pv x.c x.v || cov hasPP ppc ppv x.c x.v) = b2 at *
            cases b2 with
            | false =>
              go_wp2_with fail
              go_roundg (L.length - (i + 1))
              case rel => exact ⟨i + 1, by go_num, by omega, rfl, by (show pk L = _); rw [HPI.out, HPD.out]; rfl, HB14.out⟩
              case measure => omega
            | true =>
              have SL := HS.out.below HW4.out
              have c0 := SL.e
              have c4 := SL.bl
              have hsb4 : sb < wc.heap.size := World.block_lt_of_cell? _ _ c0
              have HT : Hid (∀ w6 xb, Below wc.heap.size wc w6 → BAt w6 xb x.c x.g x.n x.v → Calls Yba.prog 24 #[.pointer (some ⟨eb, 0, none⟩), .map (some mb), .func (.func 27) #[] #[.pointer (some ⟨xb, 0, none⟩)]] w6 fun e w' => e = .returned (.bool (acc x.c x.v)) ∧ Below wc.heap.size wc w') := fun w6 xb hb hx => by
                have S6 := SL.below hb
                refine (threshold_walk eb kb zb mb xb pl hpl (acc x.c x.v) w6 S6.id S6.kn S6.hk S6.z S6.m (fun w' hb' => HV2.out w' xb x.c x.g x.n x.v ((HW4.out.trans (hb.mono HW4.out.size)).trans (hb'.mono (Nat.le_trans HW4.out.size hb.size))) (hx.below hb'))).mono ?_
                rintro e w' ⟨he, h2⟩
                exact ⟨he, hb.trans (h2.mono hb.size)⟩
              have HA : Hid (∀ q, Calls Yba.prog 11 #[.agg #[.int .u32 x.c, .slice (some ⟨x.g, 0, none⟩) x.n x.n]] (wc.drewN q) fun e w' => e = .returned (.func (.func 27) #[] #[.pointer (some ⟨wc.heap.size, 0, none⟩)]) ∧ Below wc.heap.size wc w' ∧ BAt w' wc.heap.size x.c x.g x.n x.v) := fun q => acc_at HXV4.out q
              clear SL
              go_upto_region 9 with fail
              go_cut [65] (fun s65 wx => s65 = .bool (acc x.c x.v) ∧ Hid (Below wc.heap.size wc wx))
              case first =>
                refine wp_region_held_drew (S := fun w' => w'.cell? ⟨sb, 0, none⟩ = some (.pointer (some ⟨eb, 0, none⟩)) ∧ w'.cell? ⟨sb, 4, none⟩ = some (.map (some mb)) ∧ w'.cell? ⟨wr.heap.size, 0, none⟩ = some (.int .u32 x.c) ∧ w'.cell? ⟨wr.heap.size, 1, none⟩ = some (.slice (some ⟨x.g, 0, none⟩) x.n x.n)) (by kernel_rfl) ⟨c0, c4, t0, t1⟩ (fun hHeld => ?_)
                refine wpAnyH_take (i := 0) (v := ?v0f) rfl (by kernel_rfl) (by kernel_rfl) (by kernel_rfl) (fun _ _ _ h => h) (Or.inl ⟨by rfl, ?hy0f⟩) (by assumption) ?rest0f
                case hy0f => (intro w hSw; (try dsimp only at hSw); go_simp) <;> (try with_reducible rfl)
                simp only [Act.put, List.getElem_toArray, List.getElem_cons_zero, List.getElem_cons_succ, List.setIfInBounds_toArray, List.set_cons_zero, List.set_cons_succ]
                refine wpAnyH_take (i := 1) (v := ?v1f) rfl (by kernel_rfl) (by kernel_rfl) (by kernel_rfl) (fun _ _ _ h => h) (Or.inl ⟨by rfl, ?hy1f⟩) (by assumption) ?rest1f
                case hy1f => (intro w hSw; (try dsimp only at hSw); go_simp) <;> (try with_reducible rfl)
                simp only [Act.put, List.getElem_toArray, List.getElem_cons_zero, List.getElem_cons_succ, List.setIfInBounds_toArray, List.set_cons_zero, List.set_cons_succ]
                refine wpAnyH_take (i := 2) (v := ?v2f) rfl (by kernel_rfl) (by kernel_rfl) (by kernel_rfl) (fun _ _ _ h => h) (Or.inl ⟨by rfl, ?hy2f⟩) (by assumption) ?rest2f
                case hy2f => (intro w hSw; (try dsimp only at hSw); go_simp) <;> (try with_reducible rfl)
                simp only [Act.put, List.getElem_toArray, List.getElem_cons_zero, List.getElem_cons_succ, List.setIfInBounds_toArray, List.set_cons_zero, List.set_cons_succ]
                refine wpAnyH_take (i := 3) (v := ?v3f) rfl (by kernel_rfl) (by kernel_rfl) (by kernel_rfl) (fun _ _ _ h => h) (Or.inl ⟨by rfl, ?hy3f⟩) (by assumption) ?rest3f
                case hy3f => (intro w hSw; (try dsimp only at hSw); go_simp) <;> (try with_reducible rfl)
                simp only [Act.put, List.getElem_toArray, List.getElem_cons_zero, List.getElem_cons_succ, List.setIfInBounds_toArray, List.set_cons_zero, List.set_cons_succ]
                refine wpAnyH_take (i := 4) (v := ?v4f) rfl (by kernel_rfl) (by kernel_rfl) (by kernel_rfl) (fun _ _ _ h => h) (Or.inl ⟨by rfl, ?hy4f⟩) (by assumption) ?rest4f
                case hy4f => (intro w hSw; (try dsimp only at hSw); go_simp) <;> (try with_reducible rfl)
                simp only [Act.put, List.getElem_toArray, List.getElem_cons_zero, List.getElem_cons_succ, List.setIfInBounds_toArray, List.set_cons_zero, List.set_cons_succ]
                refine wpAnyH_take (i := 5) (v := ?v5f) rfl (by kernel_rfl) (by kernel_rfl) (by kernel_rfl) (fun _ _ _ h => h) (Or.inl ⟨by rfl, ?hy5f⟩) (by assumption) ?rest5f
                case hy5f => (intro w hSw; (try dsimp only at hSw); go_simp) <;> (try with_reducible rfl)
                simp only [Act.put, List.getElem_toArray, List.getElem_cons_zero, List.getElem_cons_succ, List.setIfInBounds_toArray, List.set_cons_zero, List.set_cons_succ]
                refine wpAnyH_take (i := 6) (v := ?v6f) rfl (by kernel_rfl) (by kernel_rfl) (by kernel_rfl) (fun _ _ _ h => h) (Or.inl ⟨by rfl, ?hy6f⟩) (by assumption) ?rest6f
                case hy6f => (intro w hSw; (try dsimp only at hSw); go_simp) <;> (try with_reducible rfl)
                simp only [Act.put, List.getElem_toArray, List.getElem_cons_zero, List.getElem_cons_succ, List.setIfInBounds_toArray, List.set_cons_zero, List.set_cons_succ]
                refine wpAnyH_take (i := 7) (v := ?v7f) rfl (by kernel_rfl) (by kernel_rfl) (by kernel_rfl) (fun _ _ _ h => h) (Or.inl ⟨by rfl, ?hy7f⟩) (by assumption) ?rest7f
                case hy7f => (intro w hSw; (try dsimp only at hSw); go_simp) <;> (try with_reducible rfl)
                simp only [Act.put, List.getElem_toArray, List.getElem_cons_zero, List.getElem_cons_succ, List.setIfInBounds_toArray, List.set_cons_zero, List.set_cons_succ]
                refine wpAnyH_take (i := 8) (v := ?v8f) rfl (by kernel_rfl) (by kernel_rfl) (by kernel_rfl) (fun _ _ _ h => h) (Or.inl ⟨by rfl, ?hy8f⟩) (by assumption) ?rest8f
                case hy8f => (intro w hSw; (try dsimp only at hSw); go_simp) <;> (try with_reducible rfl)
                simp only [Act.put, List.getElem_toArray, List.getElem_cons_zero, List.getElem_cons_succ, List.setIfInBounds_toArray, List.set_cons_zero, List.set_cons_succ]
                refine wpAnyH_ready (rs := [9]) (by kernel_rfl) (by simp) ?_
                refine AllReadyH.cons rfl (fun K hK => ?_) AllReadyH.nil
                rw [if_pos (by rfl)]
                go_simp
                refine (HA.out 1).mono ?_
                rintro e w6 ⟨rfl, hbl, hbx⟩
                refine hK.out _ _ ⟨below_keep hbl c0, below_keep hbl c4, below_keep hbl t0, below_keep hbl t1⟩ (fun hHeld2 => ?_)
                clear hK K hHeld
                refine wpAnyH_ready (rs := [10]) (by kernel_rfl) (by simp) ?_
                refine AllReadyH.cons rfl (fun K hK => ?_) AllReadyH.nil
                rw [if_pos (by rfl)]
                go_simp
                refine (HT.out w6 wc.heap.size hbl hbx).mono ?_
                rintro e w7 ⟨rfl, hbl2⟩
                refine hK.out _ _ ⟨below_keep hbl2 c0, below_keep hbl2 c4, below_keep hbl2 t0, below_keep hbl2 t1⟩ (fun hHeld3 => ?_)
                clear hK K hHeld2
                refine wpAnyH_done (by kernel_rfl) ?_ _
                go_wp2_with fail
                go_meet
                exact ⟨rfl, hbl2⟩
              case rest =>
                obtain ⟨rfl, HB5⟩ := hcut
                have HW5 : Hid (Below w.heap.size w wc) := HW4.out.trans (HB5.out.mono HW4.out.size)
                have HXV5 : Hid (VAt wc x.g x.n x.v) := HXV4.out.below HB5.out
                have HB15 : Hid (Below w1.heap.size w1 wc) := HB14.out.trans (HB5.out.mono HB14.out.size)
                replace t0 := below_keep HB5.out t0
                replace t1 := below_keep HB5.out t1
                clear c0 c4 hsb4 HT HA HV2
                generalize acc x.c x.v = b3 at *
                cases b3 with
                | false =>
                  go_wp2_with fail
                  go_roundg (L.length - (i + 1))
                  case rel => exact ⟨i + 1, by go_num, by omega, rfl, by (show pk L = _); rw [HPI.out, HPD.out]; rfl, HB15.out⟩
                  case measure => omega
                | true =>
                  have SL := HS.out.below HW5.out
                  have c19 := SL.h
                  have f19 := SL.f19
                  have hsb5 : sb < wc.heap.size := World.block_lt_of_cell? _ _ c19
                  obtain ⟨w6, EW6⟩ : ∃ w6, Hid (w6 = (wc.setCell ⟨sb, 19, none⟩ (.pointer (some ⟨wc.heap.size, 0, none⟩))).alloc (.cells #[.int .u32 x.c, .slice (some ⟨x.g, 0, none⟩) x.n x.n] 75)) := ⟨_, rfl⟩
                  have MX := mid_start SL HW5.out HXV5.out
                  rw [set_alloc _ _ _ _ hsb5, ← EW6.out] at MX
                  obtain ⟨HF6, M6, HX6⟩ := MX
                  have HM6 : Hid (∀ k, (k = true → k = true) → True) := fun _ _ => trivial
                  have HF : Hid (Fr sb eb wc w6) := HF6
                  have HMM : Hid (Mid w w6 sb eb idx stopped pB true x) := M6
                  have HX : Hid (VAt w6 x.g x.n x.v) := HX6
                  clear HF6 M6 HX6 SL HM6
                  have y0 := HF.out.keep (ex_off (by omega) (by omega) (by omega) (by omega)) t0
                  have y1 := HF.out.keep (ex_off (by omega) (by omega) (by omega) (by omega)) t1
                  go_upto_region 12 with fail
                  rw [← EW6.out]
                  clear EW6 c19 f19 hsb5 t0 t1
                  have c16 : w6.cell? ⟨sb, 16, none⟩ = some (.pointer pB) := HMM.out.b16
                  have hsb6 : sb < w6.heap.size := World.block_lt_of_cell? _ _ c16
                  go_cut [85] (fun s85 wx => s85 = .bool (!(hasB && !decide (cmpB bc bv x.c x.v < 0))) ∧ Hid (Below w6.heap.size w6 wx))
                  case first =>
                    have hB6 : PAt w6 0 hasB bc bv pB := (HB.out.below HW5.out).fr HF.out
                    rcases hB6 with ⟨rfl, rfl⟩ | ⟨rfl, bb, gb, nb, rfl, hBB, _⟩
                    · refine wp_region_held_drew (S := fun w' => w'.cell? ⟨sb, 16, none⟩ = some (.pointer none)) (by kernel_rfl) c16 (fun hHeld => ?_)
                      refine wpAnyH_take (i := 0) (v := ?v0g) rfl (by kernel_rfl) (by kernel_rfl) (by kernel_rfl) (fun _ _ _ h => h) (Or.inl ⟨by rfl, ?hy0g⟩) (by assumption) ?rest0g
                      case hy0g => (intro w hSw; (try dsimp only at hSw); go_simp) <;> (try with_reducible rfl)
                      simp only [Act.put, List.getElem_toArray, List.getElem_cons_zero, List.getElem_cons_succ, List.setIfInBounds_toArray, List.set_cons_zero, List.set_cons_succ]
                      refine wpAnyH_take (i := 1) (v := ?v1g) rfl (by kernel_rfl) (by kernel_rfl) (by kernel_rfl) (fun _ _ _ h => h) (Or.inl ⟨by rfl, ?hy1g⟩) (by assumption) ?rest1g
                      case hy1g => (intro w hSw; (try dsimp only at hSw); go_simp) <;> (try with_reducible rfl)
                      simp only [Act.put, List.getElem_toArray, List.getElem_cons_zero, List.getElem_cons_succ, List.setIfInBounds_toArray, List.set_cons_zero, List.set_cons_succ]
                      refine wpAnyH_take (i := 2) (v := ?v2g) rfl (by kernel_rfl) (by kernel_rfl) (by kernel_rfl) (fun _ _ _ h => h) (Or.inl ⟨by rfl, ?hy2g⟩) (by assumption) ?rest2g
                      case hy2g => (intro w hSw; (try dsimp only at hSw); go_simp) <;> (try with_reducible rfl)
                      simp only [Act.put, List.getElem_toArray, List.getElem_cons_zero, List.getElem_cons_succ, List.setIfInBounds_toArray, List.set_cons_zero, List.set_cons_succ]
                      refine wpAnyH_take (i := 3) (v := ?v3g) rfl (by kernel_rfl) (by kernel_rfl) (by kernel_rfl) (fun _ _ _ h => h) (Or.inl ⟨by rfl, ?hy3g⟩) (by assumption) ?rest3g
                      case hy3g => (intro w hSw; (try dsimp only at hSw); go_simp) <;> (try with_reducible rfl)
                      simp only [Act.put, List.getElem_toArray, List.getElem_cons_zero, List.getElem_cons_succ, List.setIfInBounds_toArray, List.set_cons_zero, List.set_cons_succ]
                      refine wpAnyH_take (i := 4) (v := ?v4g) rfl (by kernel_rfl) (by kernel_rfl) (by kernel_rfl) (fun _ _ _ h => h) (Or.inl ⟨by rfl, ?hy4g⟩) (by assumption) ?rest4g
                      case hy4g => (intro w hSw; (try dsimp only at hSw); go_simp) <;> (try with_reducible rfl)
                      simp only [Act.put, List.getElem_toArray, List.getElem_cons_zero, List.getElem_cons_succ, List.setIfInBounds_toArray, List.set_cons_zero, List.set_cons_succ]
                      refine wpAnyH_take (i := 5) (v := ?v5g) rfl (by kernel_rfl) (by kernel_rfl) (by kernel_rfl) (fun _ _ _ h => h) (Or.inl ⟨by rfl, ?hy5g⟩) (by assumption) ?rest5g
                      case hy5g => (intro w hSw; (try dsimp only at hSw); go_simp) <;> (try with_reducible rfl)
                      simp only [Act.put, List.getElem_toArray, List.getElem_cons_zero, List.getElem_cons_succ, List.setIfInBounds_toArray, List.set_cons_zero, List.set_cons_succ]
                      refine wpAnyH_take (i := 6) (v := undef) rfl (by kernel_rfl) (by kernel_rfl) (by kernel_rfl) (fun _ _ _ h => h) (Or.inr ⟨by rfl, rfl⟩) (by assumption) ?_
                      simp only [Act.put, List.getElem_toArray, List.getElem_cons_zero, List.getElem_cons_succ, List.setIfInBounds_toArray, List.set_cons_zero, List.set_cons_succ]
                      refine wpAnyH_take (i := 7) (v := undef) rfl (by kernel_rfl) (by kernel_rfl) (by kernel_rfl) (fun _ _ _ h => h) (Or.inr ⟨by rfl, rfl⟩) (by assumption) ?_
                      simp only [Act.put, List.getElem_toArray, List.getElem_cons_zero, List.getElem_cons_succ, List.setIfInBounds_toArray, List.set_cons_zero, List.set_cons_succ]
                      refine wpAnyH_take (i := 8) (v := undef) rfl (by kernel_rfl) (by kernel_rfl) (by kernel_rfl) (fun _ _ _ h => h) (Or.inr ⟨by rfl, rfl⟩) (by assumption) ?_
                      simp only [Act.put, List.getElem_toArray, List.getElem_cons_zero, List.getElem_cons_succ, List.setIfInBounds_toArray, List.set_cons_zero, List.set_cons_succ]
                      refine wpAnyH_take (i := 9) (v := undef) rfl (by kernel_rfl) (by kernel_rfl) (by kernel_rfl) (fun _ _ _ h => h) (Or.inr ⟨by rfl, rfl⟩) (by assumption) ?_
                      simp only [Act.put, List.getElem_toArray, List.getElem_cons_zero, List.getElem_cons_succ, List.setIfInBounds_toArray, List.set_cons_zero, List.set_cons_succ]
                      refine wpAnyH_take (i := 10) (v := undef) rfl (by kernel_rfl) (by kernel_rfl) (by kernel_rfl) (fun _ _ _ h => h) (Or.inr ⟨by rfl, rfl⟩) (by assumption) ?_
                      simp only [Act.put, List.getElem_toArray, List.getElem_cons_zero, List.getElem_cons_succ, List.setIfInBounds_toArray, List.set_cons_zero, List.set_cons_succ]
                      refine wpAnyH_take (i := 11) (v := undef) rfl (by kernel_rfl) (by kernel_rfl) (by kernel_rfl) (fun _ _ _ h => h) (Or.inr ⟨by rfl, rfl⟩) (by assumption) ?_
                      simp only [Act.put, List.getElem_toArray, List.getElem_cons_zero, List.getElem_cons_succ, List.setIfInBounds_toArray, List.set_cons_zero, List.set_cons_succ]
                      refine wpAnyH_take (i := 12) (v := undef) rfl (by kernel_rfl) (by kernel_rfl) (by kernel_rfl) (fun _ _ _ h => h) (Or.inr ⟨by rfl, rfl⟩) (by assumption) ?_
                      simp only [Act.put, List.getElem_toArray, List.getElem_cons_zero, List.getElem_cons_succ, List.setIfInBounds_toArray, List.set_cons_zero, List.set_cons_succ]
                      refine wpAnyH_take (i := 13) (v := undef) rfl (by kernel_rfl) (by kernel_rfl) (by kernel_rfl) (fun _ _ _ h => h) (Or.inr ⟨by rfl, rfl⟩) (by assumption) ?_
                      simp only [Act.put, List.getElem_toArray, List.getElem_cons_zero, List.getElem_cons_succ, List.setIfInBounds_toArray, List.set_cons_zero, List.set_cons_succ]
                      refine wpAnyH_take (i := 14) (v := undef) rfl (by kernel_rfl) (by kernel_rfl) (by kernel_rfl) (fun _ _ _ h => h) (Or.inr ⟨by rfl, rfl⟩) (by assumption) ?_
                      simp only [Act.put, List.getElem_toArray, List.getElem_cons_zero, List.getElem_cons_succ, List.setIfInBounds_toArray, List.set_cons_zero, List.set_cons_succ]
                      refine wpAnyH_take (i := 15) (v := ?v15g) rfl (by kernel_rfl) (by kernel_rfl) (by kernel_rfl) (fun _ _ _ h => h) (Or.inl ⟨by rfl, ?hy15g⟩) (by assumption) ?rest15g
                      case hy15g => (intro w hSw; (try dsimp only at hSw); go_simp) <;> (try with_reducible rfl)
                      simp only [Act.put, List.getElem_toArray, List.getElem_cons_zero, List.getElem_cons_succ, List.setIfInBounds_toArray, List.set_cons_zero, List.set_cons_succ]
                      refine wpAnyH_done (by kernel_rfl) ?_ _
                      go_wp2_with fail
                      go_meet
                      exact ⟨by simp, below_drewN (Below.refl _ _) _⟩
                    · have b0 := hBB.c0
                      have b1 := hBB.c1
                      have hbl0 : bb < w6.heap.size := World.block_lt_of_cell? _ _ b0
                      have HK : Hid (∀ q, Calls Yba.prog 22 #[.agg #[.int .u32 bc, .slice (some ⟨gb, 0, none⟩) nb nb], .agg #[.int .u32 x.c, .slice (some ⟨x.g, 0, none⟩) x.n x.n]] (w6.drewN q) fun e w' => e = .returned (.int .i64 (cmpB bc bv x.c x.v)) ∧ Below w6.heap.size w6 w') := fun q => cmp_at hBB.val HX.out q
                      clear hBB
                      refine wp_region_held_drew (S := fun w' => w'.cell? ⟨sb, 16, none⟩ = some (.pointer (some ⟨bb, 0, none⟩)) ∧ w'.cell? ⟨bb, 0, none⟩ = some (.int .u32 bc) ∧ w'.cell? ⟨bb, 1, none⟩ = some (.slice (some ⟨gb, 0, none⟩) nb nb) ∧ w'.cell? ⟨wr.heap.size, 0, none⟩ = some (.int .u32 x.c) ∧ w'.cell? ⟨wr.heap.size, 1, none⟩ = some (.slice (some ⟨x.g, 0, none⟩) x.n x.n)) (by kernel_rfl) ⟨c16, b0, b1, y0, y1⟩ (fun hHeld => ?_)
                      refine wpAnyH_take (i := 0) (v := ?v0h) rfl (by kernel_rfl) (by kernel_rfl) (by kernel_rfl) (fun _ _ _ h => h) (Or.inl ⟨by rfl, ?hy0h⟩) (by assumption) ?rest0h
                      case hy0h => (intro w hSw; (try dsimp only at hSw); go_simp) <;> (try with_reducible rfl)
                      simp only [Act.put, List.getElem_toArray, List.getElem_cons_zero, List.getElem_cons_succ, List.setIfInBounds_toArray, List.set_cons_zero, List.set_cons_succ]
                      refine wpAnyH_take (i := 1) (v := ?v1h) rfl (by kernel_rfl) (by kernel_rfl) (by kernel_rfl) (fun _ _ _ h => h) (Or.inl ⟨by rfl, ?hy1h⟩) (by assumption) ?rest1h
                      case hy1h => (intro w hSw; (try dsimp only at hSw); go_simp) <;> (try with_reducible rfl)
                      simp only [Act.put, List.getElem_toArray, List.getElem_cons_zero, List.getElem_cons_succ, List.setIfInBounds_toArray, List.set_cons_zero, List.set_cons_succ]
                      refine wpAnyH_take (i := 2) (v := ?v2h) rfl (by kernel_rfl) (by kernel_rfl) (by kernel_rfl) (fun _ _ _ h => h) (Or.inl ⟨by rfl, ?hy2h⟩) (by assumption) ?rest2h
                      case hy2h => (intro w hSw; (try dsimp only at hSw); go_simp) <;> (try with_reducible rfl)
                      simp only [Act.put, List.getElem_toArray, List.getElem_cons_zero, List.getElem_cons_succ, List.setIfInBounds_toArray, List.set_cons_zero, List.set_cons_succ]
                      refine wpAnyH_take (i := 3) (v := ?v3h) rfl (by kernel_rfl) (by kernel_rfl) (by kernel_rfl) (fun _ _ _ h => h) (Or.inl ⟨by rfl, ?hy3h⟩) (by assumption) ?rest3h
                      case hy3h => (intro w hSw; (try dsimp only at hSw); go_simp) <;> (try with_reducible rfl)
                      simp only [Act.put, List.getElem_toArray, List.getElem_cons_zero, List.getElem_cons_succ, List.setIfInBounds_toArray, List.set_cons_zero, List.set_cons_succ]
                      refine wpAnyH_take (i := 4) (v := ?v4h) rfl (by kernel_rfl) (by kernel_rfl) (by kernel_rfl) (fun _ _ _ h => h) (Or.inl ⟨by rfl, ?hy4h⟩) (by assumption) ?rest4h
                      case hy4h => (intro w hSw; (try dsimp only at hSw); go_simp) <;> (try with_reducible rfl)
                      simp only [Act.put, List.getElem_toArray, List.getElem_cons_zero, List.getElem_cons_succ, List.setIfInBounds_toArray, List.set_cons_zero, List.set_cons_succ]
                      refine wpAnyH_take (i := 5) (v := ?v5h) rfl (by kernel_rfl) (by kernel_rfl) (by kernel_rfl) (fun _ _ _ h => h) (Or.inl ⟨by rfl, ?hy5h⟩) (by assumption) ?rest5h
                      case hy5h => (intro w hSw; (try dsimp only at hSw); go_simp) <;> (try with_reducible rfl)
                      simp only [Act.put, List.getElem_toArray, List.getElem_cons_zero, List.getElem_cons_succ, List.setIfInBounds_toArray, List.set_cons_zero, List.set_cons_succ]
                      refine wpAnyH_take (i := 6) (v := ?v6h) rfl (by kernel_rfl) (by kernel_rfl) (by kernel_rfl) (fun _ _ _ h => h) (Or.inl ⟨by rfl, ?hy6h⟩) (by assumption) ?rest6h
                      case hy6h => (intro w hSw; (try dsimp only at hSw); go_simp) <;> (try with_reducible rfl)
                      simp only [Act.put, List.getElem_toArray, List.getElem_cons_zero, List.getElem_cons_succ, List.setIfInBounds_toArray, List.set_cons_zero, List.set_cons_succ]
                      refine wpAnyH_take (i := 7) (v := ?v7h) rfl (by kernel_rfl) (by kernel_rfl) (by kernel_rfl) (fun _ _ _ h => h) (Or.inl ⟨by rfl, ?hy7h⟩) (by assumption) ?rest7h
                      case hy7h => (intro w hSw; (try dsimp only at hSw); go_simp) <;> (try with_reducible rfl)
                      simp only [Act.put, List.getElem_toArray, List.getElem_cons_zero, List.getElem_cons_succ, List.setIfInBounds_toArray, List.set_cons_zero, List.set_cons_succ]
                      refine wpAnyH_take (i := 8) (v := ?v8h) rfl (by kernel_rfl) (by kernel_rfl) (by kernel_rfl) (fun _ _ _ h => h) (Or.inl ⟨by rfl, ?hy8h⟩) (by assumption) ?rest8h
                      case hy8h => (intro w hSw; (try dsimp only at hSw); go_simp) <;> (try with_reducible rfl)
                      simp only [Act.put, List.getElem_toArray, List.getElem_cons_zero, List.getElem_cons_succ, List.setIfInBounds_toArray, List.set_cons_zero, List.set_cons_succ]
                      refine wpAnyH_take (i := 9) (v := ?v9h) rfl (by kernel_rfl) (by kernel_rfl) (by kernel_rfl) (fun _ _ _ h => h) (Or.inl ⟨by rfl, ?hy9h⟩) (by assumption) ?rest9h
                      case hy9h => (intro w hSw; (try dsimp only at hSw); go_simp) <;> (try with_reducible rfl)
                      simp only [Act.put, List.getElem_toArray, List.getElem_cons_zero, List.getElem_cons_succ, List.setIfInBounds_toArray, List.set_cons_zero, List.set_cons_succ]
                      refine wpAnyH_take (i := 10) (v := ?v10h) rfl (by kernel_rfl) (by kernel_rfl) (by kernel_rfl) (fun _ _ _ h => h) (Or.inl ⟨by rfl, ?hy10h⟩) (by assumption) ?rest10h
                      case hy10h => (intro w hSw; (try dsimp only at hSw); go_simp) <;> (try with_reducible rfl)
                      simp only [Act.put, List.getElem_toArray, List.getElem_cons_zero, List.getElem_cons_succ, List.setIfInBounds_toArray, List.set_cons_zero, List.set_cons_succ]
                      refine wpAnyH_take (i := 11) (v := ?v11h) rfl (by kernel_rfl) (by kernel_rfl) (by kernel_rfl) (fun _ _ _ h => h) (Or.inl ⟨by rfl, ?hy11h⟩) (by assumption) ?rest11h
                      case hy11h => (intro w hSw; (try dsimp only at hSw); go_simp) <;> (try with_reducible rfl)
                      simp only [Act.put, List.getElem_toArray, List.getElem_cons_zero, List.getElem_cons_succ, List.setIfInBounds_toArray, List.set_cons_zero, List.set_cons_succ]
                      refine wpAnyH_take (i := 12) (v := ?v12h) rfl (by kernel_rfl) (by kernel_rfl) (by kernel_rfl) (fun _ _ _ h => h) (Or.inl ⟨by rfl, ?hy12h⟩) (by assumption) ?rest12h
                      case hy12h => (intro w hSw; (try dsimp only at hSw); go_simp) <;> (try with_reducible rfl)
                      simp only [Act.put, List.getElem_toArray, List.getElem_cons_zero, List.getElem_cons_succ, List.setIfInBounds_toArray, List.set_cons_zero, List.set_cons_succ]
                      refine wpAnyH_ready (rs := [13]) (by kernel_rfl) (by simp) ?_
                      refine AllReadyH.cons rfl (fun K hK => ?_) AllReadyH.nil
                      rw [if_pos (by rfl)]
                      go_simp
                      refine (HK.out 1).mono ?_
                      rintro e w7 ⟨rfl, hbl⟩
                      refine hK.out _ _ ⟨below_keep hbl c16, below_keep hbl b0, below_keep hbl b1, below_keep hbl y0, below_keep hbl y1⟩ (fun hHeld2 => ?_)
                      clear hK K hHeld
                      refine wpAnyH_take (i := 14) (v := ?v14h) rfl (by kernel_rfl) (by kernel_rfl) (by kernel_rfl) (fun _ _ _ h => h) (Or.inl ⟨by rfl, ?hy14h⟩) (by assumption) ?rest14h
                      case hy14h => (intro w hSw; (try dsimp only at hSw); go_simp) <;> (try with_reducible rfl)
                      simp only [Act.put, List.getElem_toArray, List.getElem_cons_zero, List.getElem_cons_succ, List.setIfInBounds_toArray, List.set_cons_zero, List.set_cons_succ]
                      refine wpAnyH_take (i := 15) (v := ?v15h) rfl (by kernel_rfl) (by kernel_rfl) (by kernel_rfl) (fun _ _ _ h => h) (Or.inl ⟨by rfl, ?hy15h⟩) (by assumption) ?rest15h
                      case hy15h => (intro w hSw; (try dsimp only at hSw); go_simp) <;> (try with_reducible rfl)
                      simp only [Act.put, List.getElem_toArray, List.getElem_cons_zero, List.getElem_cons_succ, List.setIfInBounds_toArray, List.set_cons_zero, List.set_cons_succ]
                      refine wpAnyH_done (by kernel_rfl) ?_ _
                      go_wp2_with fail
                      go_meet
                      exact ⟨by simp, hbl⟩
                  case rest =>
                    obtain ⟨rfl, HB7⟩ := hcut
                    have HM7 : Hid (Mid w wc sb eb idx stopped pB true x) := HMM.out.below HB7.out
                    have HX7 : Hid (VAt wc x.g x.n x.v) := HX.out.below HB7.out
                    replace y0 := below_keep HB7.out y0
                    replace y1 := below_keep HB7.out y1
                    clear c16 hsb6 HMM HX HF
                    have HKP : Hid (kp x = (hasB && !decide (cmpB bc bv x.c x.v < 0))) := by show kp x = _; rw [KP.out]
                    generalize (hasB && !decide (cmpB bc bv x.c x.v < 0)) = b4 at *
                    cases b4 with
                    | true =>
                      have HST : Hid (Calls Yba.prog 25 #[.pointer (some ⟨sb, 0, none⟩)] wc fun e w' => e = .returned (.tuple #[]) ∧ Done w w' sb eb idx stopped pB true x) := HM7.out.stop
                      go_wp2_with (go_at_call 25; refine HST.out.mono ?_; rintro e w8 ⟨rfl, HD⟩)
                      go_ret
                      exact ConfP.yes HL2.out (by rw [HPI.out, HPD.out]; rfl) HXm.out (by rw [HKP.out]; exact HD)
                    | false =>
                      have c16 := HM7.out.b16
                      have f16 := HM7.out.f16
                      have hsb7 : sb < wc.heap.size := World.block_lt_of_cell? _ _ c16
                      have HST : Hid (Calls Yba.prog 25 #[.pointer (some ⟨sb, 0, none⟩)] ((wc.setCell ⟨sb, 16, none⟩ (.pointer (some ⟨wc.heap.size, 0, none⟩))).alloc (.cells #[.int .u32 x.c, .slice (some ⟨x.g, 0, none⟩) x.n x.n] 75)) fun e w' => e = .returned (.tuple #[]) ∧ Done w w' sb eb idx stopped pB false x) := by
                        have := (HM7.out.set_b HX7.out).stop
                        rwa [set_alloc _ _ _ _ hsb7] at this
                      go_wp2_with (go_at_call 25; refine HST.out.mono ?_; rintro e w8 ⟨rfl, HD⟩)
                      go_ret
                      exact ConfP.yes HL2.out (by rw [HPI.out, HPD.out]; rfl) HXm.out (by rw [HKP.out]; exact HD)
    · have hi : i = L.length := by omega
      subst hi
      go_wp2_with fail
      go_ret
      exact ConfP.no HL2.out (by rw [HPI.out, PK.out]; simp [pick]) HBw.out
end Go.Proofs.Ybulkadqm.AK
