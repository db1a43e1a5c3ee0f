import Derived.Test.YbulkadqmT8
namespace Go.Proofs.Ybulkadqm.AK
open Go.RowKit
set_option linter.unusedSimpArgs false

set_option maxRecDepth 100000 in
set_option maxHeartbeats 6400000 in
theorem keeps_walk (I : In) (hI : InOk I) (w : World) :
    Calls Yba.prog 3 #[.agg I.cells.toArray] w fun e w' => e = .returned (.bool true) ∧ Below w.heap.size w w' := by
  have HI : Hid (InOk I) := hI
  have a0 := hI.v0
  have a1 := hI.v1
  clear hI
  have E0 : Hid (boxI w I = w.alloc (.cells I.cells.toArray 25)) := rfl
  have ri0 : (boxI w I).rangeAt w.heap.size 0 I.cells := range_new w I.cells 25
  have HB0 : Hid (Below w.heap.size w (boxI w I)) := (Below.refl _ w).alloc (Nat.le_refl _) _
  have HBD : Hid (∀ kind ph : Int, (kind = 0 ∨ kind = 1 ∨ kind = 2) → Calls Yba.prog 7 #[.agg I.cells.toArray, .int .i64 kind, .int .i64 ph] (boxI w I) fun e w' => BuildP (boxI w I) I kind ph e w') := fun kind ph hk => build_walk I kind ph _ hk HI.out.v4 HI.out.v7 HI.out.v12 HI.out.v15 HI.out.v18 HI.out.v21
  go_enter Yba.func3, Yba.ntmps3
  have i0 : I.cells[0]? = some (.int .u8 I.f0) := rfl
  have i1 : I.cells[1]? = some (.int .u8 I.f1) := rfl
  have m0 : 0 ≤ I.f0 % 3 ∧ I.f0 % 3 < 3 := by omega
  have m1 : 0 ≤ I.f1 % 3 ∧ I.f1 % 3 < 3 := by omega
  go_wp2_with (refine wpList_load_mid rfl 25 _ rfl w.heap.size 0 rfl I.cells _ (range_new _ _ _) Yba.underlying25 rfl (by kernel_rfl) ?_)
  rw [← E0.out]
  go_at_call 7
  refine (HBD.out _ _ (by omega)).mono ?_
  rintro e w1 HBP
  obtain ⟨sb, eb, mb, kb, zb, pl, pB, pP, pPP, pH, rfl, S, hB, hP, hPP, hH, hPl, hBl, hsb, heb, lo, hlo1, hlo2, oB, oH⟩ := HBP
  generalize hph : I.f1 % 3 = ph at *
  generalize hkd : I.f0 % 3 = kind at *
  have HS1 : Hid (SlotAt w1 sb eb mb kb zb pl I.f2 ph pB pP pPP pH I.f22) := S
  have HpB : Hid (PAt w1 (boxI w I).heap.size I.f10 I.f11 (I.f12 % 3).toNat pB) := hB
  have HpP : Hid (PAt w1 (boxI w I).heap.size I.f13 I.f14 (I.f15 % 3).toNat pP) := hP
  have HpPP : Hid (PAt w1 (boxI w I).heap.size I.f16 I.f17 (I.f18 % 3).toNat pPP) := hPP
  have HpH : Hid (PAt w1 (boxI w I).heap.size I.f19 I.f20 (I.f21 % 3).toNat pH) := hH
  have HPl : Hid (PlAt w1 (boxI w I).heap.size I kind pl) := hPl
  have ri1 := below_range hBl ri0
  have QB : Hid (OAt w1 lo pB) := oB
  have QH : Hid (OAt w1 lo pH) := oH
  have HBw1 : Hid (Below w.heap.size w w1) := HB0.out.trans (hBl.mono HB0.out.size)
  have hsbw : w.heap.size < sb := by have : (boxI w I).heap.size = w.heap.size + 1 := by unfold boxI; simp [go_sem]
                                     omega
  have hebw : w.heap.size < eb := by have : (boxI w I).heap.size = w.heap.size + 1 := by unfold boxI; simp [go_sem]
                                     omega
  have c15 := S.ph
  have c16 := S.b
  have c17 := S.p
  have c18 := S.pp
  have c19 := S.h
  have hsl : sb < w1.heap.size := World.block_lt_of_cell? _ _ c15
  clear oB oH S hB hP hPP hH hPl hBl hsb heb E0 HBD HB0 ri0 i0 i1 hph hkd
  go_upto_region 3 with fail
  go_cut [5, 6, 7, 8, 9] (fun s5 s6 s7 s8 s9 wx => s5 = .pointer pB ∧ s6 = .pointer pP ∧ s7 = .pointer pPP ∧ s8 = .pointer pH ∧ s9 = .int .i64 ph ∧ Hid (Below w1.heap.size w1 wx))
  case first =>
    refine wp_region_held_drew (S := fun w' => w'.cell? ⟨sb, 15, none⟩ = some (.int .i64 ph) ∧ w'.cell? ⟨sb, 16, none⟩ = some (.pointer pB) ∧ w'.cell? ⟨sb, 17, none⟩ = some (.pointer pP) ∧ w'.cell? ⟨sb, 18, none⟩ = some (.pointer pPP) ∧ w'.cell? ⟨sb, 19, none⟩ = some (.pointer pH)) (by kernel_rfl) ⟨c15, c16, c17, c18, c19⟩ (fun hHeld => ?_)
    refine wpAnyH_take (i := 0) (v := ?v0) rfl (by kernel_rfl) (by kernel_rfl) (by kernel_rfl) (fun _ _ _ h => h) (Or.inl ⟨by rfl, ?hy0⟩) (by assumption) ?rest0
    case hy0 => (intro w hSw; (try dsimp only at hSw); go_simp) <;> (try with_reducible rfl)
    simp only [Act.put, List.getElem_toArray, List.getElem_cons_zero, List.getElem_cons_succ, List.setIfInBounds_toArray, List.set_cons_zero, List.set_cons_succ]
    refine wpAnyH_take (i := 1) (v := ?v1) rfl (by kernel_rfl) (by kernel_rfl) (by kernel_rfl) (fun _ _ _ h => h) (Or.inl ⟨by rfl, ?hy1⟩) (by assumption) ?rest1
    case hy1 => (intro w hSw; (try dsimp only at hSw); go_simp) <;> (try with_reducible rfl)
    simp only [Act.put, List.getElem_toArray, List.getElem_cons_zero, List.getElem_cons_succ, List.setIfInBounds_toArray, List.set_cons_zero, List.set_cons_succ]
    refine wpAnyH_take (i := 2) (v := ?v2) rfl (by kernel_rfl) (by kernel_rfl) (by kernel_rfl) (fun _ _ _ h => h) (Or.inl ⟨by rfl, ?hy2⟩) (by assumption) ?rest2
    case hy2 => (intro w hSw; (try dsimp only at hSw); go_simp) <;> (try with_reducible rfl)
    simp only [Act.put, List.getElem_toArray, List.getElem_cons_zero, List.getElem_cons_succ, List.setIfInBounds_toArray, List.set_cons_zero, List.set_cons_succ]
    refine wpAnyH_take (i := 3) (v := ?v3) rfl (by kernel_rfl) (by kernel_rfl) (by kernel_rfl) (fun _ _ _ h => h) (Or.inl ⟨by rfl, ?hy3⟩) (by assumption) ?rest3
    case hy3 => (intro w hSw; (try dsimp only at hSw); go_simp) <;> (try with_reducible rfl)
    simp only [Act.put, List.getElem_toArray, List.getElem_cons_zero, List.getElem_cons_succ, List.setIfInBounds_toArray, List.set_cons_zero, List.set_cons_succ]
    refine wpAnyH_take (i := 4) (v := ?v4) rfl (by kernel_rfl) (by kernel_rfl) (by kernel_rfl) (fun _ _ _ h => h) (Or.inl ⟨by rfl, ?hy4⟩) (by assumption) ?rest4
    case hy4 => (intro w hSw; (try dsimp only at hSw); go_simp) <;> (try with_reducible rfl)
    simp only [Act.put, List.getElem_toArray, List.getElem_cons_zero, List.getElem_cons_succ, List.setIfInBounds_toArray, List.set_cons_zero, List.set_cons_succ]
    refine wpAnyH_take (i := 5) (v := ?v5) rfl (by kernel_rfl) (by kernel_rfl) (by kernel_rfl) (fun _ _ _ h => h) (Or.inl ⟨by rfl, ?hy5⟩) (by assumption) ?rest5
    case hy5 => (intro w hSw; (try dsimp only at hSw); go_simp) <;> (try with_reducible rfl)
    simp only [Act.put, List.getElem_toArray, List.getElem_cons_zero, List.getElem_cons_succ, List.setIfInBounds_toArray, List.set_cons_zero, List.set_cons_succ]
    refine wpAnyH_take (i := 6) (v := ?v6) rfl (by kernel_rfl) (by kernel_rfl) (by kernel_rfl) (fun _ _ _ h => h) (Or.inl ⟨by rfl, ?hy6⟩) (by assumption) ?rest6
    case hy6 => (intro w hSw; (try dsimp only at hSw); go_simp) <;> (try with_reducible rfl)
    simp only [Act.put, List.getElem_toArray, List.getElem_cons_zero, List.getElem_cons_succ, List.setIfInBounds_toArray, List.set_cons_zero, List.set_cons_succ]
    refine wpAnyH_take (i := 7) (v := ?v7) rfl (by kernel_rfl) (by kernel_rfl) (by kernel_rfl) (fun _ _ _ h => h) (Or.inl ⟨by rfl, ?hy7⟩) (by assumption) ?rest7
    case hy7 => (intro w hSw; (try dsimp only at hSw); go_simp) <;> (try with_reducible rfl)
    simp only [Act.put, List.getElem_toArray, List.getElem_cons_zero, List.getElem_cons_succ, List.setIfInBounds_toArray, List.set_cons_zero, List.set_cons_succ]
    refine wpAnyH_take (i := 8) (v := ?v8) rfl (by kernel_rfl) (by kernel_rfl) (by kernel_rfl) (fun _ _ _ h => h) (Or.inl ⟨by rfl, ?hy8⟩) (by assumption) ?rest8
    case hy8 => (intro w hSw; (try dsimp only at hSw); go_simp) <;> (try with_reducible rfl)
    simp only [Act.put, List.getElem_toArray, List.getElem_cons_zero, List.getElem_cons_succ, List.setIfInBounds_toArray, List.set_cons_zero, List.set_cons_succ]
    refine wpAnyH_take (i := 9) (v := ?v9) rfl (by kernel_rfl) (by kernel_rfl) (by kernel_rfl) (fun _ _ _ h => h) (Or.inl ⟨by rfl, ?hy9⟩) (by assumption) ?rest9
    case hy9 => (intro w hSw; (try dsimp only at hSw); go_simp) <;> (try with_reducible rfl)
    simp only [Act.put, List.getElem_toArray, List.getElem_cons_zero, List.getElem_cons_succ, List.setIfInBounds_toArray, List.set_cons_zero, List.set_cons_succ]
    refine wpAnyH_take (i := 10) (v := ?v10) rfl (by kernel_rfl) (by kernel_rfl) (by kernel_rfl) (fun _ _ _ h => h) (Or.inl ⟨by rfl, ?hy10⟩) (by assumption) ?rest10
    case hy10 => (intro w hSw; (try dsimp only at hSw); go_simp) <;> (try with_reducible rfl)
    simp only [Act.put, List.getElem_toArray, List.getElem_cons_zero, List.getElem_cons_succ, List.setIfInBounds_toArray, List.set_cons_zero, List.set_cons_succ]
    refine wpAnyH_take (i := 11) (v := ?v11) rfl (by kernel_rfl) (by kernel_rfl) (by kernel_rfl) (fun _ _ _ h => h) (Or.inl ⟨by rfl, ?hy11⟩) (by assumption) ?rest11
    case hy11 => (intro w hSw; (try dsimp only at hSw); go_simp) <;> (try with_reducible rfl)
    simp only [Act.put, List.getElem_toArray, List.getElem_cons_zero, List.getElem_cons_succ, List.setIfInBounds_toArray, List.set_cons_zero, List.set_cons_succ]
    refine wpAnyH_take (i := 12) (v := ?v12) rfl (by kernel_rfl) (by kernel_rfl) (by kernel_rfl) (fun _ _ _ h => h) (Or.inl ⟨by rfl, ?hy12⟩) (by assumption) ?rest12
    case hy12 => (intro w hSw; (try dsimp only at hSw); go_simp) <;> (try with_reducible rfl)
    simp only [Act.put, List.getElem_toArray, List.getElem_cons_zero, List.getElem_cons_succ, List.setIfInBounds_toArray, List.set_cons_zero, List.set_cons_succ]
    refine wpAnyH_take (i := 13) (v := ?v13) rfl (by kernel_rfl) (by kernel_rfl) (by kernel_rfl) (fun _ _ _ h => h) (Or.inl ⟨by rfl, ?hy13⟩) (by assumption) ?rest13
    case hy13 => (intro w hSw; (try dsimp only at hSw); go_simp) <;> (try with_reducible rfl)
    simp only [Act.put, List.getElem_toArray, List.getElem_cons_zero, List.getElem_cons_succ, List.setIfInBounds_toArray, List.set_cons_zero, List.set_cons_succ]
    refine wpAnyH_take (i := 14) (v := ?v14) rfl (by kernel_rfl) (by kernel_rfl) (by kernel_rfl) (fun _ _ _ h => h) (Or.inl ⟨by rfl, ?hy14⟩) (by assumption) ?rest14
    case hy14 => (intro w hSw; (try dsimp only at hSw); go_simp) <;> (try with_reducible rfl)
    simp only [Act.put, List.getElem_toArray, List.getElem_cons_zero, List.getElem_cons_succ, List.setIfInBounds_toArray, List.set_cons_zero, List.set_cons_succ]
    refine wpAnyH_take (i := 15) (v := ?v15) rfl (by kernel_rfl) (by kernel_rfl) (by kernel_rfl) (fun _ _ _ h => h) (Or.inl ⟨by rfl, ?hy15⟩) (by assumption) ?rest15
    case hy15 => (intro w hSw; (try dsimp only at hSw); go_simp) <;> (try with_reducible rfl)
    simp only [Act.put, List.getElem_toArray, List.getElem_cons_zero, List.getElem_cons_succ, List.setIfInBounds_toArray, List.set_cons_zero, List.set_cons_succ]
    refine wpAnyH_take (i := 16) (v := ?v16) rfl (by kernel_rfl) (by kernel_rfl) (by kernel_rfl) (fun _ _ _ h => h) (Or.inl ⟨by rfl, ?hy16⟩) (by assumption) ?rest16
    case hy16 => (intro w hSw; (try dsimp only at hSw); go_simp) <;> (try with_reducible rfl)
    simp only [Act.put, List.getElem_toArray, List.getElem_cons_zero, List.getElem_cons_succ, List.setIfInBounds_toArray, List.set_cons_zero, List.set_cons_succ]
    refine wpAnyH_take (i := 17) (v := ?v17) rfl (by kernel_rfl) (by kernel_rfl) (by kernel_rfl) (fun _ _ _ h => h) (Or.inl ⟨by rfl, ?hy17⟩) (by assumption) ?rest17
    case hy17 => (intro w hSw; (try dsimp only at hSw); go_simp) <;> (try with_reducible rfl)
    simp only [Act.put, List.getElem_toArray, List.getElem_cons_zero, List.getElem_cons_succ, List.setIfInBounds_toArray, List.set_cons_zero, List.set_cons_succ]
    refine wpAnyH_take (i := 18) (v := ?v18) rfl (by kernel_rfl) (by kernel_rfl) (by kernel_rfl) (fun _ _ _ h => h) (Or.inl ⟨by rfl, ?hy18⟩) (by assumption) ?rest18
    case hy18 => (intro w hSw; (try dsimp only at hSw); go_simp) <;> (try with_reducible rfl)
    simp only [Act.put, List.getElem_toArray, List.getElem_cons_zero, List.getElem_cons_succ, List.setIfInBounds_toArray, List.set_cons_zero, List.set_cons_succ]
    refine wpAnyH_take (i := 19) (v := ?v19) rfl (by kernel_rfl) (by kernel_rfl) (by kernel_rfl) (fun _ _ _ h => h) (Or.inl ⟨by rfl, ?hy19⟩) (by assumption) ?rest19
    case hy19 => (intro w hSw; (try dsimp only at hSw); go_simp) <;> (try with_reducible rfl)
    simp only [Act.put, List.getElem_toArray, List.getElem_cons_zero, List.getElem_cons_succ, List.setIfInBounds_toArray, List.set_cons_zero, List.set_cons_succ]
    refine wpAnyH_take (i := 20) (v := ?v20) rfl (by kernel_rfl) (by kernel_rfl) (by kernel_rfl) (fun _ _ _ h => h) (Or.inl ⟨by rfl, ?hy20⟩) (by assumption) ?rest20
    case hy20 => (intro w hSw; (try dsimp only at hSw); go_simp) <;> (try with_reducible rfl)
    simp only [Act.put, List.getElem_toArray, List.getElem_cons_zero, List.getElem_cons_succ, List.setIfInBounds_toArray, List.set_cons_zero, List.set_cons_succ]
    refine wpAnyH_take (i := 21) (v := ?v21) rfl (by kernel_rfl) (by kernel_rfl) (by kernel_rfl) (fun _ _ _ h => h) (Or.inl ⟨by rfl, ?hy21⟩) (by assumption) ?rest21
    case hy21 => (intro w hSw; (try dsimp only at hSw); go_simp) <;> (try with_reducible rfl)
    simp only [Act.put, List.getElem_toArray, List.getElem_cons_zero, List.getElem_cons_succ, List.setIfInBounds_toArray, List.set_cons_zero, List.set_cons_succ]
    refine wpAnyH_take (i := 22) (v := ?v22) rfl (by kernel_rfl) (by kernel_rfl) (by kernel_rfl) (fun _ _ _ h => h) (Or.inl ⟨by rfl, ?hy22⟩) (by assumption) ?rest22
    case hy22 => (intro w hSw; (try dsimp only at hSw); go_simp) <;> (try with_reducible rfl)
    simp only [Act.put, List.getElem_toArray, List.getElem_cons_zero, List.getElem_cons_succ, List.setIfInBounds_toArray, List.set_cons_zero, List.set_cons_succ]
    refine wpAnyH_take (i := 23) (v := ?v23) rfl (by kernel_rfl) (by kernel_rfl) (by kernel_rfl) (fun _ _ _ h => h) (Or.inl ⟨by rfl, ?hy23⟩) (by assumption) ?rest23
    case hy23 => (intro w hSw; (try dsimp only at hSw); go_simp) <;> (try with_reducible rfl)
    simp only [Act.put, List.getElem_toArray, List.getElem_cons_zero, List.getElem_cons_succ, List.setIfInBounds_toArray, List.set_cons_zero, List.set_cons_succ]
    refine wpAnyH_take (i := 24) (v := ?v24) rfl (by kernel_rfl) (by kernel_rfl) (by kernel_rfl) (fun _ _ _ h => h) (Or.inl ⟨by rfl, ?hy24⟩) (by assumption) ?rest24
    case hy24 => (intro w hSw; (try dsimp only at hSw); go_simp) <;> (try with_reducible rfl)
    simp only [Act.put, List.getElem_toArray, List.getElem_cons_zero, List.getElem_cons_succ, List.setIfInBounds_toArray, List.set_cons_zero, List.set_cons_succ]
    refine wpAnyH_done (by kernel_rfl) ?_ _
    go_wp2_with fail
    go_meet
    exact ⟨rfl, rfl, rfl, rfl, rfl, below_drewN (Below.refl _ _) _⟩
  case rest =>
    obtain ⟨rfl, rfl, rfl, rfl, rfl, HB2⟩ := hcut
    go_step
    have b2 := HB2.out
    exact tail4 w wc sb eb mb kb zb lo (boxI w I).heap.size ph kind I pl pB pP pPP pH _ _ _ _ _ _ _ _ _ _ _ _ _ _ _ _ _ _ _ _ _ _ _ _ _ _ _ _ _ _ _ _ _ _ _ _ _ _ _ _ _ _ _ _ _ _ _ _ _ _ _ _ _ _ _ _ _ _ _ _ _ _ _ _ _ _ _ _ _ _ _ _ _ _ _ _ _ _ _ _ _ _ _ _ _ _ _ _ _ _ _ _ _ _ _ _ _ _ _ _ _ _ _ _ _ _ _ _ _ _ _ _ _ _ _ _ _ _ _ _ _ _ _ _ _ _ _ _ _ _ _ _ _ _ _ _ _ _ _ _ _ _ _ _ _ _ _ _ _ _ _ _ _ _ _ _ _ _ _ _ _ _ _ _ _ _ _ _ _ _ _ _ _ _ _ _ _ _ _ _ _ _ _ _ _ _ _ _ _ _ _ _ _ _ _ _ _ _ _ _ _ _ _ _ _ _ _ _ _ _ _ _ _ _ _ _ _ _ _ _ _ _ _ _ _ _ _ _ _ _ _ _ _ _ _ _ _ _ _ _ _ _ _ _ _ _ _ _ _ _ _ _ _ _ _ _ HI (HBw1.out.trans (b2.mono HBw1.out.size)) (HS1.out.below b2) (HpB.out.below b2) (HpP.out.below b2) (HpPP.out.below b2) (HpH.out.below b2) (HPl.out.below b2) (below_range b2 ri1) (QB.out.below b2) (QH.out.below b2) hlo1 hlo2 hsbw hebw
end Go.Proofs.Ybulkadqm.AK
