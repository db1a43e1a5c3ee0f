import Derived.Test.YbulkadqmT7
namespace Go.Proofs.Ybulkadqm.AK
open Go.RowKit
set_option linter.unusedSimpArgs false

theorem pat_lt {w : World} {lo : Nat} {has : Bool} {c : Int} {v b : Nat} {p : Option Addr} (h : PAt w lo has c v p) (hp : p = some ⟨b, 0, none⟩) : b < w.heap.size := by
  rcases h with ⟨_, h⟩ | ⟨_, b', _, _, h, hB', _⟩
  · rw [h] at hp; cases hp
  · rw [h] at hp
    have h1 := World.block_lt_of_cell? _ _ hB'.c0
    injection hp with hp2
    injection hp2 with hp3
    have h2 : b' < w.heap.size := h1
    omega

set_option maxRecDepth 100000 in
set_option maxHeartbeats 6400000 in
theorem keeps_walk (I : In) (hI : InOk I) (w : World) :
    Calls Yba.prog 3 #[.agg I.cells.toArray] w fun e w' => e = .returned (.bool true) ∧ Below w.heap.size w w' := by
  have HI : Hid (InOk I) := hI
  have a0 := hI.v0
  have a1 := hI.v1
  clear hI
  have E0 : Hid (boxI w I = w.alloc (.cells I.cells.toArray 25)) := rfl
  have ri0 : (boxI w I).rangeAt w.heap.size 0 I.cells := range_new w I.cells 25
  have HB0 : Hid (Below w.heap.size w (boxI w I)) := (Below.refl _ w).alloc (Nat.le_refl _) _
  have HBD : Hid (∀ kind ph : Int, (kind = 0 ∨ kind = 1 ∨ kind = 2) → Calls Yba.prog 7 #[.agg I.cells.toArray, .int .i64 kind, .int .i64 ph] (boxI w I) fun e w' => BuildP (boxI w I) I kind ph e w') := fun kind ph hk => build_walk I kind ph _ hk HI.out.v4 HI.out.v7 HI.out.v12 HI.out.v15 HI.out.v18 HI.out.v21
  go_enter Yba.func3, Yba.ntmps3
  have i0 : I.cells[0]? = some (.int .u8 I.f0) := rfl
  have i1 : I.cells[1]? = some (.int .u8 I.f1) := rfl
  have m0 : 0 ≤ I.f0 % 3 ∧ I.f0 % 3 < 3 := by omega
  have m1 : 0 ≤ I.f1 % 3 ∧ I.f1 % 3 < 3 := by omega
  go_wp2_with (refine wpList_load_mid rfl 25 _ rfl w.heap.size 0 rfl I.cells _ (range_new _ _ _) Yba.underlying25 rfl (by kernel_rfl) ?_)
  rw [← E0.out]
  go_at_call 7
  refine (HBD.out _ _ (by omega)).mono ?_
  rintro e w1 HBP
  obtain ⟨sb, eb, mb, kb, zb, pl, pB, pP, pPP, pH, rfl, S, hB, hP, hPP, hH, hPl, hBl, hsb, heb, lo, hlo1, hlo2, oB, oH⟩ := HBP
  generalize hph : I.f1 % 3 = ph at *
  generalize hkd : I.f0 % 3 = kind at *
  have HS1 : Hid (SlotAt w1 sb eb mb kb zb pl I.f2 ph pB pP pPP pH I.f22) := S
  have HpB : Hid (PAt w1 (boxI w I).heap.size I.f10 I.f11 (I.f12 % 3).toNat pB) := hB
  have HpP : Hid (PAt w1 (boxI w I).heap.size I.f13 I.f14 (I.f15 % 3).toNat pP) := hP
  have HpPP : Hid (PAt w1 (boxI w I).heap.size I.f16 I.f17 (I.f18 % 3).toNat pPP) := hPP
  have HpH : Hid (PAt w1 (boxI w I).heap.size I.f19 I.f20 (I.f21 % 3).toNat pH) := hH
  have HPl : Hid (PlAt w1 (boxI w I).heap.size I kind pl) := hPl
  have ri1 := below_range hBl ri0
  have QB : Hid (OAt w1 lo pB) := oB
  have QH : Hid (OAt w1 lo pH) := oH
  have HBw1 : Hid (Below w.heap.size w w1) := HB0.out.trans (hBl.mono HB0.out.size)
  have hsbw : w.heap.size < sb := by have : (boxI w I).heap.size = w.heap.size + 1 := by unfold boxI; simp [go_sem]
                                     omega
  have hebw : w.heap.size < eb := by have : (boxI w I).heap.size = w.heap.size + 1 := by unfold boxI; simp [go_sem]
                                     omega
  have c15 := S.ph
  have c16 := S.b
  have c17 := S.p
  have c18 := S.pp
  have c19 := S.h
  have hsl : sb < w1.heap.size := World.block_lt_of_cell? _ _ c15
  clear oB oH S hB hP hPP hH hPl hBl hsb heb E0 HBD HB0 ri0 i0 i1 hph hkd
  go_upto_region 3 with fail
  go_cut [5, 6, 7, 8, 9] (fun s5 s6 s7 s8 s9 wx => s5 = .pointer pB ∧ s6 = .pointer pP ∧ s7 = .pointer pPP ∧ s8 = .pointer pH ∧ s9 = .int .i64 ph ∧ Hid (Below w1.heap.size w1 wx))
  case first =>
    refine wp_region_held_drew (S := fun w' => w'.cell? ⟨sb, 15, none⟩ = some (.int .i64 ph) ∧ w'.cell? ⟨sb, 16, none⟩ = some (.pointer pB) ∧ w'.cell? ⟨sb, 17, none⟩ = some (.pointer pP) ∧ w'.cell? ⟨sb, 18, none⟩ = some (.pointer pPP) ∧ w'.cell? ⟨sb, 19, none⟩ = some (.pointer pH)) (by kernel_rfl) ⟨c15, c16, c17, c18, c19⟩ (fun hHeld => ?_)
    refine wpAnyH_take (i := 0) (v := ?v0) rfl (by kernel_rfl) (by kernel_rfl) (by kernel_rfl) (fun _ _ _ h => h) (Or.inl ⟨by rfl, ?hy0⟩) (by assumption) ?rest0
    case hy0 => (intro w hSw; (try dsimp only at hSw); go_simp) <;> (try with_reducible rfl)
    simp only [Act.put, List.getElem_toArray, List.getElem_cons_zero, List.getElem_cons_succ, List.setIfInBounds_toArray, List.set_cons_zero, List.set_cons_succ]
    refine wpAnyH_take (i := 1) (v := ?v1) rfl (by kernel_rfl) (by kernel_rfl) (by kernel_rfl) (fun _ _ _ h => h) (Or.inl ⟨by rfl, ?hy1⟩) (by assumption) ?rest1
    case hy1 => (intro w hSw; (try dsimp only at hSw); go_simp) <;> (try with_reducible rfl)
    simp only [Act.put, List.getElem_toArray, List.getElem_cons_zero, List.getElem_cons_succ, List.setIfInBounds_toArray, List.set_cons_zero, List.set_cons_succ]
    refine wpAnyH_take (i := 2) (v := ?v2) rfl (by kernel_rfl) (by kernel_rfl) (by kernel_rfl) (fun _ _ _ h => h) (Or.inl ⟨by rfl, ?hy2⟩) (by assumption) ?rest2
    case hy2 => (intro w hSw; (try dsimp only at hSw); go_simp) <;> (try with_reducible rfl)
    simp only [Act.put, List.getElem_toArray, List.getElem_cons_zero, List.getElem_cons_succ, List.setIfInBounds_toArray, List.set_cons_zero, List.set_cons_succ]
    refine wpAnyH_take (i := 3) (v := ?v3) rfl (by kernel_rfl) (by kernel_rfl) (by kernel_rfl) (fun _ _ _ h => h) (Or.inl ⟨by rfl, ?hy3⟩) (by assumption) ?rest3
    case hy3 => (intro w hSw; (try dsimp only at hSw); go_simp) <;> (try with_reducible rfl)
    simp only [Act.put, List.getElem_toArray, List.getElem_cons_zero, List.getElem_cons_succ, List.setIfInBounds_toArray, List.set_cons_zero, List.set_cons_succ]
    refine wpAnyH_take (i := 4) (v := ?v4) rfl (by kernel_rfl) (by kernel_rfl) (by kernel_rfl) (fun _ _ _ h => h) (Or.inl ⟨by rfl, ?hy4⟩) (by assumption) ?rest4
    case hy4 => (intro w hSw; (try dsimp only at hSw); go_simp) <;> (try with_reducible rfl)
    simp only [Act.put, List.getElem_toArray, List.getElem_cons_zero, List.getElem_cons_succ, List.setIfInBounds_toArray, List.set_cons_zero, List.set_cons_succ]
    refine wpAnyH_take (i := 5) (v := ?v5) rfl (by kernel_rfl) (by kernel_rfl) (by kernel_rfl) (fun _ _ _ h => h) (Or.inl ⟨by rfl, ?hy5⟩) (by assumption) ?rest5
    case hy5 => (intro w hSw; (try dsimp only at hSw); go_simp) <;> (try with_reducible rfl)
    simp only [Act.put, List.getElem_toArray, List.getElem_cons_zero, List.getElem_cons_succ, List.setIfInBounds_toArray, List.set_cons_zero, List.set_cons_succ]
    refine wpAnyH_take (i := 6) (v := ?v6) rfl (by kernel_rfl) (by kernel_rfl) (by kernel_rfl) (fun _ _ _ h => h) (Or.inl ⟨by rfl, ?hy6⟩) (by assumption) ?rest6
    case hy6 => (intro w hSw; (try dsimp only at hSw); go_simp) <;> (try with_reducible rfl)
    simp only [Act.put, List.getElem_toArray, List.getElem_cons_zero, List.getElem_cons_succ, List.setIfInBounds_toArray, List.set_cons_zero, List.set_cons_succ]
    refine wpAnyH_take (i := 7) (v := ?v7) rfl (by kernel_rfl) (by kernel_rfl) (by kernel_rfl) (fun _ _ _ h => h) (Or.inl ⟨by rfl, ?hy7⟩) (by assumption) ?rest7
    case hy7 => (intro w hSw; (try dsimp only at hSw); go_simp) <;> (try with_reducible rfl)
    simp only [Act.put, List.getElem_toArray, List.getElem_cons_zero, List.getElem_cons_succ, List.setIfInBounds_toArray, List.set_cons_zero, List.set_cons_succ]
    refine wpAnyH_take (i := 8) (v := ?v8) rfl (by kernel_rfl) (by kernel_rfl) (by kernel_rfl) (fun _ _ _ h => h) (Or.inl ⟨by rfl, ?hy8⟩) (by assumption) ?rest8
    case hy8 => (intro w hSw; (try dsimp only at hSw); go_simp) <;> (try with_reducible rfl)
    simp only [Act.put, List.getElem_toArray, List.getElem_cons_zero, List.getElem_cons_succ, List.setIfInBounds_toArray, List.set_cons_zero, List.set_cons_succ]
    refine wpAnyH_take (i := 9) (v := ?v9) rfl (by kernel_rfl) (by kernel_rfl) (by kernel_rfl) (fun _ _ _ h => h) (Or.inl ⟨by rfl, ?hy9⟩) (by assumption) ?rest9
    case hy9 => (intro w hSw; (try dsimp only at hSw); go_simp) <;> (try with_reducible rfl)
    simp only [Act.put, List.getElem_toArray, List.getElem_cons_zero, List.getElem_cons_succ, List.setIfInBounds_toArray, List.set_cons_zero, List.set_cons_succ]
    refine wpAnyH_take (i := 10) (v := ?v10) rfl (by kernel_rfl) (by kernel_rfl) (by kernel_rfl) (fun _ _ _ h => h) (Or.inl ⟨by rfl, ?hy10⟩) (by assumption) ?rest10
    case hy10 => (intro w hSw; (try dsimp only at hSw); go_simp) <;> (try with_reducible rfl)
    simp only [Act.put, List.getElem_toArray, List.getElem_cons_zero, List.getElem_cons_succ, List.setIfInBounds_toArray, List.set_cons_zero, List.set_cons_succ]
    refine wpAnyH_take (i := 11) (v := ?v11) rfl (by kernel_rfl) (by kernel_rfl) (by kernel_rfl) (fun _ _ _ h => h) (Or.inl ⟨by rfl, ?hy11⟩) (by assumption) ?rest11
    case hy11 => (intro w hSw; (try dsimp only at hSw); go_simp) <;> (try with_reducible rfl)
    simp only [Act.put, List.getElem_toArray, List.getElem_cons_zero, List.getElem_cons_succ, List.setIfInBounds_toArray, List.set_cons_zero, List.set_cons_succ]
    refine wpAnyH_take (i := 12) (v := ?v12) rfl (by kernel_rfl) (by kernel_rfl) (by kernel_rfl) (fun _ _ _ h => h) (Or.inl ⟨by rfl, ?hy12⟩) (by assumption) ?rest12
    case hy12 => (intro w hSw; (try dsimp only at hSw); go_simp) <;> (try with_reducible rfl)
    simp only [Act.put, List.getElem_toArray, List.getElem_cons_zero, List.getElem_cons_succ, List.setIfInBounds_toArray, List.set_cons_zero, List.set_cons_succ]
    refine wpAnyH_take (i := 13) (v := ?v13) rfl (by kernel_rfl) (by kernel_rfl) (by kernel_rfl) (fun _ _ _ h => h) (Or.inl ⟨by rfl, ?hy13⟩) (by assumption) ?rest13
    case hy13 => (intro w hSw; (try dsimp only at hSw); go_simp) <;> (try with_reducible rfl)
    simp only [Act.put, List.getElem_toArray, List.getElem_cons_zero, List.getElem_cons_succ, List.setIfInBounds_toArray, List.set_cons_zero, List.set_cons_succ]
    refine wpAnyH_take (i := 14) (v := ?v14) rfl (by kernel_rfl) (by kernel_rfl) (by kernel_rfl) (fun _ _ _ h => h) (Or.inl ⟨by rfl, ?hy14⟩) (by assumption) ?rest14
    case hy14 => (intro w hSw; (try dsimp only at hSw); go_simp) <;> (try with_reducible rfl)
    simp only [Act.put, List.getElem_toArray, List.getElem_cons_zero, List.getElem_cons_succ, List.setIfInBounds_toArray, List.set_cons_zero, List.set_cons_succ]
    refine wpAnyH_take (i := 15) (v := ?v15) rfl (by kernel_rfl) (by kernel_rfl) (by kernel_rfl) (fun _ _ _ h => h) (Or.inl ⟨by rfl, ?hy15⟩) (by assumption) ?rest15
    case hy15 => (intro w hSw; (try dsimp only at hSw); go_simp) <;> (try with_reducible rfl)
    simp only [Act.put, List.getElem_toArray, List.getElem_cons_zero, List.getElem_cons_succ, List.setIfInBounds_toArray, List.set_cons_zero, List.set_cons_succ]
    refine wpAnyH_take (i := 16) (v := ?v16) rfl (by kernel_rfl) (by kernel_rfl) (by kernel_rfl) (fun _ _ _ h => h) (Or.inl ⟨by rfl, ?hy16⟩) (by assumption) ?rest16
    case hy16 => (intro w hSw; (try dsimp only at hSw); go_simp) <;> (try with_reducible rfl)
    simp only [Act.put, List.getElem_toArray, List.getElem_cons_zero, List.getElem_cons_succ, List.setIfInBounds_toArray, List.set_cons_zero, List.set_cons_succ]
    refine wpAnyH_take (i := 17) (v := ?v17) rfl (by kernel_rfl) (by kernel_rfl) (by kernel_rfl) (fun _ _ _ h => h) (Or.inl ⟨by rfl, ?hy17⟩) (by assumption) ?rest17
    case hy17 => (intro w hSw; (try dsimp only at hSw); go_simp) <;> (try with_reducible rfl)
    simp only [Act.put, List.getElem_toArray, List.getElem_cons_zero, List.getElem_cons_succ, List.setIfInBounds_toArray, List.set_cons_zero, List.set_cons_succ]
    refine wpAnyH_take (i := 18) (v := ?v18) rfl (by kernel_rfl) (by kernel_rfl) (by kernel_rfl) (fun _ _ _ h => h) (Or.inl ⟨by rfl, ?hy18⟩) (by assumption) ?rest18
    case hy18 => (intro w hSw; (try dsimp only at hSw); go_simp) <;> (try with_reducible rfl)
    simp only [Act.put, List.getElem_toArray, List.getElem_cons_zero, List.getElem_cons_succ, List.setIfInBounds_toArray, List.set_cons_zero, List.set_cons_succ]
    refine wpAnyH_take (i := 19) (v := ?v19) rfl (by kernel_rfl) (by kernel_rfl) (by kernel_rfl) (fun _ _ _ h => h) (Or.inl ⟨by rfl, ?hy19⟩) (by assumption) ?rest19
    case hy19 => (intro w hSw; (try dsimp only at hSw); go_simp) <;> (try with_reducible rfl)
    simp only [Act.put, List.getElem_toArray, List.getElem_cons_zero, List.getElem_cons_succ, List.setIfInBounds_toArray, List.set_cons_zero, List.set_cons_succ]
    refine wpAnyH_take (i := 20) (v := ?v20) rfl (by kernel_rfl) (by kernel_rfl) (by kernel_rfl) (fun _ _ _ h => h) (Or.inl ⟨by rfl, ?hy20⟩) (by assumption) ?rest20
    case hy20 => (intro w hSw; (try dsimp only at hSw); go_simp) <;> (try with_reducible rfl)
    simp only [Act.put, List.getElem_toArray, List.getElem_cons_zero, List.getElem_cons_succ, List.setIfInBounds_toArray, List.set_cons_zero, List.set_cons_succ]
    refine wpAnyH_take (i := 21) (v := ?v21) rfl (by kernel_rfl) (by kernel_rfl) (by kernel_rfl) (fun _ _ _ h => h) (Or.inl ⟨by rfl, ?hy21⟩) (by assumption) ?rest21
    case hy21 => (intro w hSw; (try dsimp only at hSw); go_simp) <;> (try with_reducible rfl)
    simp only [Act.put, List.getElem_toArray, List.getElem_cons_zero, List.getElem_cons_succ, List.setIfInBounds_toArray, List.set_cons_zero, List.set_cons_succ]
    refine wpAnyH_take (i := 22) (v := ?v22) rfl (by kernel_rfl) (by kernel_rfl) (by kernel_rfl) (fun _ _ _ h => h) (Or.inl ⟨by rfl, ?hy22⟩) (by assumption) ?rest22
    case hy22 => (intro w hSw; (try dsimp only at hSw); go_simp) <;> (try with_reducible rfl)
    simp only [Act.put, List.getElem_toArray, List.getElem_cons_zero, List.getElem_cons_succ, List.setIfInBounds_toArray, List.set_cons_zero, List.set_cons_succ]
    refine wpAnyH_take (i := 23) (v := ?v23) rfl (by kernel_rfl) (by kernel_rfl) (by kernel_rfl) (fun _ _ _ h => h) (Or.inl ⟨by rfl, ?hy23⟩) (by assumption) ?rest23
    case hy23 => (intro w hSw; (try dsimp only at hSw); go_simp) <;> (try with_reducible rfl)
    simp only [Act.put, List.getElem_toArray, List.getElem_cons_zero, List.getElem_cons_succ, List.setIfInBounds_toArray, List.set_cons_zero, List.set_cons_succ]
    refine wpAnyH_take (i := 24) (v := ?v24) rfl (by kernel_rfl) (by kernel_rfl) (by kernel_rfl) (fun _ _ _ h => h) (Or.inl ⟨by rfl, ?hy24⟩) (by assumption) ?rest24
    case hy24 => (intro w hSw; (try dsimp only at hSw); go_simp) <;> (try with_reducible rfl)
    simp only [Act.put, List.getElem_toArray, List.getElem_cons_zero, List.getElem_cons_succ, List.setIfInBounds_toArray, List.set_cons_zero, List.set_cons_succ]
    refine wpAnyH_done (by kernel_rfl) ?_ _
    go_wp2_with fail
    go_meet
    exact ⟨rfl, rfl, rfl, rfl, rfl, below_drewN (Below.refl _ _) _⟩
  case rest =>
    obtain ⟨rfl, rfl, rfl, rfl, rfl, HB2⟩ := hcut
    have S2 := HS1.out.below HB2.out
    have c0 := S2.e
    have c4 := S2.bl
    have d0 := S2.id
    have cm := S2.m
    have hsl2 : sb < wc.heap.size := World.block_lt_of_cell? _ _ c0
    have hel2 : eb < wc.heap.size := World.block_lt_of_cell? _ _ (d0 0 _ rfl)
    clear S2 c15 c16 c17 c18 c19 hsl
    have hz1 := all_one pl (pl_one HPl.out)
    go_upto_region 4 with fail
    go_cut [10] (fun s10 wx => ∃ stb, s10 = .pointer (some ⟨stb, 0, none⟩) ∧ wx.rangeAt stb 0 (stL pl) ∧ wc.heap.size ≤ stb ∧ Hid (Below wc.heap.size wc wx))
    case first =>
      refine wp_region_held_drew (S := fun w' => w'.cell? ⟨sb, 0, none⟩ = some (.pointer (some ⟨eb, 0, none⟩)) ∧ w'.cell? ⟨sb, 4, none⟩ = some (.map (some mb)) ∧ w'.rangeAt eb 0 k1L ∧ w'.heap[mb]? = some (.map #[⟨k1, .agg (stL pl).toArray, 0⟩] 1)) (by kernel_rfl) ⟨c0, c4, d0, cm⟩ (fun hHeld => ?_)
      refine wpAnyH_take (i := 0) (v := ?v0a) rfl (by kernel_rfl) (by kernel_rfl) (by kernel_rfl) (fun _ _ _ h => h) (Or.inl ⟨by rfl, ?hy0a⟩) (by assumption) ?rest0a
      case hy0a => (intro w hSw; (try dsimp only at hSw); go_simp) <;> (try with_reducible rfl)
      simp only [Act.put, List.getElem_toArray, List.getElem_cons_zero, List.getElem_cons_succ, List.setIfInBounds_toArray, List.set_cons_zero, List.set_cons_succ]
      refine wpAnyH_take (i := 1) (v := ?v1a) rfl (by kernel_rfl) (by kernel_rfl) (by kernel_rfl) (fun _ _ _ h => h) (Or.inl ⟨by rfl, ?hy1a⟩) (by assumption) ?rest1a
      case hy1a => (intro w hSw; (try dsimp only at hSw); go_simp) <;> (try with_reducible rfl)
      simp only [Act.put, List.getElem_toArray, List.getElem_cons_zero, List.getElem_cons_succ, List.setIfInBounds_toArray, List.set_cons_zero, List.set_cons_succ]
      refine wpAnyH_take (i := 2) (v := ?v2a) rfl (by kernel_rfl) (by kernel_rfl) (by kernel_rfl) (fun _ _ _ h => h) (Or.inl ⟨by rfl, ?hy2a⟩) (by assumption) ?rest2a
      case hy2a => (intro w hSw; (try dsimp only at hSw); go_simp) <;> (try with_reducible rfl)
      simp only [Act.put, List.getElem_toArray, List.getElem_cons_zero, List.getElem_cons_succ, List.setIfInBounds_toArray, List.set_cons_zero, List.set_cons_succ]
      refine wpAnyH_take (i := 3) (v := ?v3a) rfl (by kernel_rfl) (by kernel_rfl) (by kernel_rfl) (fun _ _ _ h => h) (Or.inl ⟨by rfl, ?hy3a⟩) (by assumption) ?rest3a
      case hy3a => (intro w hSw; (try dsimp only at hSw); go_simp) <;> (try with_reducible rfl)
      simp only [Act.put, List.getElem_toArray, List.getElem_cons_zero, List.getElem_cons_succ, List.setIfInBounds_toArray, List.set_cons_zero, List.set_cons_succ]
      refine wpAnyH_take (i := 4) (v := ?v4a) rfl (by kernel_rfl) (by kernel_rfl) (by kernel_rfl) (fun _ _ _ h => h) (Or.inl ⟨by rfl, ?hy4a⟩) (by assumption) ?rest4a
      case hy4a => (intro w hSw; (try dsimp only at hSw); go_simp) <;> (try with_reducible rfl)
      simp only [Act.put, List.getElem_toArray, List.getElem_cons_zero, List.getElem_cons_succ, List.setIfInBounds_toArray, List.set_cons_zero, List.set_cons_succ]
      refine wpAnyH_take (i := 5) (v := ?v5a) rfl (by kernel_rfl) (by kernel_rfl) (by kernel_rfl) (fun _ _ _ h => h) (Or.inl ⟨by rfl, ?hy5a⟩) (by assumption) ?rest5a
      case hy5a => (intro w hSw; (try dsimp only at hSw); go_simp) <;> (try with_reducible rfl)
      simp only [Act.put, List.getElem_toArray, List.getElem_cons_zero, List.getElem_cons_succ, List.setIfInBounds_toArray, List.set_cons_zero, List.set_cons_succ]
      refine wpAnyH_take (i := 6) (v := ?v6a) rfl (by kernel_rfl) (by kernel_rfl) (by kernel_rfl) (fun _ _ _ h => h) (Or.inl ⟨by rfl, ?hy6a⟩) (by assumption) ?rest6a
      case hy6a => (intro w hSw; (try dsimp only at hSw); go_simp) <;> (try with_reducible rfl)
      simp only [Act.put, List.getElem_toArray, List.getElem_cons_zero, List.getElem_cons_succ, List.setIfInBounds_toArray, List.set_cons_zero, List.set_cons_succ]
      refine wpAnyH_take (i := 7) (v := ?v7a) rfl (by kernel_rfl) (by kernel_rfl) (by kernel_rfl) (fun _ _ _ h => h) (Or.inl ⟨by rfl, ?hy7a⟩) (by assumption) ?rest7a
      case hy7a => (intro w hSw; (try dsimp only at hSw); go_simp) <;> (try with_reducible rfl)
      simp only [Act.put, List.getElem_toArray, List.getElem_cons_zero, List.getElem_cons_succ, List.setIfInBounds_toArray, List.set_cons_zero, List.set_cons_succ]
      refine wpAnyH_take (i := 8) (v := ?v8a) rfl (by kernel_rfl) (by kernel_rfl) (by kernel_rfl) (fun _ _ _ h => h) (Or.inl ⟨by rfl, ?hy8a⟩) (by assumption) ?rest8a
      case hy8a => (intro w hSw; (try dsimp only at hSw); go_simp) <;> (try with_reducible rfl)
      simp only [Act.put, List.getElem_toArray, List.getElem_cons_zero, List.getElem_cons_succ, List.setIfInBounds_toArray, List.set_cons_zero, List.set_cons_succ]
      refine wpAnyH_take (i := 9) (v := ?v9a) rfl (by kernel_rfl) (by kernel_rfl) (by kernel_rfl) (fun _ _ _ h => h) (Or.inl ⟨by rfl, ?hy9a⟩) (by assumption) ?rest9a
      case hy9a => (intro w hSw; (try dsimp only at hSw); go_simp) <;> (try with_reducible rfl)
      simp only [Act.put, List.getElem_toArray, List.getElem_cons_zero, List.getElem_cons_succ, List.setIfInBounds_toArray, List.set_cons_zero, List.set_cons_succ]
      refine wpAnyH_take (i := 10) (v := .agg (k1L).toArray) rfl (by kernel_rfl) (by kernel_rfl) (by kernel_rfl) (fun _ _ _ h => h) (yieldsIf_load_mid (by rfl) 47 _ rfl _ 0 rfl (k1L) _ (fun w h => h.2.2.1) Yba.underlying47 rfl (by kernel_rfl)) (by assumption) ?_
      simp only [Act.put, List.getElem_toArray, List.getElem_cons_zero, List.getElem_cons_succ, List.setIfInBounds_toArray, List.set_cons_zero, List.set_cons_succ]
      refine wpAnyH_take (i := 11) (v := ?v11a) rfl (by kernel_rfl) (by kernel_rfl) (by kernel_rfl) (fun _ _ _ h => h) (Or.inl ⟨by rfl, ?hy11a⟩) (by assumption) ?rest11a
      case hy11a => (intro w hSw; (try dsimp only at hSw); have hq := look31 hSw.2.2.2; go_simp) <;> (try with_reducible rfl)
      simp only [Act.put, List.getElem_toArray, List.getElem_cons_zero, List.getElem_cons_succ, List.setIfInBounds_toArray, List.set_cons_zero, List.set_cons_succ]
      refine wpAnyH_ready (rs := [12]) (by kernel_rfl) (by simp) ?_
      refine AllReadyH.cons rfl (fun K hK => ?_) AllReadyH.nil
      rw [if_pos (by rfl)]
      go_simp
      have bA : Below wc.heap.size wc (wc.drew.alloc (.cells (zst).toArray 52)) := ((Below.refl _ wc).drew).alloc (Nat.le_refl _) _
      refine hK.out _ _ ⟨below_keep bA c0, below_keep bA c4, below_range bA d0, below_obj bA cm⟩ (fun hHeld2 => ?_)
      clear hK K hHeld
      refine wpAnyH_ready (rs := [13]) (by kernel_rfl) (by simp) ?_
      refine AllReadyH.cons rfl (fun K hK => ?_) AllReadyH.nil
      rw [if_pos (by rfl)]
      refine wp_store_new (w := wc.drew) 52 (.tmp 10) (.tmp 58) rfl wc.heap.size zst.toArray (stL pl).toArray rfl rfl rfl (by kernel_rfl) (by kernel_rfl) hz1 ?_
      have bB : Below wc.heap.size wc (wc.drew.alloc (.cells (stL pl).toArray 52)) := ((Below.refl _ wc).drew).alloc (Nat.le_refl _) _
      refine hK.out _ _ ⟨below_keep bB c0, below_keep bB c4, below_range bB d0, below_obj bB cm⟩ (fun hHeld3 => ?_)
      refine wpAnyH_done (by kernel_rfl) ?_ _
      go_wp2_with fail
      go_meet
      exact ⟨wc.heap.size, rfl, range_newb wc.drew (stL pl) 52 rfl, Nat.le_refl _, bB⟩
    case rest =>
      obtain ⟨stb, rfl, rst, hst, HB3⟩ := hcut
      have hst1 : stb ≠ sb := by omega
      have hst2 : stb ≠ eb := by omega
      clear hst
      have HB13 : Hid (Below w1.heap.size w1 wc) := HB2.out.trans (HB3.out.mono HB2.out.size)
      have HBw3 : Hid (Below w.heap.size w wc) := HBw1.out.trans (HB13.out.mono HBw1.out.size)
      have HS3 : Hid (SlotAt wc sb eb mb kb zb pl I.f2 ph pB pP pPP pH I.f22) := HS1.out.below HB13.out
      have KpB : Hid (PAt wc (boxI w I).heap.size I.f10 I.f11 (I.f12 % 3).toNat pB) := HpB.out.below HB13.out
      have KpP : Hid (PAt wc (boxI w I).heap.size I.f13 I.f14 (I.f15 % 3).toNat pP) := HpP.out.below HB13.out
      have KpPP : Hid (PAt wc (boxI w I).heap.size I.f16 I.f17 (I.f18 % 3).toNat pPP) := HpPP.out.below HB13.out
      have KpH : Hid (PAt wc (boxI w I).heap.size I.f19 I.f20 (I.f21 % 3).toNat pH) := HpH.out.below HB13.out
      have KPl : Hid (PlAt wc (boxI w I).heap.size I kind pl) := HPl.out.below HB13.out
      replace ri1 := below_range HB13.out ri1
      have QB3 : Hid (OAt wc lo pB) := QB.out.below HB13.out
      have QH3 : Hid (OAt wc lo pH) := QH.out.below HB13.out
      have es := eql_self
      have ns := neq_self
      have HC : Hid (Calls Yba.prog 8 #[.pointer (some ⟨sb, 0, none⟩)] wc fun e w' => ∃ b, e = .returned (.bool b) ∧ Hid ((b = false ∧ Below wc.heap.size wc w') ∨ (b = true ∧ ph = 0 ∧ ∃ x, okx I kind x = true ∧ (I.f19 && decide (cmpB x.c x.v I.f20 (I.f21 % 3).toNat ≤ 0)) = false ∧ Done wc w' sb eb I.f2 I.f22 pB (keepx I x) x))) := by
        by_cases hp0 : ph = 0
        · have S3 := HS3.out
          rw [hp0] at S3
          obtain ⟨xs, _, hC⟩ := conf_of S3 KpB.out KpP.out KpPP.out KpH.out KPl.out HI.out.v3.1 HI.out.v6.1 HI.out.v9.1 HI.out.v11.1
          refine hC.mono ?_
          rintro e w' ⟨p, L, w2, _, (⟨_, he, hb⟩ | ⟨x, hp, _, he, hd⟩)⟩
          · exact ⟨false, he, .inl ⟨rfl, hb⟩⟩
          · obtain ⟨_, h1, h2⟩ := pick_some hp
            exact ⟨true, he, .inr ⟨rfl, hp0, x, h1, h2, hd⟩⟩
        · refine (confirm_other sb ph wc HS3.out.ph hp0).mono ?_
          rintro e w' ⟨he, rfl⟩
          exact ⟨false, he, .inl ⟨rfl, Below.refl _ _⟩⟩
      clear QB QH HS1 HpB HpP HpPP HpH HPl HBw1 HB2 HB3 c0 c4 d0 cm hsl2 hel2 hz1 es ns
      generalize wc = w3 at *
      go_upto_region 5 with fail
      go_cut [11] (fun s11 wx => ∃ b, s11 = .bool b ∧ Hid ((b = false ∧ Below w3.heap.size w3 wx) ∨ (b = true ∧ ph = 0 ∧ ∃ x, okx I kind x = true ∧ (I.f19 && decide (cmpB x.c x.v I.f20 (I.f21 % 3).toNat ≤ 0)) = false ∧ Done w3 wx sb eb I.f2 I.f22 pB (keepx I x) x)))
      case first =>
        go_wp2_with (go_at_call 8; refine HC.out.mono ?_; rintro e w4 ⟨b, rfl, HR⟩)
        go_meet
        exact ⟨b, rfl, HR⟩
      case rest =>
        obtain ⟨b, rfl, HR⟩ := hcut
        go_step
        clear HC
        rcases HR.out with ⟨rfl, hb4⟩ | ⟨rfl, hp0, x, hok, hgt, HD⟩
        · have S4 := HS3.out.below hb4
          exact tail6n w wc sb eb stb w.heap.size ph I pB pP pPP pH _ _ _ _ _ _ _ _ _ _ _ _ _ _ _ _ _ _ _ _ _ _ _ _ _ _ _ _ _ _ _ _ _ _ _ _ _ _ _ _ _ _ _ _ _ _ _ _ _ _ _ _ _ _ _ _ _ _ _ _ _ _ _ _ _ _ _ _ _ _ _ _ _ _ _ _ _ _ _ _ _ _ _ _ _ _ _ _ _ _ _ _ _ _ _ _ _ _ _ _ _ _ _ _ _ _ _ _ _ _ _ _ _ _ _ _ _ _ _ _ _ _ _ _ _ _ _ _ _ _ _ _ _ _ _ _ _ _ _ _ _ _ _ _ _ _ _ _ _ _ _ _ _ _ _ _ _ _ _ _ _ _ _ _ _ _ _ _ _ _ _ _ _ _ _ _ _ _ _ _ _ _ _ _ _ _ _ _ _ _ _ _ _ _ _ _ _ _ _ _ _ _ _ _ _ _ _ _ _ _ _ _ _ _ _ _ _ _ _ _ _ _ _ _ _ _ _ _ _ _ _ _ _ _ _ _ _ _ _ _ _ _ _ _ _ _ _ _ _ _ _ _ _ _ (HBw3.out.trans (hb4.mono HBw3.out.size)) S4.e S4.st S4.ph S4.b S4.p S4.pp S4.h S4.tm (below_keep hb4 (ri1 22 _ rfl))
        · subst hp0
          obtain ⟨hb, g19, hhb, hBA, hob⟩ := HD.h
          have F4 := HD.fr
          have S3 := HS3.out
          have hok1 : (cov I.f13 I.f14 (I.f15 % 3).toNat x.c x.v || cov I.f16 I.f17 (I.f18 % 3).toNat x.c x.v) = true ∧ accK I kind x.c x.v = true := by
            unfold okx at hok
            simpa [Bool.and_eq_true] using hok
          have hKF : KF wc sb eb hb stb w.heap.size lo w3.heap.size I pl x pB pP pPP :=
            ⟨F4.keep (ex_off (by omega) (by omega) (by omega) (by omega)) S3.e, HD.st, F4.keep (ex_off (by omega) (by omega) (by omega) (by omega)) (ri1 2 _ rfl), F4.keep (ex_off (by omega) (by omega) (by omega) (by omega)) (ri1 22 _ rfl), hBA, F4.range rst hst1 hst2, (KpB.out.fr F4).lo (Nat.zero_le _), (KpP.out.fr F4).lo (Nat.zero_le _), (KpPP.out.fr F4).lo (Nat.zero_le _), QB3.out.fr F4 hlo1 hlo2, HD.b, HD.tm⟩
          have hBw : Below w.heap.size w wc := HBw3.out.trans ⟨F4.os, F4.tape, F4.output, F4.size, fun k hk => F4.obj k (Nat.lt_of_lt_of_le hk HBw3.out.size) (by omega) (by omega)⟩
          have hnb : ∀ b, pB = some ⟨b, 0, none⟩ → b < w3.heap.size := fun b h => pat_lt KpB.out h
          have hnh : ∀ b, pH = some ⟨b, 0, none⟩ → b ≠ hb := fun b h => by have := pat_lt KpH.out h; omega
          have hV : ∀ w' xb c g n v, Below wc.heap.size wc w' → BAt w' xb c g n v → Calls Yba.prog 27 #[.agg (stL pl).toArray, .pointer (some ⟨xb, 0, none⟩)] w' fun e w'' => e = .returned (.bool (accK I kind c v)) ∧ Below w'.heap.size w' w'' := fun w' xb c g n v hb' hx => by
            have := acc_of (KPl.out.fr F4) w' xb c g n v hb' hx
            rwa [stv_eq] at this
          exact tail6y w wc sb eb hb stb w.heap.size lo w3.heap.size I pl kind x pB pP pPP pH _ _ _ _ _ _ _ _ _ _ _ _ _ _ _ _ _ _ _ _ _ _ _ _ _ _ _ _ _ _ _ _ _ _ _ _ _ _ _ _ _ _ _ _ _ _ _ _ _ _ _ _ _ _ _ _ _ _ _ _ _ _ _ _ _ _ _ _ _ _ _ _ _ _ _ _ _ _ _ _ _ _ _ _ _ _ _ _ _ _ _ _ _ _ _ _ _ _ _ _ _ _ _ _ _ _ _ _ _ _ _ _ _ _ _ _ _ _ _ _ _ _ _ _ _ _ _ _ _ _ _ _ _ _ _ _ _ _ _ _ _ _ _ _ _ _ _ _ _ _ _ _ _ _ _ _ _ _ _ _ _ _ _ _ _ _ _ _ _ _ _ _ _ _ _ _ _ _ _ _ _ _ _ _ _ _ _ _ _ _ _ _ _ _ _ _ _ _ _ _ _ _ _ _ _ _ _ _ _ _ _ _ _ _ _ _ _ _ _ _ _ _ _ _ _ _ _ _ _ _ _ _ _ _ _ _ _ _ _ _ _ _ _ _ _ _ _ _ _ _ _ _ _ _ hKF hBw hnb hV hok1.2 hok1.1 ((KpH.out.fr F4).lo (Nat.zero_le _)) hgt (F4.keep (ex_off (by omega) (by omega) (by omega) (by omega)) S3.ph) (F4.keep (ex_off (by omega) (by omega) (by omega) (by omega)) S3.p) (F4.keep (ex_off (by omega) (by omega) (by omega) (by omega)) S3.pp) g19 hob (QH3.out.fr F4 hlo1 hlo2) hnh
end Go.Proofs.Ybulkadqm.AK
