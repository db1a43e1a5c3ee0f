import Derived.Test.YbulkadqmX8
namespace Go.Proofs.Ybulkadqm.AK
open Go.RowKit
set_option linter.unusedSimpArgs false

/-- what stands behind the building of the slot -/
structure HX (w : World) (N sb eb mb kb zb lo : Nat) (I : In) (pl : Value) (pB pP pPP pH : Option Addr) : Prop where
  S : SlotAt w sb eb mb kb zb pl I.f2 0 pB pP pPP pH I.f22
  pb : PAt w lo I.f10 I.f11 (I.f12 % 3).toNat pB
  pp : PAt w lo I.f13 I.f14 (I.f15 % 3).toNat pP
  ppp : PAt w lo I.f16 I.f17 (I.f18 % 3).toNat pPP
  ph : PAt w lo I.f19 I.f20 (I.f21 % 3).toNat pH
  pl : PlAt w lo I 0 pl
  ri : w.rangeAt N 0 I.cells
theorem HX.below {w w' : World} {N sb eb mb kb zb lo : Nat} {I : In} {pl : Value} {pB pP pPP pH : Option Addr} (h : HX w N sb eb mb kb zb lo I pl pB pP pPP pH) (hb : Below w.heap.size w w') : HX w' N sb eb mb kb zb lo I pl pB pP pPP pH :=
  ⟨h.S.below hb, h.pb.below hb, h.pp.below hb, h.ppp.below hb, h.ph.below hb, h.pl.below hb, below_range hb h.ri⟩
theorem wp_tl3x {F : Func} {a0 a1 a2 r : Code} {P : Program} {Q : Exit → Act → World → Prop} {x : Act} {w : World} (h : F.body = some (.seq a0 (.seq a1 (.seq a2 (r))))) (hw : Code.wp P r Q x w) : Code.wp P (tl 3 F) Q x w := by
  have e : tl 3 F = r := by unfold tl; rw [h]; rfl
  rw [e]; exact hw
set_option maxRecDepth 100000 in
set_option maxHeartbeats 6400000 in
theorem x3 (W w : World) (N sb eb mb kb zb lo : Nat) (I : In) (pl : Value) (pB pP pPP pH : Option Addr) (u0 u2 u7 u8 u9 u10 u11 u12 u13 u14 u15 u16 u17 u18 u19 u20 u21 u22 u23 u24 u25 u26 u27 u28 u29 u30 u31 u32 u33 u34 u35 u36 u37 u38 u39 u40 u41 u42 u43 u44 u45 u46 u47 u48 u49 u50 u51 u52 u53 u54 u55 u56 u57 u58 u59 u60 u61 u62 u63 u64 u65 u66 u67 u68 u69 u70 u71 u72 u73 u74 u75 u76 u77 u78 u79 u80 u81 u82 u83 u84 u85 u86 u87 u88 u89 u90 u91 u92 u93 u94 u95 u96 u97 u98 u99 u100 u101 u102 u103 u104 u105 u106 u107 u108 u109 u110 u111 u112 u113 u114 u115 u116 u117 u118 u119 u120 u121 u122 u123 u124 u125 u126 u127 u128 u129 u130 u131 u132 u133 u134 u135 u136 u137 u138 u139 u140 u141 u142 u143 u144 u145 u146 u147 u148 u149 u150 u151 u152 u153 u154 u155 u156 u157 u158 u159 u160 u161 u162 u163 u164 u165 u166 u167 u168 u169 u170 u171 u172 u173 u174 u175 u176 u177 u178 u179 u180 u181 u182 u183 u184 u185 u186 u187 u188 u189 u190 u191 u192 u193 u194 u195 : Value) (HB : Hid (Below W.heap.size W w)) (H : Hid (HX w N sb eb mb kb zb lo I pl pB pP pPP pH)) (ok : Hid (InOk I)) (hlo : lo ≤ w.heap.size) (hsw : W.heap.size ≤ sb) (hew : W.heap.size ≤ eb) :
    Code.wp Yba.prog (tl 3 Yba.f4) (bodyPost Yba.prog Yba.f4 (fun e w' => e = .returned (.bool true) ∧ Below W.heap.size W w')) { tmps := List.toArray (u0 :: .pointer (some ⟨N, 0, none⟩) :: u2 :: .pointer (some ⟨sb, 0, none⟩) :: .pointer pH :: .pointer pP :: .pointer pPP :: u7 :: u8 :: u9 :: u10 :: u11 :: u12 :: u13 :: u14 :: u15 :: u16 :: u17 :: u18 :: u19 :: u20 :: u21 :: u22 :: u23 :: u24 :: u25 :: u26 :: u27 :: u28 :: u29 :: u30 :: u31 :: u32 :: u33 :: u34 :: u35 :: u36 :: u37 :: u38 :: u39 :: u40 :: u41 :: u42 :: u43 :: u44 :: u45 :: u46 :: u47 :: u48 :: u49 :: u50 :: u51 :: u52 :: u53 :: u54 :: u55 :: u56 :: u57 :: u58 :: u59 :: u60 :: u61 :: u62 :: u63 :: u64 :: u65 :: u66 :: u67 :: u68 :: u69 :: u70 :: u71 :: u72 :: u73 :: u74 :: u75 :: u76 :: u77 :: u78 :: u79 :: u80 :: u81 :: u82 :: u83 :: u84 :: u85 :: u86 :: u87 :: u88 :: u89 :: u90 :: u91 :: u92 :: u93 :: u94 :: u95 :: u96 :: u97 :: u98 :: u99 :: u100 :: u101 :: u102 :: u103 :: u104 :: u105 :: u106 :: u107 :: u108 :: u109 :: u110 :: u111 :: u112 :: u113 :: u114 :: u115 :: u116 :: u117 :: u118 :: u119 :: u120 :: u121 :: u122 :: u123 :: u124 :: u125 :: u126 :: u127 :: u128 :: u129 :: u130 :: u131 :: u132 :: u133 :: u134 :: u135 :: u136 :: u137 :: u138 :: u139 :: u140 :: u141 :: u142 :: u143 :: u144 :: u145 :: u146 :: u147 :: u148 :: u149 :: u150 :: u151 :: u152 :: u153 :: u154 :: u155 :: u156 :: u157 :: u158 :: u159 :: u160 :: u161 :: u162 :: u163 :: u164 :: u165 :: u166 :: u167 :: u168 :: u169 :: u170 :: u171 :: u172 :: u173 :: u174 :: u175 :: u176 :: u177 :: u178 :: u179 :: u180 :: u181 :: u182 :: u183 :: u184 :: u185 :: u186 :: u187 :: u188 :: u189 :: u190 :: u191 :: u192 :: u193 :: u194 :: u195 :: []), defers := [] } w := by
  refine wp_tl3x (F := Yba.f4) rfl ?_
  have HV : Hid (Calls Yba.prog 12 #[.int .u8 I.f4] w fun e w' => ∃ g n, e = .returned (.slice (some ⟨g, 0, none⟩) n n) ∧ Hid (VAt w' g n (I.f4 % 3).toNat) ∧ Hid (Below w.heap.size w w')) := val_walk I.f4 w ok.out.v4.1 ok.out.v4.2
  have c4 : w.cell? ⟨N, 4, none⟩ = some (.int .u8 I.f4) := H.out.ri 4 _ rfl
  have hNl : N < w.heap.size := World.block_lt_of_cell? _ _ c4
  go_upto_region 3 with fail
  go_cut [7] (fun s7 wx => ∃ g n, s7 = .slice (some ⟨g, 0, none⟩) n n ∧ Hid (VAt wx g n (I.f4 % 3).toNat) ∧ Hid (Below w.heap.size w wx))
  case first =>
    go_wp2_with (go_at_call 12; refine HV.out.mono ?_; rintro e w4 ⟨g, n, rfl, h1, h2⟩)
    go_meet
    exact ⟨g, n, rfl, h1, h2⟩
  case rest =>
    obtain ⟨vg, vn, rfl, HV1, HB1⟩ := hcut
    have H1 : Hid (HX wc N sb eb mb kb zb lo I pl pB pP pPP pH) := H.out.below HB1.out
    have c5 : wc.cell? ⟨N, 5, none⟩ = some (.bool I.f5) := H1.out.ri 5 _ rfl
    have c6 : wc.cell? ⟨N, 6, none⟩ = some (.int .u32 I.f6) := H1.out.ri 6 _ rfl
    have c7 : wc.cell? ⟨N, 7, none⟩ = some (.int .u8 I.f7) := H1.out.ri 7 _ rfl
    have hNl1 : N < wc.heap.size := World.block_lt_of_cell? _ _ c5
    clear c4 HV hNl
    generalize wc = w1 at *
    have HBl : Hid (Calls Yba.prog 13 #[.bool I.f5, .int .u32 I.f6, .int .u8 I.f7] w1 fun e w' => ∃ p, e = .returned (.pointer p) ∧ Hid (PAt w' w1.heap.size I.f5 I.f6 (I.f7 % 3).toNat p) ∧ Hid (Below w1.heap.size w1 w')) := bal_walk I.f5 I.f6 I.f7 w1 ok.out.v7.1 ok.out.v7.2
    go_upto_region 4 with fail
    go_cut [8] (fun s8 wx => ∃ p, s8 = .pointer p ∧ Hid (PAt wx w1.heap.size I.f5 I.f6 (I.f7 % 3).toNat p) ∧ Hid (Below w1.heap.size w1 wx))
    case first =>
      go_wp2_with (go_at_call 13; refine HBl.out.mono ?_; rintro e w4 ⟨p, rfl, h1, h2⟩)
      go_meet
      exact ⟨p, rfl, h1, h2⟩
    case rest =>
      obtain ⟨pr, rfl, HP1, HB2⟩ := hcut
      clear HBl c5 c6 c7 hNl1
      generalize wc = w2 at *
      go_upto_region 5 with fail
      go_cut [9] (fun s9 wx => s9 = .slice none 0 0 ∧ Hid (wx = w2))
      case first =>
        go_wp2_with fail
        go_meet
        exact ⟨rfl, rfl⟩
      case rest =>
        obtain ⟨rfl, HW⟩ := hcut
        go_step
        have ew := HW.out
        subst ew
        have h2 := H1.out.below HB2.out
        have hs1 := HB.out.size
        have hs2 := HB1.out.size
        have hs3 := HB2.out.size
        have hb2 : Below W.heap.size W wc := (HB.out.trans (HB1.out.mono hs1)).trans (HB2.out.mono (by omega))
        have R : Hid (RX W wc wc N sb eb mb kb zb vg vn lo I pl pB pP pPP pH pr [] (.slice none 0 0) (ks I)) :=
          ⟨hb2, ⟨h2.S, h2.pb, h2.pp, h2.ppp, h2.ph, h2.pl, h2.ri, HV1.out.below HB2.out, HP1.out.lo (by omega)⟩, Below.refl _ _, World.ownsRow_nil _ _ _ _, ⟨by simp, fun k hk _ => .inl hk, by simp⟩, ok.out, by unfold ks; split <;> simp, hb2.size, hsw, hew⟩
        exact x6 W wc wc N sb eb mb kb zb vg vn lo I pl _ pB pP pPP pH pr _ _ _ _ _ _ _ _ _ _ _ _ _ _ _ _ _ _ _ _ _ _ _ _ _ _ _ _ _ _ _ _ _ _ _ _ _ _ _ _ _ _ _ _ _ _ _ _ _ _ _ _ _ _ _ _ _ _ _ _ _ _ _ _ _ _ _ _ _ _ _ _ _ _ _ _ _ _ _ _ _ _ _ _ _ _ _ _ _ _ _ _ _ _ _ _ _ _ _ _ _ _ _ _ _ _ _ _ _ _ _ _ _ _ _ _ _ _ _ _ _ _ _ _ _ _ _ _ _ _ _ _ _ _ _ _ _ _ _ _ _ _ _ _ _ _ _ _ _ _ _ _ _ _ _ _ _ _ _ _ _ _ _ _ _ _ _ _ _ _ _ _ _ _ _ _ _ _ _ _ _ _ _ _ _ _ _ _ _ R
end Go.Proofs.Ybulkadqm.AK
