import Derived.Test.YbulkadqmX1
namespace Go.Proofs.Ybulkadqm.AK
open Go.RowKit
set_option linter.unusedSimpArgs false

theorem wp_tl12x {F : Func} {a0 a1 a2 a3 a4 a5 a6 a7 a8 a9 a10 a11 r : Code} {P : Program} {Q : Exit → Act → World → Prop} {x : Act} {w : World} (h : F.body = some (.seq a0 (.seq a1 (.seq a2 (.seq a3 (.seq a4 (.seq a5 (.seq a6 (.seq a7 (.seq a8 (.seq a9 (.seq a10 (.seq a11 (r)))))))))))))) (hw : Code.wp P r Q x w) : Code.wp P (tl 12 F) Q x w := by
  have e : tl 12 F = r := by unfold tl; rw [h]; rfl
  rw [e]; exact hw
set_option maxRecDepth 100000 in
set_option maxHeartbeats 6400000 in
theorem x12 (W w : World) (sb eb mb kb zb lo bk : Nat) (I : In) (pl : Value) (pB pP pPP pH : Option Addr) (C : List Bl) (o : Option Bl) (u0 u1 u2 u5 u6 u7 u8 u9 u12 u13 u14 u15 u16 u17 u18 u19 u20 u21 u22 u23 u24 u25 u26 u27 u28 u29 u30 u31 u32 u33 u34 u35 u36 u37 u38 u39 u40 u41 u42 u43 u44 u45 u46 u47 u48 u49 u50 u51 u52 u53 u54 u55 u56 u57 u58 u59 u60 u61 u62 u63 u64 u65 u66 u67 u68 u69 u70 u71 u72 u73 u74 u75 u76 u77 u78 u79 u80 u81 u82 u83 u84 u85 u86 u87 u88 u89 u90 u91 u92 u93 u94 u95 u96 u97 u98 u99 u100 u101 u102 u103 u104 u105 u106 u107 u108 u109 u110 u111 u112 u113 u114 u115 u116 u117 u118 u119 u120 u121 u122 u123 u124 u125 u126 u127 u128 u129 u130 u131 u132 u133 u134 u135 u136 u137 u138 u139 u140 u141 u142 u143 u144 u145 u146 u147 u148 u149 u150 u151 u152 u153 u154 u155 u156 u157 u158 u159 u160 u161 u162 u163 u164 u165 u166 u167 u168 u169 u170 u171 u172 u173 u174 u175 u176 u177 u178 u179 u180 u181 u182 u183 u184 u185 u186 u187 u188 u189 u190 u191 u192 u193 u194 u195 : Value) (HB : Hid (Below W.heap.size W w)) (S : SlotAt w sb eb mb kb zb pl I.f2 0 pB pP pPP pH I.f22) (hB : PAt w lo I.f10 I.f11 (I.f12 % 3).toNat pB) (hP : PAt w lo I.f13 I.f14 (I.f15 % 3).toNat pP) (hPP : PAt w lo I.f16 I.f17 (I.f18 % 3).toNat pPP) (hH : PAt w lo I.f19 I.f20 (I.f21 % 3).toNat pH) (hPl : PlAt w lo I 0 pl) (ok : InOk I) (ho : o = best (okE I.f19 I.f20 (I.f21 % 3).toNat (okx I 0)) C) (hbs : ∀ b, o = some b → BAt w bk b.c b.g b.n b.v) (hC1 : ∀ y ∈ C, 0 < y.c ∧ key y ∈ ks I) (hC2 : ∀ k ∈ ks I, 0 < k.1 → ∃ y ∈ C, key y = k) (hsw : W.heap.size ≤ sb) (hew : W.heap.size ≤ eb) :
    Code.wp Yba.prog (tl 12 Yba.f4) (bodyPost Yba.prog Yba.f4 (fun e w' => e = .returned (.bool true) ∧ Below W.heap.size W w')) { tmps := List.toArray (u0 :: u1 :: u2 :: .pointer (some ⟨sb, 0, none⟩) :: .pointer pH :: u5 :: u6 :: u7 :: u8 :: u9 :: .bool o.isSome :: .pointer (some ⟨bk, 0, none⟩) :: u12 :: u13 :: u14 :: u15 :: u16 :: u17 :: u18 :: u19 :: u20 :: u21 :: u22 :: u23 :: u24 :: u25 :: u26 :: u27 :: u28 :: u29 :: u30 :: u31 :: u32 :: u33 :: u34 :: u35 :: u36 :: u37 :: u38 :: u39 :: u40 :: u41 :: u42 :: u43 :: u44 :: u45 :: u46 :: u47 :: u48 :: u49 :: u50 :: u51 :: u52 :: u53 :: u54 :: u55 :: u56 :: u57 :: u58 :: u59 :: u60 :: u61 :: u62 :: u63 :: u64 :: u65 :: u66 :: u67 :: u68 :: u69 :: u70 :: u71 :: u72 :: u73 :: u74 :: u75 :: u76 :: u77 :: u78 :: u79 :: u80 :: u81 :: u82 :: u83 :: u84 :: u85 :: u86 :: u87 :: u88 :: u89 :: u90 :: u91 :: u92 :: u93 :: u94 :: u95 :: u96 :: u97 :: u98 :: u99 :: u100 :: u101 :: u102 :: u103 :: u104 :: u105 :: u106 :: u107 :: u108 :: u109 :: u110 :: u111 :: u112 :: u113 :: u114 :: u115 :: u116 :: u117 :: u118 :: u119 :: u120 :: u121 :: u122 :: u123 :: u124 :: u125 :: u126 :: u127 :: u128 :: u129 :: u130 :: u131 :: u132 :: u133 :: u134 :: u135 :: u136 :: u137 :: u138 :: u139 :: u140 :: u141 :: u142 :: u143 :: u144 :: u145 :: u146 :: u147 :: u148 :: u149 :: u150 :: u151 :: u152 :: u153 :: u154 :: u155 :: u156 :: u157 :: u158 :: u159 :: u160 :: u161 :: u162 :: u163 :: u164 :: u165 :: u166 :: u167 :: u168 :: u169 :: u170 :: u171 :: u172 :: u173 :: u174 :: u175 :: u176 :: u177 :: u178 :: u179 :: u180 :: u181 :: u182 :: u183 :: u184 :: u185 :: u186 :: u187 :: u188 :: u189 :: u190 :: u191 :: u192 :: u193 :: u194 :: u195 :: []), defers := [] } w := by
  refine wp_tl12x (F := Yba.f4) rfl ?_
  have HC : Hid (Calls Yba.prog 8 #[.pointer (some ⟨sb, 0, none⟩)] w fun e w' => ∃ b, e = .returned (.bool b) ∧ Hid ((b = false ∧ o = none ∧ Below w.heap.size w w') ∨ (b = true ∧ ∃ x y, o = some y ∧ same x y ∧ Done w w' sb eb I.f2 I.f22 pB (keepx I x) x))) := by
    obtain ⟨xs, hxs, hC⟩ := conf_of (kind := 0) S hB hP hPP hH hPl ok.v3.1 ok.v6.1 ok.v9.1 ok.v11.1
    have hks := hxs rfl
    refine hC.mono ?_
    rintro e w' ⟨p, L, w2, hL, hcase⟩
    have hk : ∀ x y, same x y → okx I 0 x = okx I 0 y := fun x y h => by unfold okx; rw [h.1, h.2]
    have h1 : ∀ x ∈ L, ∃ y ∈ C, same x y := fun x hx => by
      obtain ⟨y0, hy0, hc0, hs⟩ := hL.from_ x hx
      have hm : key y0 ∈ ks I := by rw [← hks]; exact List.mem_map_of_mem hy0
      obtain ⟨y, hy, he⟩ := hC2 _ hm hc0
      refine ⟨y, hy, ?_⟩
      have e1 : y.c = y0.c := congrArg Prod.fst he
      have e2 : y.v = y0.v := congrArg Prod.snd he
      exact ⟨by rw [hs.1, e1], by rw [hs.2, e2]⟩
    have h2 : ∀ y ∈ C, ∃ x ∈ L, same x y := fun y hy => by
      obtain ⟨hc0, hm⟩ := hC1 y hy
      rw [← hks] at hm
      obtain ⟨y0, hy0, he⟩ := List.mem_map.1 hm
      have e1 : y0.c = y.c := congrArg Prod.fst he
      have e2 : y0.v = y.v := congrArg Prod.snd he
      obtain ⟨x, hx, hs⟩ := hL.has y0 hy0 (by rw [e1]; exact hc0)
      exact ⟨x, hx, by rw [hs.1, e1], by rw [hs.2, e2]⟩
    rcases same_best (hasH := I.f19) (hc := I.f20) (hv := (I.f21 % 3).toNat) hk hL.falls h1 h2 with ⟨ha, hb⟩ | ⟨x, y, ha, hb, hs, _⟩
    · rcases hcase with ⟨_, he, hbl⟩ | ⟨x, hp, _⟩
      · exact ⟨false, he, .inl ⟨rfl, by rw [ho, hb], hbl⟩⟩
      · rw [ha] at hp; cases hp
    · rcases hcase with ⟨hp, _⟩ | ⟨x', hp, _, he, hd⟩
      · rw [ha] at hp; cases hp
      · rw [ha] at hp
        obtain rfl : x = x' := by simpa using hp
        exact ⟨true, he, .inr ⟨rfl, x, y, by rw [ho, hb], hs, hd⟩⟩
  have HS : Hid (SlotAt w sb eb mb kb zb pl I.f2 0 pB pP pPP pH I.f22) := S
  have HpB : Hid (PAt w lo I.f10 I.f11 (I.f12 % 3).toNat pB) := hB
  have HBs : Hid (∀ b, o = some b → BAt w bk b.c b.g b.n b.v) := hbs
  have hsw' : W.heap.size ≤ sb := hsw
  clear S hB hP hPP hH hPl ok hC1 hC2 ho hbs hsw
  go_upto_region 25 with fail
  go_cut [15] (fun s15 wx => ∃ b, s15 = .bool b ∧ Hid ((b = false ∧ o = none ∧ Below w.heap.size w wx) ∨ (b = true ∧ ∃ x y, o = some y ∧ same x y ∧ Done w wx sb eb I.f2 I.f22 pB (keepx I x) x)))
  case first =>
    go_wp2_with (go_at_call 8; refine HC.out.mono ?_; rintro e w4 ⟨b, rfl, HR⟩)
    go_meet
    exact ⟨b, rfl, HR⟩
  case rest =>
    obtain ⟨b, rfl, HR⟩ := hcut
    go_step
    rcases HR.out with ⟨rfl, rfl, hb4⟩ | ⟨rfl, x, y, rfl, hs, HD⟩
    · exact x13n W wc sb pH _ _ _ _ _ _ _ _ _ _ _ _ _ _ _ _ _ _ _ _ _ _ _ _ _ _ _ _ _ _ _ _ _ _ _ _ _ _ _ _ _ _ _ _ _ _ _ _ _ _ _ _ _ _ _ _ _ _ _ _ _ _ _ _ _ _ _ _ _ _ _ _ _ _ _ _ _ _ _ _ _ _ _ _ _ _ _ _ _ _ _ _ _ _ _ _ _ _ _ _ _ _ _ _ _ _ _ _ _ _ _ _ _ _ _ _ _ _ _ _ _ _ _ _ _ _ _ _ _ _ _ _ _ _ _ _ _ _ _ _ _ _ _ _ _ _ _ _ _ _ _ _ _ _ _ _ _ _ _ _ _ _ _ _ _ _ _ _ _ _ _ _ _ _ _ _ _ _ _ _ _ _ _ _ _ _ _ _ _ _ _ _ (HB.out.trans (hb4.mono HB.out.size)) (below_keep hb4 HS.out.h)
    · obtain ⟨hb, g19, _, hBA, _⟩ := HD.h
      have F4 := HD.fr
      have hBw : Below W.heap.size W wc := HB.out.trans ⟨F4.os, F4.tape, F4.output, F4.size, fun k hk => F4.obj k (Nat.lt_of_lt_of_le hk HB.out.size) (by omega) (by omega)⟩
      have hy := F4.bat (HBs.out y rfl)
      have hz0 : cmpB x.c x.v y.c y.v = 0 := cmpB_zero.2 ⟨hs.1, by rw [hs.2]⟩
      rcases HD.b with ⟨hkp, g16⟩ | ⟨hkp, bb, g16, _, hBB, _⟩
      · rcases HpB.out with ⟨h10, _⟩ | ⟨h10, bo, gb, nb, rfl, hBo, _⟩
        · unfold keepx at hkp; rw [h10] at hkp; cases hkp
        · refine x13y W wc sb hb bk bo x y ⟨I.f11, gb, nb, (I.f12 % 3).toNat⟩ _ _ _ _ _ _ _ _ _ _ _ _ _ _ _ _ _ _ _ _ _ _ _ _ _ _ _ _ _ _ _ _ _ _ _ _ _ _ _ _ _ _ _ _ _ _ _ _ _ _ _ _ _ _ _ _ _ _ _ _ _ _ _ _ _ _ _ _ _ _ _ _ _ _ _ _ _ _ _ _ _ _ _ _ _ _ _ _ _ _ _ _ _ _ _ _ _ _ _ _ _ _ _ _ _ _ _ _ _ _ _ _ _ _ _ _ _ _ _ _ _ _ _ _ _ _ _ _ _ _ _ _ _ _ _ _ _ _ _ _ _ _ _ _ _ _ _ _ _ _ _ _ _ _ _ _ _ _ _ _ _ _ _ _ _ _ _ _ _ _ _ _ _ _ _ _ _ _ _ _ _ _ _ _ _ _ _ _ _ _ _ _ _ hBw g19 g16 hBA hy (F4.bat hBo) hz0 rfl ?_
          have h1 : ¬ cmpB I.f11 (I.f12 % 3).toNat x.c x.v < 0 := by
            unfold keepx at hkp
            rw [h10] at hkp
            simpa using hkp
          rw [hs.1, hs.2] at h1
          exact Int.not_lt.1 h1
      · exact x13y W wc sb hb bk bb x y x 0 _ _ _ _ _ _ _ _ _ _ _ _ _ _ _ _ _ _ _ _ _ _ _ _ _ _ _ _ _ _ _ _ _ _ _ _ _ _ _ _ _ _ _ _ _ _ _ _ _ _ _ _ _ _ _ _ _ _ _ _ _ _ _ _ _ _ _ _ _ _ _ _ _ _ _ _ _ _ _ _ _ _ _ _ _ _ _ _ _ _ _ _ _ _ _ _ _ _ _ _ _ _ _ _ _ _ _ _ _ _ _ _ _ _ _ _ _ _ _ _ _ _ _ _ _ _ _ _ _ _ _ _ _ _ _ _ _ _ _ _ _ _ _ _ _ _ _ _ _ _ _ _ _ _ _ _ _ _ _ _ _ _ _ _ _ _ _ _ _ _ _ _ _ _ _ _ _ _ _ _ _ _ _ _ _ _ _ _ _ _ _ _ hBw g19 g16 hBA hy hBB hz0 hz0 (Int.le_refl _)
end Go.Proofs.Ybulkadqm.AK
