import Derived.Test.YbulkadqmT7
namespace Go.Proofs.Ybulkadqm.AK
open Go.RowKit
set_option linter.unusedSimpArgs false

theorem pat_lt {w : World} {lo : Nat} {has : Bool} {c : Int} {v b : Nat} {p : Option Addr} (h : PAt w lo has c v p) (hp : p = some ⟨b, 0, none⟩) : b < w.heap.size := by
  rcases h with ⟨_, h⟩ | ⟨_, b', _, _, h, hB', _⟩
  · rw [h] at hp; cases hp
  · rw [h] at hp
    have h1 := World.block_lt_of_cell? _ _ hB'.c0
    injection hp with hp2
    injection hp2 with hp3
    have h2 : b' < w.heap.size := h1
    omega

theorem wp_tl4 {F : Func} {a0 a1 a2 a3 r : Code} {P : Program} {Q : Exit → Act → World → Prop} {x : Act} {w : World} (h : F.body = some (.seq a0 (.seq a1 (.seq a2 (.seq a3 (r)))))) (hw : Code.wp P r Q x w) : Code.wp P (tl 4 F) Q x w := by
  have e : tl 4 F = r := by unfold tl; rw [h]; rfl
  rw [e]; exact hw
set_option maxRecDepth 100000 in
set_option maxHeartbeats 6400000 in
theorem tail4 (w w1 : World) (sb eb mb kb zb lo L0 : Nat) (ph kind : Int) (I : In) (pl : Value) (pB pP pPP pH : Option Addr) (u2 u10 u11 u12 u13 u14 u15 u16 u17 u18 u19 u20 u21 u22 u23 u24 u25 u26 u27 u28 u29 u30 u31 u32 u33 u34 u35 u36 u37 u38 u39 u40 u41 u42 u43 u44 u45 u46 u47 u48 u49 u50 u51 u52 u53 u54 u55 u56 u57 u58 u59 u60 u61 u62 u63 u64 u65 u66 u67 u68 u69 u70 u71 u72 u73 u74 u75 u76 u77 u78 u79 u80 u81 u82 u83 u84 u85 u86 u87 u88 u89 u90 u91 u92 u93 u94 u95 u96 u97 u98 u99 u100 u101 u102 u103 u104 u105 u106 u107 u108 u109 u110 u111 u112 u113 u114 u115 u116 u117 u118 u119 u120 u121 u122 u123 u124 u125 u126 u127 u128 u129 u130 u131 u132 u133 u134 u135 u136 u137 u138 u139 u140 u141 u142 u143 u144 u145 u146 u147 u148 u149 u150 u151 u152 u153 u154 u155 u156 u157 u158 u159 u160 u161 u162 u163 u164 u165 u166 u167 u168 u169 u170 u171 u172 u173 u174 u175 u176 u177 u178 u179 u180 u181 u182 u183 u184 u185 u186 u187 u188 u189 u190 u191 u192 u193 u194 u195 u196 u197 u198 u199 u200 u201 u202 u203 u204 u205 u206 u207 u208 u209 u210 u211 u212 u213 u214 u215 u216 u217 u218 u219 u220 u221 u222 u223 u224 u225 u226 u227 u228 u229 u230 u231 u232 u233 u234 u235 u236 u237 u238 u239 u240 u241 u242 u243 u244 u245 u246 u247 u248 u249 u250 u251 u252 u253 u254 u255 u256 u257 u258 u259 u260 u261 u262 u263 u264 : Value) (HI : Hid (InOk I)) (HBw1 : Hid (Below w.heap.size w w1)) (HS1 : Hid (SlotAt w1 sb eb mb kb zb pl I.f2 ph pB pP pPP pH I.f22)) (HpB : Hid (PAt w1 L0 I.f10 I.f11 (I.f12 % 3).toNat pB)) (HpP : Hid (PAt w1 L0 I.f13 I.f14 (I.f15 % 3).toNat pP)) (HpPP : Hid (PAt w1 L0 I.f16 I.f17 (I.f18 % 3).toNat pPP)) (HpH : Hid (PAt w1 L0 I.f19 I.f20 (I.f21 % 3).toNat pH)) (HPl : Hid (PlAt w1 L0 I kind pl)) (ri1 : w1.rangeAt w.heap.size 0 I.cells) (QB : Hid (OAt w1 lo pB)) (QH : Hid (OAt w1 lo pH)) (hlo1 : sb < lo) (hlo2 : eb < lo) (hsbw : w.heap.size < sb) (hebw : w.heap.size < eb) :
    Code.wp Yba.prog (tl 4 Yba.f3) (bodyPost Yba.prog Yba.f3 (fun e w' => e = .returned (.bool true) ∧ Below w.heap.size w w')) { tmps := List.toArray (.agg I.cells.toArray :: .pointer (some ⟨w.heap.size, 0, none⟩) :: u2 :: .pointer (some ⟨sb, 0, none⟩) :: .pointer (some ⟨sb, 15, none⟩) :: .pointer pB :: .pointer pP :: .pointer pPP :: .pointer pH :: .int .i64 ph :: u10 :: u11 :: u12 :: u13 :: u14 :: u15 :: u16 :: u17 :: u18 :: u19 :: u20 :: u21 :: u22 :: u23 :: u24 :: u25 :: u26 :: u27 :: u28 :: u29 :: u30 :: u31 :: u32 :: u33 :: u34 :: u35 :: u36 :: u37 :: u38 :: u39 :: u40 :: u41 :: u42 :: u43 :: u44 :: u45 :: u46 :: u47 :: u48 :: u49 :: u50 :: u51 :: u52 :: u53 :: u54 :: u55 :: u56 :: u57 :: u58 :: u59 :: u60 :: u61 :: u62 :: u63 :: u64 :: u65 :: u66 :: u67 :: u68 :: u69 :: u70 :: u71 :: u72 :: u73 :: u74 :: u75 :: u76 :: u77 :: u78 :: u79 :: u80 :: u81 :: u82 :: u83 :: u84 :: u85 :: u86 :: u87 :: u88 :: u89 :: u90 :: u91 :: u92 :: u93 :: u94 :: u95 :: u96 :: u97 :: u98 :: u99 :: u100 :: u101 :: u102 :: u103 :: u104 :: u105 :: u106 :: u107 :: u108 :: u109 :: u110 :: u111 :: u112 :: u113 :: u114 :: u115 :: u116 :: u117 :: u118 :: u119 :: u120 :: u121 :: u122 :: u123 :: u124 :: u125 :: u126 :: u127 :: u128 :: u129 :: u130 :: u131 :: u132 :: u133 :: u134 :: u135 :: u136 :: u137 :: u138 :: u139 :: u140 :: u141 :: u142 :: u143 :: u144 :: u145 :: u146 :: u147 :: u148 :: u149 :: u150 :: u151 :: u152 :: u153 :: u154 :: u155 :: u156 :: u157 :: u158 :: u159 :: u160 :: u161 :: u162 :: u163 :: u164 :: u165 :: u166 :: u167 :: u168 :: u169 :: u170 :: u171 :: u172 :: u173 :: u174 :: u175 :: u176 :: u177 :: u178 :: u179 :: u180 :: u181 :: u182 :: u183 :: u184 :: u185 :: u186 :: u187 :: u188 :: u189 :: u190 :: u191 :: u192 :: u193 :: u194 :: u195 :: u196 :: u197 :: u198 :: u199 :: u200 :: u201 :: u202 :: u203 :: u204 :: u205 :: u206 :: u207 :: u208 :: u209 :: u210 :: u211 :: u212 :: u213 :: u214 :: u215 :: u216 :: u217 :: u218 :: u219 :: u220 :: u221 :: u222 :: u223 :: u224 :: u225 :: u226 :: u227 :: u228 :: u229 :: u230 :: u231 :: u232 :: u233 :: u234 :: u235 :: u236 :: u237 :: u238 :: u239 :: u240 :: u241 :: u242 :: u243 :: u244 :: u245 :: u246 :: u247 :: u248 :: u249 :: u250 :: u251 :: u252 :: u253 :: u254 :: u255 :: u256 :: u257 :: u258 :: u259 :: u260 :: u261 :: u262 :: u263 :: u264 :: []), defers := [] } w1 := by
  refine wp_tl4 (F := Yba.f3) rfl ?_
  have S2 := HS1.out
  have c0 := S2.e
  have c4 := S2.bl
  have d0 := S2.id
  have cm := S2.m
  have hsl2 : sb < w1.heap.size := World.block_lt_of_cell? _ _ c0
  have hel2 : eb < w1.heap.size := World.block_lt_of_cell? _ _ (d0 0 _ rfl)
  clear S2
  have hz1 := all_one pl (pl_one HPl.out)
  go_upto_region 4 with fail
  go_cut [10] (fun s10 wx => ∃ stb, s10 = .pointer (some ⟨stb, 0, none⟩) ∧ wx.rangeAt stb 0 (stL pl) ∧ w1.heap.size ≤ stb ∧ Hid (Below w1.heap.size w1 wx))
  case first =>
    refine wp_region_held_drew (S := fun w' => w'.cell? ⟨sb, 0, none⟩ = some (.pointer (some ⟨eb, 0, none⟩)) ∧ w'.cell? ⟨sb, 4, none⟩ = some (.map (some mb)) ∧ w'.rangeAt eb 0 k1L ∧ w'.heap[mb]? = some (.map #[⟨k1, .agg (stL pl).toArray, 0⟩] 1)) (by kernel_rfl) ⟨c0, c4, d0, cm⟩ (fun hHeld => ?_)
    refine wpAnyH_take (i := 0) (v := ?v0a) rfl (by kernel_rfl) (by kernel_rfl) (by kernel_rfl) (fun _ _ _ h => h) (Or.inl ⟨by rfl, ?hy0a⟩) (by assumption) ?rest0a
    case hy0a => (intro w hSw; (try dsimp only at hSw); go_simp) <;> (try with_reducible rfl)
    simp only [Act.put, List.getElem_toArray, List.getElem_cons_zero, List.getElem_cons_succ, List.setIfInBounds_toArray, List.set_cons_zero, List.set_cons_succ]
    refine wpAnyH_take (i := 1) (v := ?v1a) rfl (by kernel_rfl) (by kernel_rfl) (by kernel_rfl) (fun _ _ _ h => h) (Or.inl ⟨by rfl, ?hy1a⟩) (by assumption) ?rest1a
    case hy1a => (intro w hSw; (try dsimp only at hSw); go_simp) <;> (try with_reducible rfl)
    simp only [Act.put, List.getElem_toArray, List.getElem_cons_zero, List.getElem_cons_succ, List.setIfInBounds_toArray, List.set_cons_zero, List.set_cons_succ]
    refine wpAnyH_take (i := 2) (v := ?v2a) rfl (by kernel_rfl) (by kernel_rfl) (by kernel_rfl) (fun _ _ _ h => h) (Or.inl ⟨by rfl, ?hy2a⟩) (by assumption) ?rest2a
    case hy2a => (intro w hSw; (try dsimp only at hSw); go_simp) <;> (try with_reducible rfl)
    simp only [Act.put, List.getElem_toArray, List.getElem_cons_zero, List.getElem_cons_succ, List.setIfInBounds_toArray, List.set_cons_zero, List.set_cons_succ]
    refine wpAnyH_take (i := 3) (v := ?v3a) rfl (by kernel_rfl) (by kernel_rfl) (by kernel_rfl) (fun _ _ _ h => h) (Or.inl ⟨by rfl, ?hy3a⟩) (by assumption) ?rest3a
    case hy3a => (intro w hSw; (try dsimp only at hSw); go_simp) <;> (try with_reducible rfl)
    simp only [Act.put, List.getElem_toArray, List.getElem_cons_zero, List.getElem_cons_succ, List.setIfInBounds_toArray, List.set_cons_zero, List.set_cons_succ]
    refine wpAnyH_take (i := 4) (v := ?v4a) rfl (by kernel_rfl) (by kernel_rfl) (by kernel_rfl) (fun _ _ _ h => h) (Or.inl ⟨by rfl, ?hy4a⟩) (by assumption) ?rest4a
    case hy4a => (intro w hSw; (try dsimp only at hSw); go_simp) <;> (try with_reducible rfl)
    simp only [Act.put, List.getElem_toArray, List.getElem_cons_zero, List.getElem_cons_succ, List.setIfInBounds_toArray, List.set_cons_zero, List.set_cons_succ]
    refine wpAnyH_take (i := 5) (v := ?v5a) rfl (by kernel_rfl) (by kernel_rfl) (by kernel_rfl) (fun _ _ _ h => h) (Or.inl ⟨by rfl, ?hy5a⟩) (by assumption) ?rest5a
    case hy5a => (intro w hSw; (try dsimp only at hSw); go_simp) <;> (try with_reducible rfl)
    simp only [Act.put, List.getElem_toArray, List.getElem_cons_zero, List.getElem_cons_succ, List.setIfInBounds_toArray, List.set_cons_zero, List.set_cons_succ]
    refine wpAnyH_take (i := 6) (v := ?v6a) rfl (by kernel_rfl) (by kernel_rfl) (by kernel_rfl) (fun _ _ _ h => h) (Or.inl ⟨by rfl, ?hy6a⟩) (by assumption) ?rest6a
    case hy6a => (intro w hSw; (try dsimp only at hSw); go_simp) <;> (try with_reducible rfl)
    simp only [Act.put, List.getElem_toArray, List.getElem_cons_zero, List.getElem_cons_succ, List.setIfInBounds_toArray, List.set_cons_zero, List.set_cons_succ]
    refine wpAnyH_take (i := 7) (v := ?v7a) rfl (by kernel_rfl) (by kernel_rfl) (by kernel_rfl) (fun _ _ _ h => h) (Or.inl ⟨by rfl, ?hy7a⟩) (by assumption) ?rest7a
    case hy7a => (intro w hSw; (try dsimp only at hSw); go_simp) <;> (try with_reducible rfl)
    simp only [Act.put, List.getElem_toArray, List.getElem_cons_zero, List.getElem_cons_succ, List.setIfInBounds_toArray, List.set_cons_zero, List.set_cons_succ]
    refine wpAnyH_take (i := 8) (v := ?v8a) rfl (by kernel_rfl) (by kernel_rfl) (by kernel_rfl) (fun _ _ _ h => h) (Or.inl ⟨by rfl, ?hy8a⟩) (by assumption) ?rest8a
    case hy8a => (intro w hSw; (try dsimp only at hSw); go_simp) <;> (try with_reducible rfl)
    simp only [Act.put, List.getElem_toArray, List.getElem_cons_zero, List.getElem_cons_succ, List.setIfInBounds_toArray, List.set_cons_zero, List.set_cons_succ]
    refine wpAnyH_take (i := 9) (v := ?v9a) rfl (by kernel_rfl) (by kernel_rfl) (by kernel_rfl) (fun _ _ _ h => h) (Or.inl ⟨by rfl, ?hy9a⟩) (by assumption) ?rest9a
    case hy9a => (intro w hSw; (try dsimp only at hSw); go_simp) <;> (try with_reducible rfl)
    simp only [Act.put, List.getElem_toArray, List.getElem_cons_zero, List.getElem_cons_succ, List.setIfInBounds_toArray, List.set_cons_zero, List.set_cons_succ]
    refine wpAnyH_take (i := 10) (v := .agg (k1L).toArray) rfl (by kernel_rfl) (by kernel_rfl) (by kernel_rfl) (fun _ _ _ h => h) (yieldsIf_load_mid (by rfl) 47 _ rfl _ 0 rfl (k1L) _ (fun w h => h.2.2.1) Yba.underlying47 rfl (by kernel_rfl)) (by assumption) ?_
    simp only [Act.put, List.getElem_toArray, List.getElem_cons_zero, List.getElem_cons_succ, List.setIfInBounds_toArray, List.set_cons_zero, List.set_cons_succ]
    refine wpAnyH_take (i := 11) (v := ?v11a) rfl (by kernel_rfl) (by kernel_rfl) (by kernel_rfl) (fun _ _ _ h => h) (Or.inl ⟨by rfl, ?hy11a⟩) (by assumption) ?rest11a
    case hy11a => (intro w hSw; (try dsimp only at hSw); have hq := look31 hSw.2.2.2; go_simp) <;> (try with_reducible rfl)
    simp only [Act.put, List.getElem_toArray, List.getElem_cons_zero, List.getElem_cons_succ, List.setIfInBounds_toArray, List.set_cons_zero, List.set_cons_succ]
    refine wpAnyH_ready (rs := [12]) (by kernel_rfl) (by simp) ?_
    refine AllReadyH.cons rfl (fun K hK => ?_) AllReadyH.nil
    rw [if_pos (by rfl)]
    go_simp
    have bA : Below w1.heap.size w1 (w1.drew.alloc (.cells (zst).toArray 52)) := ((Below.refl _ w1).drew).alloc (Nat.le_refl _) _
    refine hK.out _ _ ⟨below_keep bA c0, below_keep bA c4, below_range bA d0, below_obj bA cm⟩ (fun hHeld2 => ?_)
    clear hK K hHeld
    refine wpAnyH_ready (rs := [13]) (by kernel_rfl) (by simp) ?_
    refine AllReadyH.cons rfl (fun K hK => ?_) AllReadyH.nil
    rw [if_pos (by rfl)]
    refine wp_store_new (w := w1.drew) 52 (.tmp 10) (.tmp 58) rfl w1.heap.size zst.toArray (stL pl).toArray rfl rfl rfl (by kernel_rfl) (by kernel_rfl) hz1 ?_
    have bB : Below w1.heap.size w1 (w1.drew.alloc (.cells (stL pl).toArray 52)) := ((Below.refl _ w1).drew).alloc (Nat.le_refl _) _
    refine hK.out _ _ ⟨below_keep bB c0, below_keep bB c4, below_range bB d0, below_obj bB cm⟩ (fun hHeld3 => ?_)
    refine wpAnyH_done (by kernel_rfl) ?_ _
    go_wp2_with fail
    go_meet
    exact ⟨w1.heap.size, rfl, range_newb w1.drew (stL pl) 52 rfl, Nat.le_refl _, bB⟩
  case rest =>
    obtain ⟨stb, rfl, rst, hst, HB3⟩ := hcut
    have hst1 : stb ≠ sb := by omega
    have hst2 : stb ≠ eb := by omega
    clear hst
    have HB13 : Hid (Below w1.heap.size w1 wc) := HB3
    have HBw3 : Hid (Below w.heap.size w wc) := HBw1.out.trans (HB13.out.mono HBw1.out.size)
    have HS3 : Hid (SlotAt wc sb eb mb kb zb pl I.f2 ph pB pP pPP pH I.f22) := HS1.out.below HB13.out
    have KpB : Hid (PAt wc L0 I.f10 I.f11 (I.f12 % 3).toNat pB) := HpB.out.below HB13.out
    have KpP : Hid (PAt wc L0 I.f13 I.f14 (I.f15 % 3).toNat pP) := HpP.out.below HB13.out
    have KpPP : Hid (PAt wc L0 I.f16 I.f17 (I.f18 % 3).toNat pPP) := HpPP.out.below HB13.out
    have KpH : Hid (PAt wc L0 I.f19 I.f20 (I.f21 % 3).toNat pH) := HpH.out.below HB13.out
    have KPl : Hid (PlAt wc L0 I kind pl) := HPl.out.below HB13.out
    replace ri1 := below_range HB13.out ri1
    have QB3 : Hid (OAt wc lo pB) := QB.out.below HB13.out
    have QH3 : Hid (OAt wc lo pH) := QH.out.below HB13.out
    have es := eql_self
    have ns := neq_self
    have HC : Hid (Calls Yba.prog 8 #[.pointer (some ⟨sb, 0, none⟩)] wc fun e w' => ∃ b, e = .returned (.bool b) ∧ Hid ((b = false ∧ Below wc.heap.size wc w') ∨ (b = true ∧ ph = 0 ∧ ∃ x, okx I kind x = true ∧ (I.f19 && decide (cmpB x.c x.v I.f20 (I.f21 % 3).toNat ≤ 0)) = false ∧ Done wc w' sb eb I.f2 I.f22 pB (keepx I x) x))) := by
      by_cases hp0 : ph = 0
      · have S3 := HS3.out
        rw [hp0] at S3
        obtain ⟨xs, _, hC⟩ := conf_of S3 KpB.out KpP.out KpPP.out KpH.out KPl.out HI.out.v3.1 HI.out.v6.1 HI.out.v9.1 HI.out.v11.1
        refine hC.mono ?_
        rintro e w' ⟨p, L, w2, _, (⟨_, he, hb⟩ | ⟨x, hp, _, he, hd⟩)⟩
        · exact ⟨false, he, .inl ⟨rfl, hb⟩⟩
        · obtain ⟨_, h1, h2⟩ := pick_some hp
          exact ⟨true, he, .inr ⟨rfl, hp0, x, h1, h2, hd⟩⟩
      · refine (confirm_other sb ph wc HS3.out.ph hp0).mono ?_
        rintro e w' ⟨he, rfl⟩
        exact ⟨false, he, .inl ⟨rfl, Below.refl _ _⟩⟩
    clear QB QH HS1 HpB HpP HpPP HpH HPl HBw1 HB3 c0 c4 d0 cm hsl2 hel2 hz1 es ns
    generalize wc = w3 at *
    go_upto_region 5 with fail
    go_cut [11] (fun s11 wx => ∃ b, s11 = .bool b ∧ Hid ((b = false ∧ Below w3.heap.size w3 wx) ∨ (b = true ∧ ph = 0 ∧ ∃ x, okx I kind x = true ∧ (I.f19 && decide (cmpB x.c x.v I.f20 (I.f21 % 3).toNat ≤ 0)) = false ∧ Done w3 wx sb eb I.f2 I.f22 pB (keepx I x) x)))
    case first =>
      go_wp2_with (go_at_call 8; refine HC.out.mono ?_; rintro e w4 ⟨b, rfl, HR⟩)
      go_meet
      exact ⟨b, rfl, HR⟩
    case rest =>
      obtain ⟨b, rfl, HR⟩ := hcut
      go_step
      clear HC
      rcases HR.out with ⟨rfl, hb4⟩ | ⟨rfl, hp0, x, hok, hgt, HD⟩
      · have S4 := HS3.out.below hb4
        exact tail6n w wc sb eb stb w.heap.size ph I pB pP pPP pH _ _ _ _ _ _ _ _ _ _ _ _ _ _ _ _ _ _ _ _ _ _ _ _ _ _ _ _ _ _ _ _ _ _ _ _ _ _ _ _ _ _ _ _ _ _ _ _ _ _ _ _ _ _ _ _ _ _ _ _ _ _ _ _ _ _ _ _ _ _ _ _ _ _ _ _ _ _ _ _ _ _ _ _ _ _ _ _ _ _ _ _ _ _ _ _ _ _ _ _ _ _ _ _ _ _ _ _ _ _ _ _ _ _ _ _ _ _ _ _ _ _ _ _ _ _ _ _ _ _ _ _ _ _ _ _ _ _ _ _ _ _ _ _ _ _ _ _ _ _ _ _ _ _ _ _ _ _ _ _ _ _ _ _ _ _ _ _ _ _ _ _ _ _ _ _ _ _ _ _ _ _ _ _ _ _ _ _ _ _ _ _ _ _ _ _ _ _ _ _ _ _ _ _ _ _ _ _ _ _ _ _ _ _ _ _ _ _ _ _ _ _ _ _ _ _ _ _ _ _ _ _ _ _ _ _ _ _ _ _ _ _ _ _ _ _ _ _ _ _ _ _ _ _ (HBw3.out.trans (hb4.mono HBw3.out.size)) S4.e S4.st S4.ph S4.b S4.p S4.pp S4.h S4.tm (below_keep hb4 (ri1 22 _ rfl))
      · subst hp0
        obtain ⟨hb, g19, hhb, hBA, hob⟩ := HD.h
        have F4 := HD.fr
        have S3 := HS3.out
        have hok1 : (cov I.f13 I.f14 (I.f15 % 3).toNat x.c x.v || cov I.f16 I.f17 (I.f18 % 3).toNat x.c x.v) = true ∧ accK I kind x.c x.v = true := by
          unfold okx at hok
          simpa [Bool.and_eq_true] using hok
        have hKF : KF wc sb eb hb stb w.heap.size lo w3.heap.size I pl x pB pP pPP :=
          ⟨F4.keep (ex_off (by omega) (by omega) (by omega) (by omega)) S3.e, HD.st, F4.keep (ex_off (by omega) (by omega) (by omega) (by omega)) (ri1 2 _ rfl), F4.keep (ex_off (by omega) (by omega) (by omega) (by omega)) (ri1 22 _ rfl), hBA, F4.range rst hst1 hst2, (KpB.out.fr F4).lo (Nat.zero_le _), (KpP.out.fr F4).lo (Nat.zero_le _), (KpPP.out.fr F4).lo (Nat.zero_le _), QB3.out.fr F4 hlo1 hlo2, HD.b, HD.tm⟩
        have hBw : Below w.heap.size w wc := HBw3.out.trans ⟨F4.os, F4.tape, F4.output, F4.size, fun k hk => F4.obj k (Nat.lt_of_lt_of_le hk HBw3.out.size) (by omega) (by omega)⟩
        have hnb : ∀ b, pB = some ⟨b, 0, none⟩ → b < w3.heap.size := fun b h => pat_lt KpB.out h
        have hnh : ∀ b, pH = some ⟨b, 0, none⟩ → b ≠ hb := fun b h => by have := pat_lt KpH.out h; omega
        have hV : ∀ w' xb c g n v, Below wc.heap.size wc w' → BAt w' xb c g n v → Calls Yba.prog 27 #[.agg (stL pl).toArray, .pointer (some ⟨xb, 0, none⟩)] w' fun e w'' => e = .returned (.bool (accK I kind c v)) ∧ Below w'.heap.size w' w'' := fun w' xb c g n v hb' hx => by
          have := acc_of (KPl.out.fr F4) w' xb c g n v hb' hx
          rwa [stv_eq] at this
        exact tail6y w wc sb eb hb stb w.heap.size lo w3.heap.size I pl kind x pB pP pPP pH _ _ _ _ _ _ _ _ _ _ _ _ _ _ _ _ _ _ _ _ _ _ _ _ _ _ _ _ _ _ _ _ _ _ _ _ _ _ _ _ _ _ _ _ _ _ _ _ _ _ _ _ _ _ _ _ _ _ _ _ _ _ _ _ _ _ _ _ _ _ _ _ _ _ _ _ _ _ _ _ _ _ _ _ _ _ _ _ _ _ _ _ _ _ _ _ _ _ _ _ _ _ _ _ _ _ _ _ _ _ _ _ _ _ _ _ _ _ _ _ _ _ _ _ _ _ _ _ _ _ _ _ _ _ _ _ _ _ _ _ _ _ _ _ _ _ _ _ _ _ _ _ _ _ _ _ _ _ _ _ _ _ _ _ _ _ _ _ _ _ _ _ _ _ _ _ _ _ _ _ _ _ _ _ _ _ _ _ _ _ _ _ _ _ _ _ _ _ _ _ _ _ _ _ _ _ _ _ _ _ _ _ _ _ _ _ _ _ _ _ _ _ _ _ _ _ _ _ _ _ _ _ _ _ _ _ _ _ _ _ _ _ _ _ _ _ _ _ _ _ _ _ _ _ hKF hBw hnb hV hok1.2 hok1.1 ((KpH.out.fr F4).lo (Nat.zero_le _)) hgt (F4.keep (ex_off (by omega) (by omega) (by omega) (by omega)) S3.ph) (F4.keep (ex_off (by omega) (by omega) (by omega) (by omega)) S3.p) (F4.keep (ex_off (by omega) (by omega) (by omega) (by omega)) S3.pp) g19 hob (QH3.out.fr F4 hlo1 hlo2) hnh
end Go.Proofs.Ybulkadqm.AK
