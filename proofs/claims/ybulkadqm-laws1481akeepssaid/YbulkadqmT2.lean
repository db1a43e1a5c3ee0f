import Derived.Test.YbulkadqmT1
namespace Go.Proofs.Ybulkadqm.AK
open Go.RowKit
set_option linter.unusedSimpArgs false

theorem wp_tl14 {F : Func} {a0 a1 a2 a3 a4 a5 a6 a7 a8 a9 a10 a11 a12 a13 r : Code} {P : Program} {Q : Exit → Act → World → Prop} {x : Act} {w : World} (h : F.body = some (.seq a0 (.seq a1 (.seq a2 (.seq a3 (.seq a4 (.seq a5 (.seq a6 (.seq a7 (.seq a8 (.seq a9 (.seq a10 (.seq a11 (.seq a12 (.seq a13 (r)))))))))))))))) (hw : Code.wp P r Q x w) : Code.wp P (tl 14 F) Q x w := by
  have e : tl 14 F = r := by unfold tl; rw [h]; rfl
  rw [e]; exact hw
set_option maxRecDepth 100000 in
set_option maxHeartbeats 6400000 in
theorem tail14 (W w : World) (sb eb hb stb N lo bnd : Nat) (I : In) (pl : Value) (x : Bl) (pB pP pPP pH : Option Addr) (u2 u13 u14 u15 u16 u17 u18 u19 u20 u21 u22 u23 u24 u25 u26 u27 u28 u29 u30 u31 u32 u33 u34 u35 u36 u37 u38 u39 u40 u41 u42 u43 u44 u45 u46 u47 u48 u49 u50 u51 u52 u53 u54 u55 u56 u57 u58 u59 u60 u61 u62 u63 u64 u65 u66 u67 u68 u69 u70 u71 u72 u73 u74 u75 u76 u77 u78 u79 u80 u81 u82 u83 u84 u85 u86 u87 u88 u89 u90 u91 u92 u93 u94 u95 u96 u97 u98 u99 u100 u101 u102 u103 u104 u105 u106 u107 u108 u109 u110 u111 u112 u113 u114 u115 u116 u117 u118 u119 u120 u121 u122 u123 u124 u125 u126 u127 u128 u129 u130 u131 u132 u133 u134 u135 u136 u137 u138 u139 u140 u141 u142 u143 u144 u145 u146 u147 u148 u149 u150 u151 u152 u153 u154 u155 u156 u157 u158 u159 u160 u161 u162 u163 u164 u165 u166 u167 u168 u169 u170 u171 u172 u173 u174 u175 u176 u177 u178 u179 u180 u181 u182 u183 u184 u185 u186 u187 u188 u189 u190 u191 u192 u193 u194 u195 u196 u197 u198 u199 u200 u201 u202 u203 u204 u205 u206 u207 u208 u209 u210 u211 u212 u213 u214 u215 u216 u217 u218 u219 u220 u221 u222 u223 u224 u225 u226 u227 u228 u229 u230 u231 u232 u233 u234 u235 u236 u237 u238 u239 u240 u241 u242 u243 u244 u245 u246 u247 u248 u249 u250 u251 u252 u253 u254 u255 u256 u257 u258 u259 u260 u261 u262 u263 u264 : Value)
    (hk : KF w sb eb hb stb N lo bnd I pl x pB pP pPP) (hB : Below W.heap.size W w) (HNB : ∀ b, pB = some ⟨b, 0, none⟩ → b < bnd) :
    Code.wp Yba.prog (tl 14 Yba.f3) (bodyPost Yba.prog Yba.f3 (fun e w' => e = .returned (.bool true) ∧ Below W.heap.size W w')) { tmps := List.toArray (.agg I.cells.toArray :: .pointer (some ⟨N, 0, none⟩) :: u2 :: .pointer (some ⟨sb, 0, none⟩) :: .pointer (some ⟨sb, 15, none⟩) :: .pointer pB :: .pointer pP :: .pointer pPP :: .pointer pH :: .int .i64 0 :: .pointer (some ⟨stb, 0, none⟩) :: .bool true :: .pointer (some ⟨hb, 0, none⟩) :: u13 :: u14 :: u15 :: u16 :: u17 :: u18 :: u19 :: u20 :: u21 :: u22 :: u23 :: u24 :: u25 :: u26 :: u27 :: u28 :: u29 :: u30 :: u31 :: u32 :: u33 :: u34 :: u35 :: u36 :: u37 :: u38 :: u39 :: u40 :: u41 :: u42 :: u43 :: u44 :: u45 :: u46 :: u47 :: u48 :: u49 :: u50 :: u51 :: u52 :: u53 :: u54 :: u55 :: u56 :: u57 :: u58 :: u59 :: u60 :: u61 :: u62 :: u63 :: u64 :: u65 :: u66 :: u67 :: u68 :: u69 :: u70 :: u71 :: u72 :: u73 :: u74 :: u75 :: u76 :: u77 :: u78 :: u79 :: u80 :: u81 :: u82 :: u83 :: u84 :: u85 :: u86 :: u87 :: u88 :: u89 :: u90 :: u91 :: u92 :: u93 :: u94 :: u95 :: u96 :: u97 :: u98 :: u99 :: u100 :: u101 :: u102 :: u103 :: u104 :: u105 :: u106 :: u107 :: u108 :: u109 :: u110 :: u111 :: u112 :: u113 :: u114 :: u115 :: u116 :: u117 :: u118 :: u119 :: u120 :: u121 :: u122 :: u123 :: u124 :: u125 :: u126 :: u127 :: u128 :: u129 :: u130 :: u131 :: u132 :: u133 :: u134 :: u135 :: u136 :: u137 :: u138 :: u139 :: u140 :: u141 :: u142 :: u143 :: u144 :: u145 :: u146 :: u147 :: u148 :: u149 :: u150 :: u151 :: u152 :: u153 :: u154 :: u155 :: u156 :: u157 :: u158 :: u159 :: u160 :: u161 :: u162 :: u163 :: u164 :: u165 :: u166 :: u167 :: u168 :: u169 :: u170 :: u171 :: u172 :: u173 :: u174 :: u175 :: u176 :: u177 :: u178 :: u179 :: u180 :: u181 :: u182 :: u183 :: u184 :: u185 :: u186 :: u187 :: u188 :: u189 :: u190 :: u191 :: u192 :: u193 :: u194 :: u195 :: u196 :: u197 :: u198 :: u199 :: u200 :: u201 :: u202 :: u203 :: u204 :: u205 :: u206 :: u207 :: u208 :: u209 :: u210 :: u211 :: u212 :: u213 :: u214 :: u215 :: u216 :: u217 :: u218 :: u219 :: u220 :: u221 :: u222 :: u223 :: u224 :: u225 :: u226 :: u227 :: u228 :: u229 :: u230 :: u231 :: u232 :: u233 :: u234 :: u235 :: u236 :: u237 :: u238 :: u239 :: u240 :: u241 :: u242 :: u243 :: u244 :: u245 :: u246 :: u247 :: u248 :: u249 :: u250 :: u251 :: u252 :: u253 :: u254 :: u255 :: u256 :: u257 :: u258 :: u259 :: u260 :: u261 :: u262 :: u263 :: u264 :: []), defers := [] } w := by
  have HK : Hid (KF w sb eb hb stb N lo bnd I pl x pB pP pPP) := hk
  have HB : Hid (Below W.heap.size W w) := hB
  clear hk hB
  refine wp_tl14 (F := Yba.f3) rfl ?_
  have x0 := HK.out.xb.c0
  have x1 := HK.out.xb.c1
  have hl4 : hb < w.heap.size := World.block_lt_of_cell? _ _ x0
  have ns := neq_self
  go_upto_region 21 with fail
  go_cut [178] (fun s wx => s = .bool (keepx I x) ∧ Hid (Below w.heap.size w wx))
  case first =>
    as_aux_lemma =>
    rcases HK.out.pb with ⟨h10, rfl⟩ | ⟨h10, bo, gb, nb, rfl, hBB, _⟩
    · refine wp_region_held_drew (S := fun w' => w'.cell? ⟨hb, 0, none⟩ = some (.int .u32 x.c) ∧ w'.cell? ⟨hb, 1, none⟩ = some (.slice (some ⟨x.g, 0, none⟩) x.n x.n)) (by kernel_rfl) ⟨x0, x1⟩ (fun hHeld => ?_)
      refine wpAnyH_take (i := 0) (v := ?v0a21) rfl (by kernel_rfl) (by kernel_rfl) (by kernel_rfl) (fun _ _ _ h => h) (Or.inl ⟨by rfl, ?hy0a21⟩) (by assumption) ?rest0a21
      case hy0a21 => (intro w hSw; (try dsimp only at hSw); go_simp) <;> (try with_reducible rfl)
      simp only [Act.put, List.getElem_toArray, List.getElem_cons_zero, List.getElem_cons_succ, List.setIfInBounds_toArray, List.set_cons_zero, List.set_cons_succ]
      refine wpAnyH_take (i := 1) (v := ?v1a21) rfl (by kernel_rfl) (by kernel_rfl) (by kernel_rfl) (fun _ _ _ h => h) (Or.inl ⟨by rfl, ?hy1a21⟩) (by assumption) ?rest1a21
      case hy1a21 => (intro w hSw; (try dsimp only at hSw); go_simp) <;> (try with_reducible rfl)
      simp only [Act.put, List.getElem_toArray, List.getElem_cons_zero, List.getElem_cons_succ, List.setIfInBounds_toArray, List.set_cons_zero, List.set_cons_succ]
      refine wpAnyH_take (i := 2) (v := ?v2a21) rfl (by kernel_rfl) (by kernel_rfl) (by kernel_rfl) (fun _ _ _ h => h) (Or.inl ⟨by rfl, ?hy2a21⟩) (by assumption) ?rest2a21
      case hy2a21 => (intro w hSw; (try dsimp only at hSw); go_simp) <;> (try with_reducible rfl)
      simp only [Act.put, List.getElem_toArray, List.getElem_cons_zero, List.getElem_cons_succ, List.setIfInBounds_toArray, List.set_cons_zero, List.set_cons_succ]
      refine wpAnyH_take (i := 3) (v := undef) rfl (by kernel_rfl) (by kernel_rfl) (by kernel_rfl) (fun _ _ _ h => h) (Or.inr ⟨by rfl, rfl⟩) (by assumption) ?_
      simp only [Act.put, List.getElem_toArray, List.getElem_cons_zero, List.getElem_cons_succ, List.setIfInBounds_toArray, List.set_cons_zero, List.set_cons_succ]
      refine wpAnyH_take (i := 4) (v := undef) rfl (by kernel_rfl) (by kernel_rfl) (by kernel_rfl) (fun _ _ _ h => h) (Or.inr ⟨by rfl, rfl⟩) (by assumption) ?_
      simp only [Act.put, List.getElem_toArray, List.getElem_cons_zero, List.getElem_cons_succ, List.setIfInBounds_toArray, List.set_cons_zero, List.set_cons_succ]
      refine wpAnyH_take (i := 5) (v := undef) rfl (by kernel_rfl) (by kernel_rfl) (by kernel_rfl) (fun _ _ _ h => h) (Or.inr ⟨by rfl, rfl⟩) (by assumption) ?_
      simp only [Act.put, List.getElem_toArray, List.getElem_cons_zero, List.getElem_cons_succ, List.setIfInBounds_toArray, List.set_cons_zero, List.set_cons_succ]
      refine wpAnyH_take (i := 6) (v := undef) rfl (by kernel_rfl) (by kernel_rfl) (by kernel_rfl) (fun _ _ _ h => h) (Or.inr ⟨by rfl, rfl⟩) (by assumption) ?_
      simp only [Act.put, List.getElem_toArray, List.getElem_cons_zero, List.getElem_cons_succ, List.setIfInBounds_toArray, List.set_cons_zero, List.set_cons_succ]
      refine wpAnyH_take (i := 7) (v := undef) rfl (by kernel_rfl) (by kernel_rfl) (by kernel_rfl) (fun _ _ _ h => h) (Or.inr ⟨by rfl, rfl⟩) (by assumption) ?_
      simp only [Act.put, List.getElem_toArray, List.getElem_cons_zero, List.getElem_cons_succ, List.setIfInBounds_toArray, List.set_cons_zero, List.set_cons_succ]
      refine wpAnyH_take (i := 8) (v := undef) rfl (by kernel_rfl) (by kernel_rfl) (by kernel_rfl) (fun _ _ _ h => h) (Or.inr ⟨by rfl, rfl⟩) (by assumption) ?_
      simp only [Act.put, List.getElem_toArray, List.getElem_cons_zero, List.getElem_cons_succ, List.setIfInBounds_toArray, List.set_cons_zero, List.set_cons_succ]
      refine wpAnyH_take (i := 9) (v := undef) rfl (by kernel_rfl) (by kernel_rfl) (by kernel_rfl) (fun _ _ _ h => h) (Or.inr ⟨by rfl, rfl⟩) (by assumption) ?_
      simp only [Act.put, List.getElem_toArray, List.getElem_cons_zero, List.getElem_cons_succ, List.setIfInBounds_toArray, List.set_cons_zero, List.set_cons_succ]
      refine wpAnyH_take (i := 10) (v := undef) rfl (by kernel_rfl) (by kernel_rfl) (by kernel_rfl) (fun _ _ _ h => h) (Or.inr ⟨by rfl, rfl⟩) (by assumption) ?_
      simp only [Act.put, List.getElem_toArray, List.getElem_cons_zero, List.getElem_cons_succ, List.setIfInBounds_toArray, List.set_cons_zero, List.set_cons_succ]
      refine wpAnyH_take (i := 11) (v := ?v11a21) rfl (by kernel_rfl) (by kernel_rfl) (by kernel_rfl) (fun _ _ _ h => h) (Or.inl ⟨by rfl, ?hy11a21⟩) (by assumption) ?rest11a21
      case hy11a21 => (intro w hSw; (try dsimp only at hSw); go_simp) <;> (try with_reducible rfl)
      simp only [Act.put, List.getElem_toArray, List.getElem_cons_zero, List.getElem_cons_succ, List.setIfInBounds_toArray, List.set_cons_zero, List.set_cons_succ]
      refine wpAnyH_done (by kernel_rfl) ?_ _
      go_wp2_with fail
      go_meet
      exact ⟨by simp [keepx, h10], below_drewN (Below.refl _ _) _⟩
    · have b0 := hBB.c0
      have b1 := hBB.c1
      have HKc : Hid (∀ q, Calls Yba.prog 9 #[.agg #[.int .u32 I.f11, .slice (some ⟨gb, 0, none⟩) nb nb], .agg #[.int .u32 x.c, .slice (some ⟨x.g, 0, none⟩) x.n x.n]] (w.drewN q) fun e w' => e = .returned (.int .i64 (cmpB I.f11 (I.f12 % 3).toNat x.c x.v)) ∧ Below w.heap.size w w') := fun q => acmp_at hBB.val HK.out.xb.val q
      have hkx : keepx I x = !decide (cmpB I.f11 (I.f12 % 3).toNat x.c x.v < 0) := by simp [keepx, h10]
      clear hBB
      generalize cmpB I.f11 (I.f12 % 3).toNat x.c x.v = cm at *
      refine wp_region_held_drew (S := fun w' => w'.cell? ⟨hb, 0, none⟩ = some (.int .u32 x.c) ∧ w'.cell? ⟨hb, 1, none⟩ = some (.slice (some ⟨x.g, 0, none⟩) x.n x.n) ∧ w'.cell? ⟨bo, 0, none⟩ = some (.int .u32 I.f11) ∧ w'.cell? ⟨bo, 1, none⟩ = some (.slice (some ⟨gb, 0, none⟩) nb nb)) (by kernel_rfl) ⟨x0, x1, b0, b1⟩ (fun hHeld => ?_)
      refine wpAnyH_take (i := 0) (v := ?v0b21) rfl (by kernel_rfl) (by kernel_rfl) (by kernel_rfl) (fun _ _ _ h => h) (Or.inl ⟨by rfl, ?hy0b21⟩) (by assumption) ?rest0b21
      case hy0b21 => (intro w hSw; (try dsimp only at hSw); go_simp) <;> (try with_reducible rfl)
      simp only [Act.put, List.getElem_toArray, List.getElem_cons_zero, List.getElem_cons_succ, List.setIfInBounds_toArray, List.set_cons_zero, List.set_cons_succ]
      refine wpAnyH_take (i := 1) (v := ?v1b21) rfl (by kernel_rfl) (by kernel_rfl) (by kernel_rfl) (fun _ _ _ h => h) (Or.inl ⟨by rfl, ?hy1b21⟩) (by assumption) ?rest1b21
      case hy1b21 => (intro w hSw; (try dsimp only at hSw); go_simp) <;> (try with_reducible rfl)
      simp only [Act.put, List.getElem_toArray, List.getElem_cons_zero, List.getElem_cons_succ, List.setIfInBounds_toArray, List.set_cons_zero, List.set_cons_succ]
      refine wpAnyH_take (i := 2) (v := ?v2b21) rfl (by kernel_rfl) (by kernel_rfl) (by kernel_rfl) (fun _ _ _ h => h) (Or.inl ⟨by rfl, ?hy2b21⟩) (by assumption) ?rest2b21
      case hy2b21 => (intro w hSw; (try dsimp only at hSw); go_simp) <;> (try with_reducible rfl)
      simp only [Act.put, List.getElem_toArray, List.getElem_cons_zero, List.getElem_cons_succ, List.setIfInBounds_toArray, List.set_cons_zero, List.set_cons_succ]
      refine wpAnyH_take (i := 3) (v := ?v3b21) rfl (by kernel_rfl) (by kernel_rfl) (by kernel_rfl) (fun _ _ _ h => h) (Or.inl ⟨by rfl, ?hy3b21⟩) (by assumption) ?rest3b21
      case hy3b21 => (intro w hSw; (try dsimp only at hSw); go_simp) <;> (try with_reducible rfl)
      simp only [Act.put, List.getElem_toArray, List.getElem_cons_zero, List.getElem_cons_succ, List.setIfInBounds_toArray, List.set_cons_zero, List.set_cons_succ]
      refine wpAnyH_take (i := 4) (v := ?v4b21) rfl (by kernel_rfl) (by kernel_rfl) (by kernel_rfl) (fun _ _ _ h => h) (Or.inl ⟨by rfl, ?hy4b21⟩) (by assumption) ?rest4b21
      case hy4b21 => (intro w hSw; (try dsimp only at hSw); go_simp) <;> (try with_reducible rfl)
      simp only [Act.put, List.getElem_toArray, List.getElem_cons_zero, List.getElem_cons_succ, List.setIfInBounds_toArray, List.set_cons_zero, List.set_cons_succ]
      refine wpAnyH_take (i := 5) (v := ?v5b21) rfl (by kernel_rfl) (by kernel_rfl) (by kernel_rfl) (fun _ _ _ h => h) (Or.inl ⟨by rfl, ?hy5b21⟩) (by assumption) ?rest5b21
      case hy5b21 => (intro w hSw; (try dsimp only at hSw); go_simp) <;> (try with_reducible rfl)
      simp only [Act.put, List.getElem_toArray, List.getElem_cons_zero, List.getElem_cons_succ, List.setIfInBounds_toArray, List.set_cons_zero, List.set_cons_succ]
      refine wpAnyH_take (i := 6) (v := ?v6b21) rfl (by kernel_rfl) (by kernel_rfl) (by kernel_rfl) (fun _ _ _ h => h) (Or.inl ⟨by rfl, ?hy6b21⟩) (by assumption) ?rest6b21
      case hy6b21 => (intro w hSw; (try dsimp only at hSw); go_simp) <;> (try with_reducible rfl)
      simp only [Act.put, List.getElem_toArray, List.getElem_cons_zero, List.getElem_cons_succ, List.setIfInBounds_toArray, List.set_cons_zero, List.set_cons_succ]
      refine wpAnyH_take (i := 7) (v := ?v7b21) rfl (by kernel_rfl) (by kernel_rfl) (by kernel_rfl) (fun _ _ _ h => h) (Or.inl ⟨by rfl, ?hy7b21⟩) (by assumption) ?rest7b21
      case hy7b21 => (intro w hSw; (try dsimp only at hSw); go_simp) <;> (try with_reducible rfl)
      simp only [Act.put, List.getElem_toArray, List.getElem_cons_zero, List.getElem_cons_succ, List.setIfInBounds_toArray, List.set_cons_zero, List.set_cons_succ]
      refine wpAnyH_take (i := 8) (v := ?v8b21) rfl (by kernel_rfl) (by kernel_rfl) (by kernel_rfl) (fun _ _ _ h => h) (Or.inl ⟨by rfl, ?hy8b21⟩) (by assumption) ?rest8b21
      case hy8b21 => (intro w hSw; (try dsimp only at hSw); go_simp) <;> (try with_reducible rfl)
      simp only [Act.put, List.getElem_toArray, List.getElem_cons_zero, List.getElem_cons_succ, List.setIfInBounds_toArray, List.set_cons_zero, List.set_cons_succ]
      refine wpAnyH_ready (rs := [9]) (by kernel_rfl) (by simp) ?_
      refine AllReadyH.cons rfl (fun K hK => ?_) AllReadyH.nil
      rw [if_pos (by rfl)]
      go_simp
      refine (HKc.out 1).mono ?_
      rintro e w5 ⟨rfl, hbl⟩
      refine hK.out _ _ ⟨below_keep hbl x0, below_keep hbl x1, below_keep hbl b0, below_keep hbl b1⟩ (fun hHeld2 => ?_)
      clear hK K hHeld
      refine wpAnyH_take (i := 10) (v := ?v10b21) rfl (by kernel_rfl) (by kernel_rfl) (by kernel_rfl) (fun _ _ _ h => h) (Or.inl ⟨by rfl, ?hy10b21⟩) (by assumption) ?rest10b21
      case hy10b21 => (intro w hSw; (try dsimp only at hSw); go_simp) <;> (try with_reducible rfl)
      simp only [Act.put, List.getElem_toArray, List.getElem_cons_zero, List.getElem_cons_succ, List.setIfInBounds_toArray, List.set_cons_zero, List.set_cons_succ]
      refine wpAnyH_take (i := 11) (v := ?v11b21) rfl (by kernel_rfl) (by kernel_rfl) (by kernel_rfl) (fun _ _ _ h => h) (Or.inl ⟨by rfl, ?hy11b21⟩) (by assumption) ?rest11b21
      case hy11b21 => (intro w hSw; (try dsimp only at hSw); go_simp) <;> (try with_reducible rfl)
      simp only [Act.put, List.getElem_toArray, List.getElem_cons_zero, List.getElem_cons_succ, List.setIfInBounds_toArray, List.set_cons_zero, List.set_cons_succ]
      refine wpAnyH_done (by kernel_rfl) ?_ _
      go_wp2_with fail
      go_meet
      exact ⟨by rw [hkx, ← decide_not]; congr 1; simp, hbl⟩
  case rest =>
    obtain ⟨rfl, HB8⟩ := hcut
    have HKZ : Hid (KF wc sb eb hb stb N lo bnd I pl x pB pP pPP) := HK.out.below HB8.out
    have HBZ : Hid (Below W.heap.size W wc) := HB.out.trans (HB8.out.mono HB.out.size)
    clear HK x0 x1 hl4 HB8 HB
    rcases HKZ.out.b with ⟨hkp, g16⟩ | ⟨hkp, bb, g16, hbb, hBB, hob⟩
    · rw [hkp]
      as_aux_lemma =>
      have g0 := HKZ.out.g0
      have g5 := HKZ.out.g5
      have g2 := HKZ.out.g2
      have g22 := HKZ.out.g22
      have hl0 : sb < wc.heap.size := World.block_lt_of_cell? _ _ g0
      have hl3 : N < wc.heap.size := World.block_lt_of_cell? _ _ g22
      rcases HKZ.out.t with ⟨h22, gt⟩ | ⟨h22, tb, cap, gt, rt⟩
      · rw [h22] at g22
        have hl5 : eb < wc.heap.size := World.block_lt_of_cell? _ _ gt
        go_wp2_with fail
        go_ret
        exact ⟨rfl, HBZ.out⟩
      · rw [h22] at g22
        have hl5 : eb < wc.heap.size := World.block_lt_of_cell? _ _ gt
        have q0 := rt 0 _ rfl
        have q1 := rt 1 _ rfl
        have q2 := rt 2 _ rfl
        have q3 := rt 3 _ rfl
        have q4 := rt 4 _ rfl
        simp only [Nat.zero_add] at q0 q1 q2 q3 q4
        have hl6 : tb < wc.heap.size := World.block_lt_of_cell? _ _ q0
        clear rt
        go_wp2_with fail
        go_ret
        exact ⟨ret_bool (by simp), HBZ.out.alloc HBZ.out.size _⟩
    · rw [hkp]
      have x0 := HKZ.out.xb.c0
      have x1 := HKZ.out.xb.c1
      have y0 := hBB.c0
      have y1 := hBB.c1
      have ob := HKZ.out.ob
      have hl4 : hb < wc.heap.size := World.block_lt_of_cell? _ _ x0
      have hl7 : bb < wc.heap.size := World.block_lt_of_cell? _ _ y0
      have hl8 : sb < wc.heap.size := World.block_lt_of_cell? _ _ g16
      have hnb : ∀ b, pB = some ⟨b, 0, none⟩ → b ≠ bb := fun b h => by have := HNB b h; omega
      have HKc : Hid (∀ q, Calls Yba.prog 9 #[.agg #[.int .u32 x.c, .slice (some ⟨x.g, 0, none⟩) x.n x.n], .agg #[.int .u32 x.c, .slice (some ⟨x.g, 0, none⟩) x.n x.n]] (wc.drewN q) fun e w' => e = .returned (.int .i64 0) ∧ Below wc.heap.size wc w') := fun q => by
        have := acmp_at (c := x.c) (c' := x.c) HKZ.out.xb.val HKZ.out.xb.val q
        rwa [cmpB_zero.2 ⟨rfl, rfl⟩] at this
      go_upto_region 24 with fail
      go_cut [210] (fun s wx => s = .bool false ∧ Hid (Below wc.heap.size wc wx))
      case first =>
        as_aux_lemma =>
        refine wp_region_held_drew (S := fun w' => w'.cell? ⟨sb, 16, none⟩ = some (.pointer (some ⟨bb, 0, none⟩)) ∧ w'.cell? ⟨hb, 0, none⟩ = some (.int .u32 x.c) ∧ w'.cell? ⟨hb, 1, none⟩ = some (.slice (some ⟨x.g, 0, none⟩) x.n x.n) ∧ w'.cell? ⟨bb, 0, none⟩ = some (.int .u32 x.c) ∧ w'.cell? ⟨bb, 1, none⟩ = some (.slice (some ⟨x.g, 0, none⟩) x.n x.n) ∧ OAt w' lo pB ∧ w'.heap[bb]? = some (.cells #[.int .u32 x.c, .slice (some ⟨x.g, 0, none⟩) x.n x.n] 75 (0, 0))) (by kernel_rfl) ⟨g16, x0, x1, y0, y1, ob, hob⟩ (fun hHeld => ?_)
        refine wpAnyH_take (i := 0) (v := ?v0c24) rfl (by kernel_rfl) (by kernel_rfl) (by kernel_rfl) (fun _ _ _ h => h) (Or.inl ⟨by rfl, ?hy0c24⟩) (by assumption) ?rest0c24
        case hy0c24 => (intro w hSw; (try dsimp only at hSw); go_simp) <;> (try with_reducible rfl)
        simp only [Act.put, List.getElem_toArray, List.getElem_cons_zero, List.getElem_cons_succ, List.setIfInBounds_toArray, List.set_cons_zero, List.set_cons_succ]
        refine wpAnyH_take (i := 1) (v := ?v1c24) rfl (by kernel_rfl) (by kernel_rfl) (by kernel_rfl) (fun _ _ _ h => h) (Or.inl ⟨by rfl, ?hy1c24⟩) (by assumption) ?rest1c24
        case hy1c24 => (intro w hSw; (try dsimp only at hSw); go_simp) <;> (try with_reducible rfl)
        simp only [Act.put, List.getElem_toArray, List.getElem_cons_zero, List.getElem_cons_succ, List.setIfInBounds_toArray, List.set_cons_zero, List.set_cons_succ]
        refine wpAnyH_take (i := 2) (v := ?v2c24) rfl (by kernel_rfl) (by kernel_rfl) (by kernel_rfl) (fun _ _ _ h => h) (Or.inl ⟨by rfl, ?hy2c24⟩) (by assumption) ?rest2c24
        case hy2c24 => (intro w hSw; (try dsimp only at hSw); go_simp) <;> (try with_reducible rfl)
        simp only [Act.put, List.getElem_toArray, List.getElem_cons_zero, List.getElem_cons_succ, List.setIfInBounds_toArray, List.set_cons_zero, List.set_cons_succ]
        refine wpAnyH_take (i := 3) (v := ?v3c24) rfl (by kernel_rfl) (by kernel_rfl) (by kernel_rfl) (fun _ _ _ h => h) (Or.inl ⟨by rfl, ?hy3c24⟩) (by assumption) ?rest3c24
        case hy3c24 => (intro w hSw; (try dsimp only at hSw); go_simp) <;> (try with_reducible rfl)
        simp only [Act.put, List.getElem_toArray, List.getElem_cons_zero, List.getElem_cons_succ, List.setIfInBounds_toArray, List.set_cons_zero, List.set_cons_succ]
        refine wpAnyH_take (i := 4) (v := ?v4c24) rfl (by kernel_rfl) (by kernel_rfl) (by kernel_rfl) (fun _ _ _ h => h) (Or.inl ⟨by rfl, ?hy4c24⟩) (by assumption) ?rest4c24
        case hy4c24 => (intro w hSw; (try dsimp only at hSw); go_simp) <;> (try with_reducible rfl)
        simp only [Act.put, List.getElem_toArray, List.getElem_cons_zero, List.getElem_cons_succ, List.setIfInBounds_toArray, List.set_cons_zero, List.set_cons_succ]
        refine wpAnyH_take (i := 5) (v := ?v5c24) rfl (by kernel_rfl) (by kernel_rfl) (by kernel_rfl) (fun _ _ _ h => h) (Or.inl ⟨by rfl, ?hy5c24⟩) (by assumption) ?rest5c24
        case hy5c24 => (intro w hSw; (try dsimp only at hSw); go_simp) <;> (try with_reducible rfl)
        simp only [Act.put, List.getElem_toArray, List.getElem_cons_zero, List.getElem_cons_succ, List.setIfInBounds_toArray, List.set_cons_zero, List.set_cons_succ]
        refine wpAnyH_take (i := 6) (v := ?v6c24) rfl (by kernel_rfl) (by kernel_rfl) (by kernel_rfl) (fun _ _ _ h => h) (Or.inl ⟨by rfl, ?hy6c24⟩) (by assumption) ?rest6c24
        case hy6c24 => (intro w hSw; (try dsimp only at hSw); go_simp) <;> (try with_reducible rfl)
        simp only [Act.put, List.getElem_toArray, List.getElem_cons_zero, List.getElem_cons_succ, List.setIfInBounds_toArray, List.set_cons_zero, List.set_cons_succ]
        refine wpAnyH_take (i := 7) (v := ?v7c24) rfl (by kernel_rfl) (by kernel_rfl) (by kernel_rfl) (fun _ _ _ h => h) (Or.inl ⟨by rfl, ?hy7c24⟩) (by assumption) ?rest7c24
        case hy7c24 => (intro w hSw; (try dsimp only at hSw); go_simp) <;> (try with_reducible rfl)
        simp only [Act.put, List.getElem_toArray, List.getElem_cons_zero, List.getElem_cons_succ, List.setIfInBounds_toArray, List.set_cons_zero, List.set_cons_succ]
        refine wpAnyH_take (i := 8) (v := ?v8c24) rfl (by kernel_rfl) (by kernel_rfl) (by kernel_rfl) (fun _ _ _ h => h) (Or.inl ⟨by rfl, ?hy8c24⟩) (by assumption) ?rest8c24
        case hy8c24 => (intro w hSw; (try dsimp only at hSw); go_simp) <;> (try with_reducible rfl)
        simp only [Act.put, List.getElem_toArray, List.getElem_cons_zero, List.getElem_cons_succ, List.setIfInBounds_toArray, List.set_cons_zero, List.set_cons_succ]
        refine wpAnyH_take (i := 9) (v := ?v9c24) rfl (by kernel_rfl) (by kernel_rfl) (by kernel_rfl) (fun _ _ _ h => h) (Or.inl ⟨by rfl, ?hy9c24⟩) (by assumption) ?rest9c24
        case hy9c24 => (intro w hSw; (try dsimp only at hSw); go_simp) <;> (try with_reducible rfl)
        simp only [Act.put, List.getElem_toArray, List.getElem_cons_zero, List.getElem_cons_succ, List.setIfInBounds_toArray, List.set_cons_zero, List.set_cons_succ]
        refine wpAnyH_take (i := 10) (v := ?v10c24) rfl (by kernel_rfl) (by kernel_rfl) (by kernel_rfl) (fun _ _ _ h => h) (Or.inl ⟨by rfl, ?hy10c24⟩) (by assumption) ?rest10c24
        case hy10c24 => (intro w hSw; (try dsimp only at hSw); go_simp) <;> (try with_reducible rfl)
        simp only [Act.put, List.getElem_toArray, List.getElem_cons_zero, List.getElem_cons_succ, List.setIfInBounds_toArray, List.set_cons_zero, List.set_cons_succ]
        refine wpAnyH_take (i := 11) (v := ?v11c24) rfl (by kernel_rfl) (by kernel_rfl) (by kernel_rfl) (fun _ _ _ h => h) (Or.inl ⟨by rfl, ?hy11c24⟩) (by assumption) ?rest11c24
        case hy11c24 => (intro w hSw; (try dsimp only at hSw); have hq := eql_new hSw.2.2.2.2.2.1 hSw.2.2.2.2.2.2 hnb; go_simp) <;> (try with_reducible rfl)
        simp only [Act.put, List.getElem_toArray, List.getElem_cons_zero, List.getElem_cons_succ, List.setIfInBounds_toArray, List.set_cons_zero, List.set_cons_succ]
        refine wpAnyH_take (i := 12) (v := ?v12c24) rfl (by kernel_rfl) (by kernel_rfl) (by kernel_rfl) (fun _ _ _ h => h) (Or.inl ⟨by rfl, ?hy12c24⟩) (by assumption) ?rest12c24
        case hy12c24 => (intro w hSw; (try dsimp only at hSw); go_simp) <;> (try with_reducible rfl)
        simp only [Act.put, List.getElem_toArray, List.getElem_cons_zero, List.getElem_cons_succ, List.setIfInBounds_toArray, List.set_cons_zero, List.set_cons_succ]
        refine wpAnyH_take (i := 13) (v := ?v13c24) rfl (by kernel_rfl) (by kernel_rfl) (by kernel_rfl) (fun _ _ _ h => h) (Or.inl ⟨by rfl, ?hy13c24⟩) (by assumption) ?rest13c24
        case hy13c24 => (intro w hSw; (try dsimp only at hSw); go_simp) <;> (try with_reducible rfl)
        simp only [Act.put, List.getElem_toArray, List.getElem_cons_zero, List.getElem_cons_succ, List.setIfInBounds_toArray, List.set_cons_zero, List.set_cons_succ]
        refine wpAnyH_take (i := 14) (v := ?v14c24) rfl (by kernel_rfl) (by kernel_rfl) (by kernel_rfl) (fun _ _ _ h => h) (Or.inl ⟨by rfl, ?hy14c24⟩) (by assumption) ?rest14c24
        case hy14c24 => (intro w hSw; (try dsimp only at hSw); go_simp) <;> (try with_reducible rfl)
        simp only [Act.put, List.getElem_toArray, List.getElem_cons_zero, List.getElem_cons_succ, List.setIfInBounds_toArray, List.set_cons_zero, List.set_cons_succ]
        refine wpAnyH_take (i := 15) (v := ?v15c24) rfl (by kernel_rfl) (by kernel_rfl) (by kernel_rfl) (fun _ _ _ h => h) (Or.inl ⟨by rfl, ?hy15c24⟩) (by assumption) ?rest15c24
        case hy15c24 => (intro w hSw; (try dsimp only at hSw); go_simp) <;> (try with_reducible rfl)
        simp only [Act.put, List.getElem_toArray, List.getElem_cons_zero, List.getElem_cons_succ, List.setIfInBounds_toArray, List.set_cons_zero, List.set_cons_succ]
        refine wpAnyH_take (i := 16) (v := ?v16c24) rfl (by kernel_rfl) (by kernel_rfl) (by kernel_rfl) (fun _ _ _ h => h) (Or.inl ⟨by rfl, ?hy16c24⟩) (by assumption) ?rest16c24
        case hy16c24 => (intro w hSw; (try dsimp only at hSw); go_simp) <;> (try with_reducible rfl)
        simp only [Act.put, List.getElem_toArray, List.getElem_cons_zero, List.getElem_cons_succ, List.setIfInBounds_toArray, List.set_cons_zero, List.set_cons_succ]
        refine wpAnyH_take (i := 17) (v := ?v17c24) rfl (by kernel_rfl) (by kernel_rfl) (by kernel_rfl) (fun _ _ _ h => h) (Or.inl ⟨by rfl, ?hy17c24⟩) (by assumption) ?rest17c24
        case hy17c24 => (intro w hSw; (try dsimp only at hSw); go_simp) <;> (try with_reducible rfl)
        simp only [Act.put, List.getElem_toArray, List.getElem_cons_zero, List.getElem_cons_succ, List.setIfInBounds_toArray, List.set_cons_zero, List.set_cons_succ]
        refine wpAnyH_take (i := 18) (v := ?v18c24) rfl (by kernel_rfl) (by kernel_rfl) (by kernel_rfl) (fun _ _ _ h => h) (Or.inl ⟨by rfl, ?hy18c24⟩) (by assumption) ?rest18c24
        case hy18c24 => (intro w hSw; (try dsimp only at hSw); go_simp) <;> (try with_reducible rfl)
        simp only [Act.put, List.getElem_toArray, List.getElem_cons_zero, List.getElem_cons_succ, List.setIfInBounds_toArray, List.set_cons_zero, List.set_cons_succ]
        refine wpAnyH_take (i := 19) (v := ?v19c24) rfl (by kernel_rfl) (by kernel_rfl) (by kernel_rfl) (fun _ _ _ h => h) (Or.inl ⟨by rfl, ?hy19c24⟩) (by assumption) ?rest19c24
        case hy19c24 => (intro w hSw; (try dsimp only at hSw); go_simp) <;> (try with_reducible rfl)
        simp only [Act.put, List.getElem_toArray, List.getElem_cons_zero, List.getElem_cons_succ, List.setIfInBounds_toArray, List.set_cons_zero, List.set_cons_succ]
        refine wpAnyH_take (i := 20) (v := ?v20c24) rfl (by kernel_rfl) (by kernel_rfl) (by kernel_rfl) (fun _ _ _ h => h) (Or.inl ⟨by rfl, ?hy20c24⟩) (by assumption) ?rest20c24
        case hy20c24 => (intro w hSw; (try dsimp only at hSw); go_simp) <;> (try with_reducible rfl)
        simp only [Act.put, List.getElem_toArray, List.getElem_cons_zero, List.getElem_cons_succ, List.setIfInBounds_toArray, List.set_cons_zero, List.set_cons_succ]
        refine wpAnyH_take (i := 21) (v := ?v21c24) rfl (by kernel_rfl) (by kernel_rfl) (by kernel_rfl) (fun _ _ _ h => h) (Or.inl ⟨by rfl, ?hy21c24⟩) (by assumption) ?rest21c24
        case hy21c24 => (intro w hSw; (try dsimp only at hSw); go_simp) <;> (try with_reducible rfl)
        simp only [Act.put, List.getElem_toArray, List.getElem_cons_zero, List.getElem_cons_succ, List.setIfInBounds_toArray, List.set_cons_zero, List.set_cons_succ]
        refine wpAnyH_take (i := 22) (v := ?v22c24) rfl (by kernel_rfl) (by kernel_rfl) (by kernel_rfl) (fun _ _ _ h => h) (Or.inl ⟨by rfl, ?hy22c24⟩) (by assumption) ?rest22c24
        case hy22c24 => (intro w hSw; (try dsimp only at hSw); go_simp) <;> (try with_reducible rfl)
        simp only [Act.put, List.getElem_toArray, List.getElem_cons_zero, List.getElem_cons_succ, List.setIfInBounds_toArray, List.set_cons_zero, List.set_cons_succ]
        refine wpAnyH_ready (rs := [23]) (by kernel_rfl) (by simp) ?_
        refine AllReadyH.cons rfl (fun K hK => ?_) AllReadyH.nil
        rw [if_pos (by rfl)]
        go_simp
        refine (HKc.out 1).mono ?_
        rintro e w5 ⟨rfl, hbl⟩
        refine hK.out _ _ ⟨below_keep hbl g16, below_keep hbl x0, below_keep hbl x1, below_keep hbl y0, below_keep hbl y1, ob.below hbl, below_obj hbl hob⟩ (fun hHeld2 => ?_)
        clear hK K hHeld
        refine wpAnyH_take (i := 24) (v := ?v24c24) rfl (by kernel_rfl) (by kernel_rfl) (by kernel_rfl) (fun _ _ _ h => h) (Or.inl ⟨by rfl, ?hy24c24⟩) (by assumption) ?rest24c24
        case hy24c24 => (intro w hSw; (try dsimp only at hSw); go_simp) <;> (try with_reducible rfl)
        simp only [Act.put, List.getElem_toArray, List.getElem_cons_zero, List.getElem_cons_succ, List.setIfInBounds_toArray, List.set_cons_zero, List.set_cons_succ]
        refine wpAnyH_take (i := 25) (v := ?v25c24) rfl (by kernel_rfl) (by kernel_rfl) (by kernel_rfl) (fun _ _ _ h => h) (Or.inl ⟨by rfl, ?hy25c24⟩) (by assumption) ?rest25c24
        case hy25c24 => (intro w hSw; (try dsimp only at hSw); go_simp) <;> (try with_reducible rfl)
        simp only [Act.put, List.getElem_toArray, List.getElem_cons_zero, List.getElem_cons_succ, List.setIfInBounds_toArray, List.set_cons_zero, List.set_cons_succ]
        refine wpAnyH_done (by kernel_rfl) ?_ _
        go_wp2_with fail
        go_meet
        exact ⟨rfl, hbl⟩
      case rest =>
        obtain ⟨rfl, HB9⟩ := hcut
        have HKY : Hid (KF wc sb eb hb stb N lo bnd I pl x pB pP pPP) := HKZ.out.below HB9.out
        have HBY : Hid (Below W.heap.size W wc) := HBZ.out.trans (HB9.out.mono HBZ.out.size)
        clear HKZ HBZ HKc x0 x1 y0 y1 ob hl4 hl7 hl8 hob hBB g16 HB9 hnb
        have g0 := HKY.out.g0
        have g5 := HKY.out.g5
        have g2 := HKY.out.g2
        have g22 := HKY.out.g22
        have hl0 : sb < wc.heap.size := World.block_lt_of_cell? _ _ g0
        have hl3 : N < wc.heap.size := World.block_lt_of_cell? _ _ g22
        rcases HKY.out.t with ⟨h22, gt⟩ | ⟨h22, tb, cap, gt, rt⟩
        · rw [h22] at g22
          have hl5 : eb < wc.heap.size := World.block_lt_of_cell? _ _ gt
          go_wp2_with fail
          go_ret
          exact ⟨rfl, HBY.out⟩
        · rw [h22] at g22
          have hl5 : eb < wc.heap.size := World.block_lt_of_cell? _ _ gt
          have q0 := rt 0 _ rfl
          have q1 := rt 1 _ rfl
          have q2 := rt 2 _ rfl
          have q3 := rt 3 _ rfl
          have q4 := rt 4 _ rfl
          simp only [Nat.zero_add] at q0 q1 q2 q3 q4
          have hl6 : tb < wc.heap.size := World.block_lt_of_cell? _ _ q0
          clear rt
          go_wp2_with fail
          go_ret
          exact ⟨ret_bool (by simp), HBY.out.alloc HBY.out.size _⟩
end Go.Proofs.Ybulkadqm.AK
