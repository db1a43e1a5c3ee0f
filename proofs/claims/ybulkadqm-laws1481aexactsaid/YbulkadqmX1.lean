import Derived.Test.YbulkadqmT1
import Derived.Test.YbulkadqmK32
namespace Go.Proofs.Ybulkadqm.AK
open Go.RowKit
set_option linter.unusedSimpArgs false

theorem wp_tl13 {F : Func} {a0 a1 a2 a3 a4 a5 a6 a7 a8 a9 a10 a11 a12 r : Code} {P : Program} {Q : Exit → Act → World → Prop} {x : Act} {w : World} (h : F.body = some (.seq a0 (.seq a1 (.seq a2 (.seq a3 (.seq a4 (.seq a5 (.seq a6 (.seq a7 (.seq a8 (.seq a9 (.seq a10 (.seq a11 (.seq a12 (r))))))))))))))) (hw : Code.wp P r Q x w) : Code.wp P (tl 13 F) Q x w := by
  have e : tl 13 F = r := by unfold tl; rw [h]; rfl
  rw [e]; exact hw
set_option maxRecDepth 100000 in
set_option maxHeartbeats 6400000 in
theorem x13n (W w : World) (sb : Nat) (pH : Option Addr) (u0 u1 u2 u5 u6 u7 u8 u9 u11 u12 u13 u14 u16 u17 u18 u19 u20 u21 u22 u23 u24 u25 u26 u27 u28 u29 u30 u31 u32 u33 u34 u35 u36 u37 u38 u39 u40 u41 u42 u43 u44 u45 u46 u47 u48 u49 u50 u51 u52 u53 u54 u55 u56 u57 u58 u59 u60 u61 u62 u63 u64 u65 u66 u67 u68 u69 u70 u71 u72 u73 u74 u75 u76 u77 u78 u79 u80 u81 u82 u83 u84 u85 u86 u87 u88 u89 u90 u91 u92 u93 u94 u95 u96 u97 u98 u99 u100 u101 u102 u103 u104 u105 u106 u107 u108 u109 u110 u111 u112 u113 u114 u115 u116 u117 u118 u119 u120 u121 u122 u123 u124 u125 u126 u127 u128 u129 u130 u131 u132 u133 u134 u135 u136 u137 u138 u139 u140 u141 u142 u143 u144 u145 u146 u147 u148 u149 u150 u151 u152 u153 u154 u155 u156 u157 u158 u159 u160 u161 u162 u163 u164 u165 u166 u167 u168 u169 u170 u171 u172 u173 u174 u175 u176 u177 u178 u179 u180 u181 u182 u183 u184 u185 u186 u187 u188 u189 u190 u191 u192 u193 u194 u195 : Value) (HB : Hid (Below W.heap.size W w)) (g19 : w.cell? ⟨sb, 19, none⟩ = some (.pointer pH)) :
    Code.wp Yba.prog (tl 13 Yba.f4) (bodyPost Yba.prog Yba.f4 (fun e w' => e = .returned (.bool true) ∧ Below W.heap.size W w')) { tmps := List.toArray (u0 :: u1 :: u2 :: .pointer (some ⟨sb, 0, none⟩) :: .pointer pH :: u5 :: u6 :: u7 :: u8 :: u9 :: .bool false :: u11 :: u12 :: u13 :: u14 :: .bool false :: u16 :: u17 :: u18 :: u19 :: u20 :: u21 :: u22 :: u23 :: u24 :: u25 :: u26 :: u27 :: u28 :: u29 :: u30 :: u31 :: u32 :: u33 :: u34 :: u35 :: u36 :: u37 :: u38 :: u39 :: u40 :: u41 :: u42 :: u43 :: u44 :: u45 :: u46 :: u47 :: u48 :: u49 :: u50 :: u51 :: u52 :: u53 :: u54 :: u55 :: u56 :: u57 :: u58 :: u59 :: u60 :: u61 :: u62 :: u63 :: u64 :: u65 :: u66 :: u67 :: u68 :: u69 :: u70 :: u71 :: u72 :: u73 :: u74 :: u75 :: u76 :: u77 :: u78 :: u79 :: u80 :: u81 :: u82 :: u83 :: u84 :: u85 :: u86 :: u87 :: u88 :: u89 :: u90 :: u91 :: u92 :: u93 :: u94 :: u95 :: u96 :: u97 :: u98 :: u99 :: u100 :: u101 :: u102 :: u103 :: u104 :: u105 :: u106 :: u107 :: u108 :: u109 :: u110 :: u111 :: u112 :: u113 :: u114 :: u115 :: u116 :: u117 :: u118 :: u119 :: u120 :: u121 :: u122 :: u123 :: u124 :: u125 :: u126 :: u127 :: u128 :: u129 :: u130 :: u131 :: u132 :: u133 :: u134 :: u135 :: u136 :: u137 :: u138 :: u139 :: u140 :: u141 :: u142 :: u143 :: u144 :: u145 :: u146 :: u147 :: u148 :: u149 :: u150 :: u151 :: u152 :: u153 :: u154 :: u155 :: u156 :: u157 :: u158 :: u159 :: u160 :: u161 :: u162 :: u163 :: u164 :: u165 :: u166 :: u167 :: u168 :: u169 :: u170 :: u171 :: u172 :: u173 :: u174 :: u175 :: u176 :: u177 :: u178 :: u179 :: u180 :: u181 :: u182 :: u183 :: u184 :: u185 :: u186 :: u187 :: u188 :: u189 :: u190 :: u191 :: u192 :: u193 :: u194 :: u195 :: []), defers := [] } w := by
  refine wp_tl13 (F := Yba.f4) rfl ?_
  have es := eql_self
  have hl1 : sb < w.heap.size := World.block_lt_of_cell? _ _ g19
  go_wp2_with fail
  go_ret
  exact ⟨rfl, HB.out⟩
set_option maxRecDepth 100000 in
set_option maxHeartbeats 6400000 in
theorem x13y (W w : World) (sb hb bk bb : Nat) (x y z : Bl) (r : Int) (u0 u1 u2 u4 u5 u6 u7 u8 u9 u12 u13 u14 u16 u17 u18 u19 u20 u21 u22 u23 u24 u25 u26 u27 u28 u29 u30 u31 u32 u33 u34 u35 u36 u37 u38 u39 u40 u41 u42 u43 u44 u45 u46 u47 u48 u49 u50 u51 u52 u53 u54 u55 u56 u57 u58 u59 u60 u61 u62 u63 u64 u65 u66 u67 u68 u69 u70 u71 u72 u73 u74 u75 u76 u77 u78 u79 u80 u81 u82 u83 u84 u85 u86 u87 u88 u89 u90 u91 u92 u93 u94 u95 u96 u97 u98 u99 u100 u101 u102 u103 u104 u105 u106 u107 u108 u109 u110 u111 u112 u113 u114 u115 u116 u117 u118 u119 u120 u121 u122 u123 u124 u125 u126 u127 u128 u129 u130 u131 u132 u133 u134 u135 u136 u137 u138 u139 u140 u141 u142 u143 u144 u145 u146 u147 u148 u149 u150 u151 u152 u153 u154 u155 u156 u157 u158 u159 u160 u161 u162 u163 u164 u165 u166 u167 u168 u169 u170 u171 u172 u173 u174 u175 u176 u177 u178 u179 u180 u181 u182 u183 u184 u185 u186 u187 u188 u189 u190 u191 u192 u193 u194 u195 : Value) (HB : Hid (Below W.heap.size W w)) (g19 : w.cell? ⟨sb, 19, none⟩ = some (.pointer (some ⟨hb, 0, none⟩))) (g16 : w.cell? ⟨sb, 16, none⟩ = some (.pointer (some ⟨bb, 0, none⟩))) (hx : BAt w hb x.c x.g x.n x.v) (hy : BAt w bk y.c y.g y.n y.v) (hz : BAt w bb z.c z.g z.n z.v) (h1 : cmpB x.c x.v y.c y.v = 0) (h2 : cmpB z.c z.v y.c y.v = r) (h3 : 0 ≤ r) :
    Code.wp Yba.prog (tl 13 Yba.f4) (bodyPost Yba.prog Yba.f4 (fun e w' => e = .returned (.bool true) ∧ Below W.heap.size W w')) { tmps := List.toArray (u0 :: u1 :: u2 :: .pointer (some ⟨sb, 0, none⟩) :: u4 :: u5 :: u6 :: u7 :: u8 :: u9 :: .bool true :: .pointer (some ⟨bk, 0, none⟩) :: u12 :: u13 :: u14 :: .bool true :: u16 :: u17 :: u18 :: u19 :: u20 :: u21 :: u22 :: u23 :: u24 :: u25 :: u26 :: u27 :: u28 :: u29 :: u30 :: u31 :: u32 :: u33 :: u34 :: u35 :: u36 :: u37 :: u38 :: u39 :: u40 :: u41 :: u42 :: u43 :: u44 :: u45 :: u46 :: u47 :: u48 :: u49 :: u50 :: u51 :: u52 :: u53 :: u54 :: u55 :: u56 :: u57 :: u58 :: u59 :: u60 :: u61 :: u62 :: u63 :: u64 :: u65 :: u66 :: u67 :: u68 :: u69 :: u70 :: u71 :: u72 :: u73 :: u74 :: u75 :: u76 :: u77 :: u78 :: u79 :: u80 :: u81 :: u82 :: u83 :: u84 :: u85 :: u86 :: u87 :: u88 :: u89 :: u90 :: u91 :: u92 :: u93 :: u94 :: u95 :: u96 :: u97 :: u98 :: u99 :: u100 :: u101 :: u102 :: u103 :: u104 :: u105 :: u106 :: u107 :: u108 :: u109 :: u110 :: u111 :: u112 :: u113 :: u114 :: u115 :: u116 :: u117 :: u118 :: u119 :: u120 :: u121 :: u122 :: u123 :: u124 :: u125 :: u126 :: u127 :: u128 :: u129 :: u130 :: u131 :: u132 :: u133 :: u134 :: u135 :: u136 :: u137 :: u138 :: u139 :: u140 :: u141 :: u142 :: u143 :: u144 :: u145 :: u146 :: u147 :: u148 :: u149 :: u150 :: u151 :: u152 :: u153 :: u154 :: u155 :: u156 :: u157 :: u158 :: u159 :: u160 :: u161 :: u162 :: u163 :: u164 :: u165 :: u166 :: u167 :: u168 :: u169 :: u170 :: u171 :: u172 :: u173 :: u174 :: u175 :: u176 :: u177 :: u178 :: u179 :: u180 :: u181 :: u182 :: u183 :: u184 :: u185 :: u186 :: u187 :: u188 :: u189 :: u190 :: u191 :: u192 :: u193 :: u194 :: u195 :: []), defers := [] } w := by
  refine wp_tl13 (F := Yba.f4) rfl ?_
  have hl1 : sb < w.heap.size := World.block_lt_of_cell? _ _ g19
  have x0 := hx.c0
  have x1 := hx.c1
  have y0 := hy.c0
  have y1 := hy.c1
  have z0 := hz.c0
  have z1 := hz.c1
  have hl2 : hb < w.heap.size := World.block_lt_of_cell? _ _ x0
  have hl3 : bk < w.heap.size := World.block_lt_of_cell? _ _ y0
  have hl4 : bb < w.heap.size := World.block_lt_of_cell? _ _ z0
  have HC1 : Hid (∀ q, Calls Yba.prog 9 #[.agg #[.int .u32 x.c, .slice (some ⟨x.g, 0, none⟩) x.n x.n], .agg #[.int .u32 y.c, .slice (some ⟨y.g, 0, none⟩) y.n y.n]] (w.drewN q) fun e w' => e = .returned (.int .i64 0) ∧ Below w.heap.size w w') := fun q => by
    have := acmp_at (c := x.c) (c' := y.c) hx.val hy.val q
    rwa [h1] at this
  have HC2 : Hid (∀ w', Below w.heap.size w w' → Calls Yba.prog 9 #[.agg #[.int .u32 z.c, .slice (some ⟨z.g, 0, none⟩) z.n z.n], .agg #[.int .u32 y.c, .slice (some ⟨y.g, 0, none⟩) y.n y.n]] w' fun e w'' => e = .returned (.int .i64 r) ∧ Below w.heap.size w w'') := fun w' hb' => by
    have := acmp_walk z.c y.c z.g z.n z.v y.g y.n y.v w' (hz.val.below hb') (hy.val.below hb')
    rw [h2] at this
    refine this.mono ?_
    rintro e w'' ⟨he, rfl⟩
    exact ⟨he, hb'.trans ((boxed2_below ..).mono hb'.size)⟩
  have hr : decide (0 ≤ r) = true := decide_eq_true h3
  clear hx hy hz h1 h2
  go_upto_region 30 with fail
  refine wp_region_held_drew (S := fun w' => w'.cell? ⟨sb, 19, none⟩ = some (.pointer (some ⟨hb, 0, none⟩)) ∧ w'.cell? ⟨sb, 16, none⟩ = some (.pointer (some ⟨bb, 0, none⟩)) ∧ w'.cell? ⟨hb, 0, none⟩ = some (.int .u32 x.c) ∧ w'.cell? ⟨hb, 1, none⟩ = some (.slice (some ⟨x.g, 0, none⟩) x.n x.n) ∧ w'.cell? ⟨bk, 0, none⟩ = some (.int .u32 y.c) ∧ w'.cell? ⟨bk, 1, none⟩ = some (.slice (some ⟨y.g, 0, none⟩) y.n y.n) ∧ w'.cell? ⟨bb, 0, none⟩ = some (.int .u32 z.c) ∧ w'.cell? ⟨bb, 1, none⟩ = some (.slice (some ⟨z.g, 0, none⟩) z.n z.n)) (by kernel_rfl) ⟨g19, g16, x0, x1, y0, y1, z0, z1⟩ (fun hHeld => ?_)
  refine wpAnyH_take (i := 0) (v := ?v0a) rfl (by kernel_rfl) (by kernel_rfl) (by kernel_rfl) (fun _ _ _ h => h) (Or.inl ⟨by rfl, ?hy0a⟩) (by assumption) ?rest0a
  case hy0a => (intro w hSw; (try dsimp only at hSw); go_simp) <;> (try with_reducible rfl)
  simp only [Act.put, List.getElem_toArray, List.getElem_cons_zero, List.getElem_cons_succ, List.setIfInBounds_toArray, List.set_cons_zero, List.set_cons_succ]
  refine wpAnyH_take (i := 1) (v := ?v1a) rfl (by kernel_rfl) (by kernel_rfl) (by kernel_rfl) (fun _ _ _ h => h) (Or.inl ⟨by rfl, ?hy1a⟩) (by assumption) ?rest1a
  case hy1a => (intro w hSw; (try dsimp only at hSw); go_simp) <;> (try with_reducible rfl)
  simp only [Act.put, List.getElem_toArray, List.getElem_cons_zero, List.getElem_cons_succ, List.setIfInBounds_toArray, List.set_cons_zero, List.set_cons_succ]
  refine wpAnyH_take (i := 2) (v := ?v2a) rfl (by kernel_rfl) (by kernel_rfl) (by kernel_rfl) (fun _ _ _ h => h) (Or.inl ⟨by rfl, ?hy2a⟩) (by assumption) ?rest2a
  case hy2a => (intro w hSw; (try dsimp only at hSw); go_simp) <;> (try with_reducible rfl)
  simp only [Act.put, List.getElem_toArray, List.getElem_cons_zero, List.getElem_cons_succ, List.setIfInBounds_toArray, List.set_cons_zero, List.set_cons_succ]
  refine wpAnyH_take (i := 3) (v := ?v3a) rfl (by kernel_rfl) (by kernel_rfl) (by kernel_rfl) (fun _ _ _ h => h) (Or.inl ⟨by rfl, ?hy3a⟩) (by assumption) ?rest3a
  case hy3a => (intro w hSw; (try dsimp only at hSw); go_simp) <;> (try with_reducible rfl)
  simp only [Act.put, List.getElem_toArray, List.getElem_cons_zero, List.getElem_cons_succ, List.setIfInBounds_toArray, List.set_cons_zero, List.set_cons_succ]
  refine wpAnyH_take (i := 4) (v := ?v4a) rfl (by kernel_rfl) (by kernel_rfl) (by kernel_rfl) (fun _ _ _ h => h) (Or.inl ⟨by rfl, ?hy4a⟩) (by assumption) ?rest4a
  case hy4a => (intro w hSw; (try dsimp only at hSw); go_simp) <;> (try with_reducible rfl)
  simp only [Act.put, List.getElem_toArray, List.getElem_cons_zero, List.getElem_cons_succ, List.setIfInBounds_toArray, List.set_cons_zero, List.set_cons_succ]
  refine wpAnyH_take (i := 5) (v := ?v5a) rfl (by kernel_rfl) (by kernel_rfl) (by kernel_rfl) (fun _ _ _ h => h) (Or.inl ⟨by rfl, ?hy5a⟩) (by assumption) ?rest5a
  case hy5a => (intro w hSw; (try dsimp only at hSw); go_simp) <;> (try with_reducible rfl)
  simp only [Act.put, List.getElem_toArray, List.getElem_cons_zero, List.getElem_cons_succ, List.setIfInBounds_toArray, List.set_cons_zero, List.set_cons_succ]
  refine wpAnyH_take (i := 6) (v := ?v6a) rfl (by kernel_rfl) (by kernel_rfl) (by kernel_rfl) (fun _ _ _ h => h) (Or.inl ⟨by rfl, ?hy6a⟩) (by assumption) ?rest6a
  case hy6a => (intro w hSw; (try dsimp only at hSw); go_simp) <;> (try with_reducible rfl)
  simp only [Act.put, List.getElem_toArray, List.getElem_cons_zero, List.getElem_cons_succ, List.setIfInBounds_toArray, List.set_cons_zero, List.set_cons_succ]
  refine wpAnyH_take (i := 7) (v := ?v7a) rfl (by kernel_rfl) (by kernel_rfl) (by kernel_rfl) (fun _ _ _ h => h) (Or.inl ⟨by rfl, ?hy7a⟩) (by assumption) ?rest7a
  case hy7a => (intro w hSw; (try dsimp only at hSw); go_simp) <;> (try with_reducible rfl)
  simp only [Act.put, List.getElem_toArray, List.getElem_cons_zero, List.getElem_cons_succ, List.setIfInBounds_toArray, List.set_cons_zero, List.set_cons_succ]
  refine wpAnyH_take (i := 8) (v := ?v8a) rfl (by kernel_rfl) (by kernel_rfl) (by kernel_rfl) (fun _ _ _ h => h) (Or.inl ⟨by rfl, ?hy8a⟩) (by assumption) ?rest8a
  case hy8a => (intro w hSw; (try dsimp only at hSw); go_simp) <;> (try with_reducible rfl)
  simp only [Act.put, List.getElem_toArray, List.getElem_cons_zero, List.getElem_cons_succ, List.setIfInBounds_toArray, List.set_cons_zero, List.set_cons_succ]
  refine wpAnyH_take (i := 9) (v := ?v9a) rfl (by kernel_rfl) (by kernel_rfl) (by kernel_rfl) (fun _ _ _ h => h) (Or.inl ⟨by rfl, ?hy9a⟩) (by assumption) ?rest9a
  case hy9a => (intro w hSw; (try dsimp only at hSw); go_simp) <;> (try with_reducible rfl)
  simp only [Act.put, List.getElem_toArray, List.getElem_cons_zero, List.getElem_cons_succ, List.setIfInBounds_toArray, List.set_cons_zero, List.set_cons_succ]
  refine wpAnyH_take (i := 10) (v := ?v10a) rfl (by kernel_rfl) (by kernel_rfl) (by kernel_rfl) (fun _ _ _ h => h) (Or.inl ⟨by rfl, ?hy10a⟩) (by assumption) ?rest10a
  case hy10a => (intro w hSw; (try dsimp only at hSw); go_simp) <;> (try with_reducible rfl)
  simp only [Act.put, List.getElem_toArray, List.getElem_cons_zero, List.getElem_cons_succ, List.setIfInBounds_toArray, List.set_cons_zero, List.set_cons_succ]
  refine wpAnyH_take (i := 11) (v := ?v11a) rfl (by kernel_rfl) (by kernel_rfl) (by kernel_rfl) (fun _ _ _ h => h) (Or.inl ⟨by rfl, ?hy11a⟩) (by assumption) ?rest11a
  case hy11a => (intro w hSw; (try dsimp only at hSw); go_simp) <;> (try with_reducible rfl)
  simp only [Act.put, List.getElem_toArray, List.getElem_cons_zero, List.getElem_cons_succ, List.setIfInBounds_toArray, List.set_cons_zero, List.set_cons_succ]
  refine wpAnyH_take (i := 12) (v := ?v12a) rfl (by kernel_rfl) (by kernel_rfl) (by kernel_rfl) (fun _ _ _ h => h) (Or.inl ⟨by rfl, ?hy12a⟩) (by assumption) ?rest12a
  case hy12a => (intro w hSw; (try dsimp only at hSw); go_simp) <;> (try with_reducible rfl)
  simp only [Act.put, List.getElem_toArray, List.getElem_cons_zero, List.getElem_cons_succ, List.setIfInBounds_toArray, List.set_cons_zero, List.set_cons_succ]
  refine wpAnyH_take (i := 13) (v := ?v13a) rfl (by kernel_rfl) (by kernel_rfl) (by kernel_rfl) (fun _ _ _ h => h) (Or.inl ⟨by rfl, ?hy13a⟩) (by assumption) ?rest13a
  case hy13a => (intro w hSw; (try dsimp only at hSw); go_simp) <;> (try with_reducible rfl)
  simp only [Act.put, List.getElem_toArray, List.getElem_cons_zero, List.getElem_cons_succ, List.setIfInBounds_toArray, List.set_cons_zero, List.set_cons_succ]
  refine wpAnyH_take (i := 14) (v := ?v14a) rfl (by kernel_rfl) (by kernel_rfl) (by kernel_rfl) (fun _ _ _ h => h) (Or.inl ⟨by rfl, ?hy14a⟩) (by assumption) ?rest14a
  case hy14a => (intro w hSw; (try dsimp only at hSw); go_simp) <;> (try with_reducible rfl)
  simp only [Act.put, List.getElem_toArray, List.getElem_cons_zero, List.getElem_cons_succ, List.setIfInBounds_toArray, List.set_cons_zero, List.set_cons_succ]
  refine wpAnyH_ready (rs := [15]) (by kernel_rfl) (by simp) ?_
  refine AllReadyH.cons rfl (fun K hK => ?_) AllReadyH.nil
  rw [if_pos (by rfl)]
  go_simp
  refine (HC1.out 1).mono ?_
  rintro e w1 ⟨rfl, hbl⟩
  refine hK.out _ _ ⟨below_keep hbl g19, below_keep hbl g16, below_keep hbl x0, below_keep hbl x1, below_keep hbl y0, below_keep hbl y1, below_keep hbl z0, below_keep hbl z1⟩ (fun hHeld2 => ?_)
  clear hK K hHeld
  refine wpAnyH_take (i := 16) (v := ?v16a) rfl (by kernel_rfl) (by kernel_rfl) (by kernel_rfl) (fun _ _ _ h => h) (Or.inl ⟨by rfl, ?hy16a⟩) (by assumption) ?rest16a
  case hy16a => (intro w hSw; (try dsimp only at hSw); go_simp) <;> (try with_reducible rfl)
  simp only [Act.put, List.getElem_toArray, List.getElem_cons_zero, List.getElem_cons_succ, List.setIfInBounds_toArray, List.set_cons_zero, List.set_cons_succ]
  refine wpAnyH_take (i := 17) (v := ?v17a) rfl (by kernel_rfl) (by kernel_rfl) (by kernel_rfl) (fun _ _ _ h => h) (Or.inl ⟨by rfl, ?hy17a⟩) (by assumption) ?rest17a
  case hy17a => (intro w hSw; (try dsimp only at hSw); go_simp) <;> (try with_reducible rfl)
  simp only [Act.put, List.getElem_toArray, List.getElem_cons_zero, List.getElem_cons_succ, List.setIfInBounds_toArray, List.set_cons_zero, List.set_cons_succ]
  refine wpAnyH_take (i := 18) (v := ?v18a) rfl (by kernel_rfl) (by kernel_rfl) (by kernel_rfl) (fun _ _ _ h => h) (Or.inl ⟨by rfl, ?hy18a⟩) (by assumption) ?rest18a
  case hy18a => (intro w hSw; (try dsimp only at hSw); go_simp) <;> (try with_reducible rfl)
  simp only [Act.put, List.getElem_toArray, List.getElem_cons_zero, List.getElem_cons_succ, List.setIfInBounds_toArray, List.set_cons_zero, List.set_cons_succ]
  refine wpAnyH_take (i := 19) (v := ?v19a) rfl (by kernel_rfl) (by kernel_rfl) (by kernel_rfl) (fun _ _ _ h => h) (Or.inl ⟨by rfl, ?hy19a⟩) (by assumption) ?rest19a
  case hy19a => (intro w hSw; (try dsimp only at hSw); go_simp) <;> (try with_reducible rfl)
  simp only [Act.put, List.getElem_toArray, List.getElem_cons_zero, List.getElem_cons_succ, List.setIfInBounds_toArray, List.set_cons_zero, List.set_cons_succ]
  refine wpAnyH_take (i := 20) (v := ?v20a) rfl (by kernel_rfl) (by kernel_rfl) (by kernel_rfl) (fun _ _ _ h => h) (Or.inl ⟨by rfl, ?hy20a⟩) (by assumption) ?rest20a
  case hy20a => (intro w hSw; (try dsimp only at hSw); go_simp) <;> (try with_reducible rfl)
  simp only [Act.put, List.getElem_toArray, List.getElem_cons_zero, List.getElem_cons_succ, List.setIfInBounds_toArray, List.set_cons_zero, List.set_cons_succ]
  refine wpAnyH_take (i := 21) (v := ?v21a) rfl (by kernel_rfl) (by kernel_rfl) (by kernel_rfl) (fun _ _ _ h => h) (Or.inl ⟨by rfl, ?hy21a⟩) (by assumption) ?rest21a
  case hy21a => (intro w hSw; (try dsimp only at hSw); go_simp) <;> (try with_reducible rfl)
  simp only [Act.put, List.getElem_toArray, List.getElem_cons_zero, List.getElem_cons_succ, List.setIfInBounds_toArray, List.set_cons_zero, List.set_cons_succ]
  refine wpAnyH_take (i := 22) (v := ?v22a) rfl (by kernel_rfl) (by kernel_rfl) (by kernel_rfl) (fun _ _ _ h => h) (Or.inl ⟨by rfl, ?hy22a⟩) (by assumption) ?rest22a
  case hy22a => (intro w hSw; (try dsimp only at hSw); go_simp) <;> (try with_reducible rfl)
  simp only [Act.put, List.getElem_toArray, List.getElem_cons_zero, List.getElem_cons_succ, List.setIfInBounds_toArray, List.set_cons_zero, List.set_cons_succ]
  refine wpAnyH_take (i := 23) (v := ?v23a) rfl (by kernel_rfl) (by kernel_rfl) (by kernel_rfl) (fun _ _ _ h => h) (Or.inl ⟨by rfl, ?hy23a⟩) (by assumption) ?rest23a
  case hy23a => (intro w hSw; (try dsimp only at hSw); go_simp) <;> (try with_reducible rfl)
  simp only [Act.put, List.getElem_toArray, List.getElem_cons_zero, List.getElem_cons_succ, List.setIfInBounds_toArray, List.set_cons_zero, List.set_cons_succ]
  refine wpAnyH_take (i := 24) (v := ?v24a) rfl (by kernel_rfl) (by kernel_rfl) (by kernel_rfl) (fun _ _ _ h => h) (Or.inl ⟨by rfl, ?hy24a⟩) (by assumption) ?rest24a
  case hy24a => (intro w hSw; (try dsimp only at hSw); go_simp) <;> (try with_reducible rfl)
  simp only [Act.put, List.getElem_toArray, List.getElem_cons_zero, List.getElem_cons_succ, List.setIfInBounds_toArray, List.set_cons_zero, List.set_cons_succ]
  refine wpAnyH_take (i := 25) (v := ?v25a) rfl (by kernel_rfl) (by kernel_rfl) (by kernel_rfl) (fun _ _ _ h => h) (Or.inl ⟨by rfl, ?hy25a⟩) (by assumption) ?rest25a
  case hy25a => (intro w hSw; (try dsimp only at hSw); go_simp) <;> (try with_reducible rfl)
  simp only [Act.put, List.getElem_toArray, List.getElem_cons_zero, List.getElem_cons_succ, List.setIfInBounds_toArray, List.set_cons_zero, List.set_cons_succ]
  refine wpAnyH_take (i := 26) (v := ?v26a) rfl (by kernel_rfl) (by kernel_rfl) (by kernel_rfl) (fun _ _ _ h => h) (Or.inl ⟨by rfl, ?hy26a⟩) (by assumption) ?rest26a
  case hy26a => (intro w hSw; (try dsimp only at hSw); go_simp) <;> (try with_reducible rfl)
  simp only [Act.put, List.getElem_toArray, List.getElem_cons_zero, List.getElem_cons_succ, List.setIfInBounds_toArray, List.set_cons_zero, List.set_cons_succ]
  refine wpAnyH_take (i := 27) (v := ?v27a) rfl (by kernel_rfl) (by kernel_rfl) (by kernel_rfl) (fun _ _ _ h => h) (Or.inl ⟨by rfl, ?hy27a⟩) (by assumption) ?rest27a
  case hy27a => (intro w hSw; (try dsimp only at hSw); go_simp) <;> (try with_reducible rfl)
  simp only [Act.put, List.getElem_toArray, List.getElem_cons_zero, List.getElem_cons_succ, List.setIfInBounds_toArray, List.set_cons_zero, List.set_cons_succ]
  refine wpAnyH_take (i := 28) (v := ?v28a) rfl (by kernel_rfl) (by kernel_rfl) (by kernel_rfl) (fun _ _ _ h => h) (Or.inl ⟨by rfl, ?hy28a⟩) (by assumption) ?rest28a
  case hy28a => (intro w hSw; (try dsimp only at hSw); go_simp) <;> (try with_reducible rfl)
  simp only [Act.put, List.getElem_toArray, List.getElem_cons_zero, List.getElem_cons_succ, List.setIfInBounds_toArray, List.set_cons_zero, List.set_cons_succ]
  refine wpAnyH_take (i := 29) (v := ?v29a) rfl (by kernel_rfl) (by kernel_rfl) (by kernel_rfl) (fun _ _ _ h => h) (Or.inl ⟨by rfl, ?hy29a⟩) (by assumption) ?rest29a
  case hy29a => (intro w hSw; (try dsimp only at hSw); go_simp) <;> (try with_reducible rfl)
  simp only [Act.put, List.getElem_toArray, List.getElem_cons_zero, List.getElem_cons_succ, List.setIfInBounds_toArray, List.set_cons_zero, List.set_cons_succ]
  refine wpAnyH_take (i := 30) (v := ?v30a) rfl (by kernel_rfl) (by kernel_rfl) (by kernel_rfl) (fun _ _ _ h => h) (Or.inl ⟨by rfl, ?hy30a⟩) (by assumption) ?rest30a
  case hy30a => (intro w hSw; (try dsimp only at hSw); go_simp) <;> (try with_reducible rfl)
  simp only [Act.put, List.getElem_toArray, List.getElem_cons_zero, List.getElem_cons_succ, List.setIfInBounds_toArray, List.set_cons_zero, List.set_cons_succ]
  refine wpAnyH_take (i := 31) (v := ?v31a) rfl (by kernel_rfl) (by kernel_rfl) (by kernel_rfl) (fun _ _ _ h => h) (Or.inl ⟨by rfl, ?hy31a⟩) (by assumption) ?rest31a
  case hy31a => (intro w hSw; (try dsimp only at hSw); go_simp) <;> (try with_reducible rfl)
  simp only [Act.put, List.getElem_toArray, List.getElem_cons_zero, List.getElem_cons_succ, List.setIfInBounds_toArray, List.set_cons_zero, List.set_cons_succ]
  refine wpAnyH_take (i := 32) (v := ?v32a) rfl (by kernel_rfl) (by kernel_rfl) (by kernel_rfl) (fun _ _ _ h => h) (Or.inl ⟨by rfl, ?hy32a⟩) (by assumption) ?rest32a
  case hy32a => (intro w hSw; (try dsimp only at hSw); go_simp) <;> (try with_reducible rfl)
  simp only [Act.put, List.getElem_toArray, List.getElem_cons_zero, List.getElem_cons_succ, List.setIfInBounds_toArray, List.set_cons_zero, List.set_cons_succ]
  refine wpAnyH_take (i := 33) (v := ?v33a) rfl (by kernel_rfl) (by kernel_rfl) (by kernel_rfl) (fun _ _ _ h => h) (Or.inl ⟨by rfl, ?hy33a⟩) (by assumption) ?rest33a
  case hy33a => (intro w hSw; (try dsimp only at hSw); go_simp) <;> (try with_reducible rfl)
  simp only [Act.put, List.getElem_toArray, List.getElem_cons_zero, List.getElem_cons_succ, List.setIfInBounds_toArray, List.set_cons_zero, List.set_cons_succ]
  refine wpAnyH_take (i := 34) (v := ?v34a) rfl (by kernel_rfl) (by kernel_rfl) (by kernel_rfl) (fun _ _ _ h => h) (Or.inl ⟨by rfl, ?hy34a⟩) (by assumption) ?rest34a
  case hy34a => (intro w hSw; (try dsimp only at hSw); go_simp) <;> (try with_reducible rfl)
  simp only [Act.put, List.getElem_toArray, List.getElem_cons_zero, List.getElem_cons_succ, List.setIfInBounds_toArray, List.set_cons_zero, List.set_cons_succ]
  refine wpAnyH_ready (rs := [35]) (by kernel_rfl) (by simp) ?_
  refine AllReadyH.cons rfl (fun K hK => ?_) AllReadyH.nil
  rw [if_pos (by rfl)]
  go_simp
  refine (HC2.out _ hbl).mono ?_
  rintro e w2 ⟨rfl, hbl2⟩
  refine hK.out _ _ ⟨below_keep hbl2 g19, below_keep hbl2 g16, below_keep hbl2 x0, below_keep hbl2 x1, below_keep hbl2 y0, below_keep hbl2 y1, below_keep hbl2 z0, below_keep hbl2 z1⟩ (fun hHeld3 => ?_)
  clear hK K hHeld2
  refine wpAnyH_take (i := 36) (v := ?v36a) rfl (by kernel_rfl) (by kernel_rfl) (by kernel_rfl) (fun _ _ _ h => h) (Or.inl ⟨by rfl, ?hy36a⟩) (by assumption) ?rest36a
  case hy36a => (intro w hSw; (try dsimp only at hSw); go_simp) <;> (try with_reducible rfl)
  simp only [Act.put, List.getElem_toArray, List.getElem_cons_zero, List.getElem_cons_succ, List.setIfInBounds_toArray, List.set_cons_zero, List.set_cons_succ]
  refine wpAnyH_take (i := 37) (v := ?v37a) rfl (by kernel_rfl) (by kernel_rfl) (by kernel_rfl) (fun _ _ _ h => h) (Or.inl ⟨by rfl, ?hy37a⟩) (by assumption) ?rest37a
  case hy37a => (intro w hSw; (try dsimp only at hSw); go_simp) <;> (try with_reducible rfl)
  simp only [Act.put, List.getElem_toArray, List.getElem_cons_zero, List.getElem_cons_succ, List.setIfInBounds_toArray, List.set_cons_zero, List.set_cons_succ]
  refine wpAnyH_take (i := 38) (v := ?v38a) rfl (by kernel_rfl) (by kernel_rfl) (by kernel_rfl) (fun _ _ _ h => h) (Or.inl ⟨by rfl, ?hy38a⟩) (by assumption) ?rest38a
  case hy38a => (intro w hSw; (try dsimp only at hSw); go_simp) <;> (try with_reducible rfl)
  simp only [Act.put, List.getElem_toArray, List.getElem_cons_zero, List.getElem_cons_succ, List.setIfInBounds_toArray, List.set_cons_zero, List.set_cons_succ]
  refine wpAnyH_done (by kernel_rfl) ?_ _
  go_wp2_with fail
  go_ret
  exact ⟨ret_bool (by simp [hr]), HB.out.trans (hbl2.mono HB.out.size)⟩
end Go.Proofs.Ybulkadqm.AK
