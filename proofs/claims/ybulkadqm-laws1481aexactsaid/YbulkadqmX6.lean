import Derived.Test.YbulkadqmX5
namespace Go.Proofs.Ybulkadqm.AK
open Go.RowKit
set_option linter.unusedSimpArgs false

theorem wp_tl8x {F : Func} {a0 a1 a2 a3 a4 a5 a6 a7 r : Code} {P : Program} {Q : Exit → Act → World → Prop} {x : Act} {w : World} (h : F.body = some (.seq a0 (.seq a1 (.seq a2 (.seq a3 (.seq a4 (.seq a5 (.seq a6 (.seq a7 (r)))))))))) (hw : Code.wp P r Q x w) : Code.wp P (tl 8 F) Q x w := by
  have e : tl 8 F = r := by unfold tl; rw [h]; rfl
  rw [e]; exact hw
set_option maxRecDepth 100000 in
set_option maxHeartbeats 6400000 in
theorem x8 (W W5 w : World) (N sb eb mb kb zb vg vn lo : Nat) (I : In) (pl v : Value) (pB pP pPP pH pr : Option Addr) (C : List Bl) (u0 u2 u10 u11 u12 u13 u14 u15 u16 u17 u18 u19 u20 u21 u22 u23 u24 u25 u26 u27 u28 u29 u30 u31 u32 u33 u34 u35 u36 u37 u38 u39 u40 u41 u42 u43 u44 u45 u46 u47 u48 u49 u50 u51 u52 u53 u54 u55 u56 u57 u58 u59 u60 u61 u62 u63 u64 u65 u66 u67 u68 u69 u70 u71 u72 u73 u74 u75 u76 u77 u78 u79 u80 u81 u82 u83 u84 u85 u86 u87 u88 u89 u90 u91 u92 u93 u94 u95 u96 u97 u98 u99 u100 u101 u102 u103 u104 u105 u106 u107 u108 u109 u110 u111 u112 u113 u114 u115 u116 u117 u118 u119 u120 u121 u122 u123 u124 u125 u126 u127 u128 u129 u130 u131 u132 u133 u134 u135 u136 u137 u138 u139 u140 u141 u142 u143 u144 u145 u146 u147 u148 u149 u150 u151 u152 u153 u154 u155 u156 u157 u158 u159 u160 u161 u162 u163 u164 u165 u166 u167 u168 u169 u170 u171 u172 u173 u174 u175 u176 u177 u178 u179 u180 u181 u182 u183 u184 u185 u186 u187 u188 u189 u190 u191 u192 u193 u194 u195 : Value) (R : Hid (RX W W5 w N sb eb mb kb zb vg vn lo I pl pB pP pPP pH pr C v [(I.f9, (I.f4 % 3).toNat)])) :
    Code.wp Yba.prog (tl 8 Yba.f4) (bodyPost Yba.prog Yba.f4 (fun e w' => e = .returned (.bool true) ∧ Below W.heap.size W w')) { tmps := List.toArray (u0 :: .pointer (some ⟨N, 0, none⟩) :: u2 :: .pointer (some ⟨sb, 0, none⟩) :: .pointer pH :: .pointer pP :: .pointer pPP :: .slice (some ⟨vg, 0, none⟩) vn vn :: .pointer pr :: v :: u10 :: u11 :: u12 :: u13 :: u14 :: u15 :: u16 :: u17 :: u18 :: u19 :: u20 :: u21 :: u22 :: u23 :: u24 :: u25 :: u26 :: u27 :: u28 :: u29 :: u30 :: u31 :: u32 :: u33 :: u34 :: u35 :: u36 :: u37 :: u38 :: u39 :: u40 :: u41 :: u42 :: u43 :: u44 :: u45 :: u46 :: u47 :: u48 :: u49 :: u50 :: u51 :: u52 :: u53 :: u54 :: u55 :: u56 :: u57 :: u58 :: u59 :: u60 :: u61 :: u62 :: u63 :: u64 :: u65 :: u66 :: u67 :: u68 :: u69 :: u70 :: u71 :: u72 :: u73 :: u74 :: u75 :: u76 :: u77 :: u78 :: u79 :: u80 :: u81 :: u82 :: u83 :: u84 :: u85 :: u86 :: u87 :: u88 :: u89 :: u90 :: u91 :: u92 :: u93 :: u94 :: u95 :: u96 :: u97 :: u98 :: u99 :: u100 :: u101 :: u102 :: u103 :: u104 :: u105 :: u106 :: u107 :: u108 :: u109 :: u110 :: u111 :: u112 :: u113 :: u114 :: u115 :: u116 :: u117 :: u118 :: u119 :: u120 :: u121 :: u122 :: u123 :: u124 :: u125 :: u126 :: u127 :: u128 :: u129 :: u130 :: u131 :: u132 :: u133 :: u134 :: u135 :: u136 :: u137 :: u138 :: u139 :: u140 :: u141 :: u142 :: u143 :: u144 :: u145 :: u146 :: u147 :: u148 :: u149 :: u150 :: u151 :: u152 :: u153 :: u154 :: u155 :: u156 :: u157 :: u158 :: u159 :: u160 :: u161 :: u162 :: u163 :: u164 :: u165 :: u166 :: u167 :: u168 :: u169 :: u170 :: u171 :: u172 :: u173 :: u174 :: u175 :: u176 :: u177 :: u178 :: u179 :: u180 :: u181 :: u182 :: u183 :: u184 :: u185 :: u186 :: u187 :: u188 :: u189 :: u190 :: u191 :: u192 :: u193 :: u194 :: u195 :: []), defers := [] } w := by
  refine wp_tl8x (F := Yba.f4) rfl ?_
  have cf : w.cell? ⟨N, 9, none⟩ = some (.int .u32 I.f9) := below_keep R.out.b5 (R.out.E.ri 9 _ rfl)
  have hNl : N < w.heap.size := World.block_lt_of_cell? _ _ cf
  have hlen := R.out.len
  simp only [List.length_cons] at hlen
  by_cases hc : 0 < I.f9
  · obtain ⟨i0, hi0, hz0, hz1, hz2⟩ := info_parts info75
    go_upto_region 11 with fail
    go_cut [9] (fun s9 wx => Hid (RX W W5 wx N sb eb mb kb zb vg vn lo I pl pB pP pPP pH pr (C ++ [⟨I.f9, vg, vn, (I.f4 % 3).toNat⟩]) s9 []))
    case first =>
      go_wp2_with (at_builtin; refine wpList_append_lies _ rfl _ _ _ rfl W5.heap.size 75 i0 _ 2 32 Yba.underlying85 hi0 hz0 hz1 hz2 rfl (by omega) v C.length (flat C) rfl (R.out.own.alloc _) ⟨w.heap.size, 0, none⟩ 1 1 (Bl.enc ⟨I.f9, vg, vn, (I.f4 % 3).toNat⟩) rfl rfl (World.news_of_block (cs := #[.int .u32 I.f9, .slice (some ⟨vg, 0, none⟩) vn vn]) (t := 75) (fr := (0, 0)) (heap_at _ rfl)) (by simp [Bl.enc, Value.oneCell']) (by omega) (by unfold maxLen; omega) (by omega) (by have := R.out.b5.size; simp [go_sem]; omega) (w.heap.size + 1) (by simp [go_sem]) ?_; intro gg cap3 w3 hown3 hgrow hat hlt3)
      go_meet
      exact R.out.add ⟨I.f9, vg, vn, (I.f4 % 3).toNat⟩ _ hc (by simp [ks, key]) R.out.E.sv hown3 hgrow
    case rest =>
      go_step
      exact x9 W W5 wc N sb eb mb kb zb vg vn lo I pl _ pB pP pPP pH pr _ _ _ _ _ _ _ _ _ _ _ _ _ _ _ _ _ _ _ _ _ _ _ _ _ _ _ _ _ _ _ _ _ _ _ _ _ _ _ _ _ _ _ _ _ _ _ _ _ _ _ _ _ _ _ _ _ _ _ _ _ _ _ _ _ _ _ _ _ _ _ _ _ _ _ _ _ _ _ _ _ _ _ _ _ _ _ _ _ _ _ _ _ _ _ _ _ _ _ _ _ _ _ _ _ _ _ _ _ _ _ _ _ _ _ _ _ _ _ _ _ _ _ _ _ _ _ _ _ _ _ _ _ _ _ _ _ _ _ _ _ _ _ _ _ _ _ _ _ _ _ _ _ _ _ _ _ _ _ _ _ _ _ _ _ _ _ _ _ _ _ _ _ _ _ _ _ _ _ _ _ _ _ _ _ _ _ _ _ hcut
  · have hc' : decide (0 < I.f9) = false := decide_eq_false hc
    go_upto_region 10 with fail
    go_cut [70] (fun s wx => s = .bool false ∧ Hid (RX W W5 wx N sb eb mb kb zb vg vn lo I pl pB pP pPP pH pr C v []))
    case first =>
      go_wp2_with fail
      go_meet
      exact ⟨by first | rfl | (rw [hc']) | simp [hc'], R.out.skip (Int.not_lt.2 (Int.not_lt.1 (by omega)))⟩
    case rest =>
      obtain ⟨rfl, R2⟩ := hcut
      go_step
      go_step
      go_step
      go_step
      go_step
      exact x9 W W5 wc N sb eb mb kb zb vg vn lo I pl _ pB pP pPP pH pr _ _ _ _ _ _ _ _ _ _ _ _ _ _ _ _ _ _ _ _ _ _ _ _ _ _ _ _ _ _ _ _ _ _ _ _ _ _ _ _ _ _ _ _ _ _ _ _ _ _ _ _ _ _ _ _ _ _ _ _ _ _ _ _ _ _ _ _ _ _ _ _ _ _ _ _ _ _ _ _ _ _ _ _ _ _ _ _ _ _ _ _ _ _ _ _ _ _ _ _ _ _ _ _ _ _ _ _ _ _ _ _ _ _ _ _ _ _ _ _ _ _ _ _ _ _ _ _ _ _ _ _ _ _ _ _ _ _ _ _ _ _ _ _ _ _ _ _ _ _ _ _ _ _ _ _ _ _ _ _ _ _ _ _ _ _ _ _ _ _ _ _ _ _ _ _ _ _ _ _ _ _ _ _ _ _ _ _ _ R2
end Go.Proofs.Ybulkadqm.AK
