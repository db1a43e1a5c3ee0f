import Derived.Test.YbulkadqmK31
namespace Go.Proofs.Ybulkadqm.AK
open Go.RowKit
set_option linter.unusedSimpArgs false

/-- the code behind n statements -/
def sq : Nat → Code → Code
  | 0, c => c
  | n + 1, .seq _ b => sq n b
  | _ + 1, c => c
def tl (n : Nat) (F : Func) : Code := sq n (F.body.getD .ret)
theorem wp_tl15 {F : Func} {a0 a1 a2 a3 a4 a5 a6 a7 a8 a9 a10 a11 a12 a13 a14 r : Code} {P : Program} {Q : Exit → Act → World → Prop} {x : Act} {w : World} (h : F.body = some (.seq a0 (.seq a1 (.seq a2 (.seq a3 (.seq a4 (.seq a5 (.seq a6 (.seq a7 (.seq a8 (.seq a9 (.seq a10 (.seq a11 (.seq a12 (.seq a13 (.seq a14 (r))))))))))))))))) (hw : Code.wp P r Q x w) : Code.wp P (tl 15 F) Q x w := by
  have e : tl 15 F = r := by unfold tl; rw [h]; rfl
  rw [e]; exact hw
set_option maxRecDepth 100000 in
set_option maxHeartbeats 6400000 in
theorem tail15 (W w : World) (sb eb hb stb N lo bnd : Nat) (I : In) (pl : Value) (x : Bl) (pB pP pPP pH : Option Addr) (u2 u13 u14 u15 u16 u17 u18 u19 u20 u21 u22 u23 u24 u25 u26 u27 u28 u29 u30 u31 u32 u33 u34 u35 u36 u37 u38 u39 u40 u41 u42 u43 u44 u45 u46 u47 u48 u49 u50 u51 u52 u53 u54 u55 u56 u57 u58 u59 u60 u61 u62 u63 u64 u65 u66 u67 u68 u69 u70 u71 u72 u73 u74 u75 u76 u77 u78 u79 u80 u81 u82 u83 u84 u85 u86 u87 u88 u89 u90 u91 u92 u93 u94 u95 u96 u97 u98 u99 u100 u101 u102 u103 u104 u105 u106 u107 u108 u109 u110 u111 u112 u113 u114 u115 u116 u117 u118 u119 u120 u121 u122 u123 u124 u125 u126 u127 u128 u129 u130 u131 u132 u133 u134 u135 u136 u137 u138 u139 u140 u141 u142 u143 u144 u145 u146 u147 u148 u149 u150 u151 u152 u153 u154 u155 u156 u157 u158 u159 u160 u161 u162 u163 u164 u165 u166 u167 u168 u169 u170 u171 u172 u173 u174 u175 u176 u177 u178 u179 u180 u181 u182 u183 u184 u185 u186 u187 u188 u189 u190 u191 u192 u193 u194 u195 u196 u197 u198 u199 u200 u201 u202 u203 u204 u205 u206 u207 u208 u209 u210 u211 u212 u213 u214 u215 u216 u217 u218 u219 u220 u221 u222 u223 u224 u225 u226 u227 u228 u229 u230 u231 u232 u233 u234 u235 u236 u237 u238 u239 u240 u241 u242 u243 u244 u245 u246 u247 u248 u249 u250 u251 u252 u253 u254 u255 u256 u257 u258 u259 u260 u261 u262 u263 u264 : Value)
    (hk : KF w sb eb hb stb N lo bnd I pl x pB pP pPP) (hB : Below W.heap.size W w) :
    Code.wp Yba.prog (tl 15 Yba.f3) (bodyPost Yba.prog Yba.f3 (fun e w' => e = .returned (.bool true) ∧ Below W.heap.size W w')) { tmps := List.toArray (.agg I.cells.toArray :: .pointer (some ⟨N, 0, none⟩) :: u2 :: .pointer (some ⟨sb, 0, none⟩) :: .pointer (some ⟨sb, 15, none⟩) :: .pointer pB :: .pointer pP :: .pointer pPP :: .pointer pH :: .int .i64 0 :: .pointer (some ⟨stb, 0, none⟩) :: .bool true :: .pointer (some ⟨hb, 0, none⟩) :: u13 :: u14 :: u15 :: u16 :: u17 :: u18 :: u19 :: u20 :: u21 :: u22 :: u23 :: u24 :: u25 :: u26 :: u27 :: u28 :: u29 :: u30 :: u31 :: u32 :: u33 :: u34 :: u35 :: u36 :: u37 :: u38 :: u39 :: u40 :: u41 :: u42 :: u43 :: u44 :: u45 :: u46 :: u47 :: u48 :: u49 :: u50 :: u51 :: u52 :: u53 :: u54 :: u55 :: u56 :: u57 :: u58 :: u59 :: u60 :: u61 :: u62 :: u63 :: u64 :: u65 :: u66 :: u67 :: u68 :: u69 :: u70 :: u71 :: u72 :: u73 :: u74 :: u75 :: u76 :: u77 :: u78 :: u79 :: u80 :: u81 :: u82 :: u83 :: u84 :: u85 :: u86 :: u87 :: u88 :: u89 :: u90 :: u91 :: u92 :: u93 :: u94 :: u95 :: u96 :: u97 :: u98 :: u99 :: u100 :: u101 :: u102 :: u103 :: u104 :: u105 :: u106 :: u107 :: u108 :: u109 :: u110 :: u111 :: u112 :: u113 :: u114 :: u115 :: u116 :: u117 :: u118 :: u119 :: u120 :: u121 :: u122 :: u123 :: u124 :: u125 :: u126 :: u127 :: u128 :: u129 :: u130 :: u131 :: u132 :: u133 :: u134 :: u135 :: u136 :: u137 :: u138 :: u139 :: u140 :: u141 :: u142 :: u143 :: u144 :: u145 :: u146 :: u147 :: u148 :: u149 :: u150 :: u151 :: u152 :: u153 :: u154 :: u155 :: u156 :: u157 :: u158 :: u159 :: u160 :: u161 :: u162 :: u163 :: u164 :: u165 :: u166 :: u167 :: u168 :: u169 :: u170 :: u171 :: u172 :: u173 :: u174 :: u175 :: u176 :: u177 :: u178 :: u179 :: u180 :: u181 :: u182 :: u183 :: u184 :: u185 :: u186 :: u187 :: u188 :: u189 :: u190 :: u191 :: u192 :: u193 :: u194 :: u195 :: u196 :: u197 :: u198 :: u199 :: u200 :: u201 :: u202 :: u203 :: u204 :: u205 :: u206 :: u207 :: u208 :: u209 :: u210 :: u211 :: u212 :: u213 :: u214 :: u215 :: u216 :: u217 :: u218 :: u219 :: u220 :: u221 :: u222 :: u223 :: u224 :: u225 :: u226 :: u227 :: u228 :: u229 :: u230 :: u231 :: u232 :: u233 :: u234 :: u235 :: u236 :: u237 :: u238 :: u239 :: u240 :: u241 :: u242 :: u243 :: u244 :: u245 :: u246 :: u247 :: u248 :: u249 :: u250 :: u251 :: u252 :: u253 :: u254 :: u255 :: u256 :: u257 :: u258 :: u259 :: u260 :: u261 :: u262 :: u263 :: u264 :: []), defers := [] } w := by
  have HK : Hid (KF w sb eb hb stb N lo bnd I pl x pB pP pPP) := hk
  have HB : Hid (Below W.heap.size W w) := hB
  clear hk hB
  refine wp_tl15 (F := Yba.f3) rfl ?_
  have g0 := HK.out.g0
  have g5 := HK.out.g5
  have g2 := HK.out.g2
  have g22 := HK.out.g22
  have hl0 : sb < w.heap.size := World.block_lt_of_cell? _ _ g0
  have hl3 : N < w.heap.size := World.block_lt_of_cell? _ _ g22
  rcases HK.out.t with ⟨h22, gt⟩ | ⟨h22, tb, cap, gt, rt⟩
  · rw [h22] at g22
    have hl5 : eb < w.heap.size := World.block_lt_of_cell? _ _ gt
    go_wp2_with fail
    go_ret
    exact ⟨rfl, HB.out⟩
  · rw [h22] at g22
    have hl5 : eb < w.heap.size := World.block_lt_of_cell? _ _ gt
    have q0 := rt 0 _ rfl
    have q1 := rt 1 _ rfl
    have q2 := rt 2 _ rfl
    have q3 := rt 3 _ rfl
    have q4 := rt 4 _ rfl
    simp only [Nat.zero_add] at q0 q1 q2 q3 q4
    have hl6 : tb < w.heap.size := World.block_lt_of_cell? _ _ q0
    clear rt
    go_wp2_with fail
    go_ret
    exact ⟨ret_bool (by simp), HB.out.alloc HB.out.size _⟩
end Go.Proofs.Ybulkadqm.AK
