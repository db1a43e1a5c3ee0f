import Derived.Test.YbulkadqmX4
namespace Go.Proofs.Ybulkadqm.AK
open Go.RowKit
set_option linter.unusedSimpArgs false

/-- the candidates so far; the keys in M are still to come -/
structure Cov (W5 : World) (I : In) (C : List Bl) (M : List (Int × Nat)) : Prop where
  pos : ∀ y ∈ C, 0 < y.c ∧ key y ∈ ks I
  all : ∀ k ∈ ks I, 0 < k.1 → k ∈ M ∨ ∃ y ∈ C, key y = k
  val : ∀ x ∈ C, VAt W5 x.g x.n x.v
theorem Cov.add {W5 : World} {I : In} {C : List Bl} {M : List (Int × Nat)} (x : Bl) (h : Cov W5 I C (key x :: M)) (h0 : 0 < x.c) (hm : key x ∈ ks I) (hv : VAt W5 x.g x.n x.v) : Cov W5 I (C ++ [x]) M := by
  refine ⟨fun y hy => ?_, fun k hk h1 => ?_, fun y hy => ?_⟩
  · rcases List.mem_append.1 hy with hy | hy
    · exact h.pos y hy
    · obtain rfl := List.mem_singleton.1 hy; exact ⟨h0, hm⟩
  · rcases h.all k hk h1 with h2 | ⟨y, hy, he⟩
    · rcases List.mem_cons.1 h2 with rfl | h2
      · exact .inr ⟨x, by simp, rfl⟩
      · exact .inl h2
    · exact .inr ⟨y, by simp [hy], he⟩
  · rcases List.mem_append.1 hy with hy | hy
    · exact h.val y hy
    · obtain rfl := List.mem_singleton.1 hy; exact hv
theorem Cov.skip {W5 : World} {I : In} {C : List Bl} {k : Int × Nat} {M : List (Int × Nat)} (h : Cov W5 I C (k :: M)) (h0 : ¬ 0 < k.1) : Cov W5 I C M := by
  refine ⟨h.pos, fun k' hk h1 => ?_, h.val⟩
  rcases h.all k' hk h1 with h2 | h2
  · rcases List.mem_cons.1 h2 with rfl | h2
    · exact absurd h1 h0
    · exact .inl h2
  · exact .inr h2
/-- what stands while the candidates are gathered: C lie in the row v -/
structure RX (W W5 w : World) (N sb eb mb kb zb vg vn lo : Nat) (I : In) (pl : Value) (pB pP pPP pH pr : Option Addr) (C : List Bl) (v : Value) (M : List (Int × Nat)) : Prop where
  hb : Below W.heap.size W w
  E : EX W5 N sb eb mb kb zb vg vn lo I pl pB pP pPP pH pr
  b5 : Below W5.heap.size W5 w
  own : w.ownsRow W5.heap.size 75 2 v C.length (flat C)
  cov : Cov W5 I C M
  ok : InOk I
  len : C.length + M.length ≤ 3
  hWW : W.heap.size ≤ W5.heap.size
  hsw : W.heap.size ≤ sb
  hew : W.heap.size ≤ eb
theorem RX.skip {W W5 w : World} {N sb eb mb kb zb vg vn lo : Nat} {I : In} {pl : Value} {pB pP pPP pH pr : Option Addr} {C : List Bl} {v : Value} {k : Int × Nat} {M : List (Int × Nat)} (h : RX W W5 w N sb eb mb kb zb vg vn lo I pl pB pP pPP pH pr C v (k :: M)) (h0 : ¬ 0 < k.1) : RX W W5 w N sb eb mb kb zb vg vn lo I pl pB pP pPP pH pr C v M :=
  ⟨h.hb, h.E, h.b5, h.own, h.cov.skip h0, h.ok, by have := h.len; simp at this; omega, h.hWW, h.hsw, h.hew⟩
theorem RX.add {W W5 w w2 : World} {N sb eb mb kb zb vg vn lo : Nat} {I : In} {pl : Value} {pB pP pPP pH pr : Option Addr} {C : List Bl} {v : Value} {M : List (Int × Nat)} (x : Bl) {g cap : Nat} (o : Obj) (h : RX W W5 w N sb eb mb kb zb vg vn lo I pl pB pP pPP pH pr C v (key x :: M)) (h0 : 0 < x.c) (hm : key x ∈ ks I) (hv : VAt W5 x.g x.n x.v)
    (hown : w2.ownsRow W5.heap.size 75 2 (.slice (some ⟨g, 0, none⟩) (C.length + 1) cap) (C.length + 1) (flat C ++ x.enc)) (hg : (w.alloc o).grownBy w2 v.ownBlock) : RX W W5 w2 N sb eb mb kb zb vg vn lo I pl pB pP pPP pH pr (C ++ [x]) (.slice (some ⟨g, 0, none⟩) (C.length + 1) cap) M := by
  have hl := h.own.lt
  have bA : ∀ B, B ≤ w.heap.size → Below B w (w.alloc o) := fun B hB => (Below.refl _ w).alloc hB _
  have s1 := h.hb.size
  have s2 := h.b5.size
  have s3 : (w.alloc o).heap.size = w.heap.size + 1 := by simp [go_sem]
  refine ⟨(h.hb.trans (bA _ (by omega))).grown hg (by omega) (fun k hk => ?_), h.E, (h.b5.trans (bA _ (by omega))).grown hg (by omega) (fun k hk => (hl k hk).1), ?_, h.cov.add x h0 hm hv, h.ok, ?_, h.hWW, h.hsw, h.hew⟩
  · have := (hl k hk).1
    have := h.hWW
    omega
  · rw [flat_snoc]
    simpa using hown
  · have := h.len
    simp at this ⊢
    omega
theorem rows_of {w : World} {base : Nat} {v : Value} {C : List Bl} (h : w.ownsRow base 75 2 v C.length (flat C)) : ∃ rp cap, v = .slice rp C.length cap ∧ Hid (∀ i x, C[i]? = some x → ∃ rb, rp = some ⟨rb, 0, none⟩ ∧ rb < w.heap.size ∧ w.cell? ⟨rb, i * 2, none⟩ = some (.int .u32 x.c) ∧ w.cell? ⟨rb, i * 2 + 1, none⟩ = some (.slice (some ⟨x.g, 0, none⟩) x.n x.n)) := by
  rcases h.2 with ⟨h1, h2⟩ | ⟨g, cap, cur, h1, h2, h3, _⟩
  · refine ⟨none, 0, by rw [h1, h2], fun i x hx => ?_⟩
    rw [List.eq_nil_of_length_eq_zero h2] at hx
    simp at hx
  · refine ⟨some ⟨g, 0, none⟩, cap, h1, fun i x hx => ?_⟩
    rw [h1] at h
    have hR := row_of_owns h
    have hi : i < C.length := (List.getElem?_eq_some_iff.1 hx).1
    have e : nthB C i = x := by simp [nthB, hx]
    have := hR i hi
    rw [e] at this
    exact ⟨g, rfl, (Array.getElem?_eq_some_iff.1 h3).1, this.1, this.2.1⟩
theorem best_new (w : World) : BestAt (w.alloc (.cells #[.int .u32 0, .slice none 0 0] 75)) w.heap.size none := by
  have h : (w.alloc (.cells #[.int .u32 0, .slice none 0 0] 75)).heap[w.heap.size]? = some (.cells #[.int .u32 0, .slice none 0 0] 75 (0, 0)) := heap_at _ rfl
  refine ⟨⟨_, by rw [cell_of_row _ _ _ _ _ _ h]; rfl, fun b hb => by cases hb⟩, ⟨_, by rw [cell_of_row _ _ _ _ _ _ h]; rfl, fun b hb => by cases hb⟩, ?_, ?_⟩
  · unfold World.frozen?
    rw [h]
    simp
  · unfold World.frozen?
    rw [h]
    simp
theorem wp_tl9x {F : Func} {a0 a1 a2 a3 a4 a5 a6 a7 a8 r : Code} {P : Program} {Q : Exit → Act → World → Prop} {x : Act} {w : World} (h : F.body = some (.seq a0 (.seq a1 (.seq a2 (.seq a3 (.seq a4 (.seq a5 (.seq a6 (.seq a7 (.seq a8 (r))))))))))) (hw : Code.wp P r Q x w) : Code.wp P (tl 9 F) Q x w := by
  have e : tl 9 F = r := by unfold tl; rw [h]; rfl
  rw [e]; exact hw
set_option maxRecDepth 100000 in
set_option maxHeartbeats 6400000 in
theorem x9 (W W5 w : World) (N sb eb mb kb zb vg vn lo : Nat) (I : In) (pl v : Value) (pB pP pPP pH pr : Option Addr) (C : List Bl) (u0 u2 u10 u11 u12 u13 u14 u15 u16 u17 u18 u19 u20 u21 u22 u23 u24 u25 u26 u27 u28 u29 u30 u31 u32 u33 u34 u35 u36 u37 u38 u39 u40 u41 u42 u43 u44 u45 u46 u47 u48 u49 u50 u51 u52 u53 u54 u55 u56 u57 u58 u59 u60 u61 u62 u63 u64 u65 u66 u67 u68 u69 u70 u71 u72 u73 u74 u75 u76 u77 u78 u79 u80 u81 u82 u83 u84 u85 u86 u87 u88 u89 u90 u91 u92 u93 u94 u95 u96 u97 u98 u99 u100 u101 u102 u103 u104 u105 u106 u107 u108 u109 u110 u111 u112 u113 u114 u115 u116 u117 u118 u119 u120 u121 u122 u123 u124 u125 u126 u127 u128 u129 u130 u131 u132 u133 u134 u135 u136 u137 u138 u139 u140 u141 u142 u143 u144 u145 u146 u147 u148 u149 u150 u151 u152 u153 u154 u155 u156 u157 u158 u159 u160 u161 u162 u163 u164 u165 u166 u167 u168 u169 u170 u171 u172 u173 u174 u175 u176 u177 u178 u179 u180 u181 u182 u183 u184 u185 u186 u187 u188 u189 u190 u191 u192 u193 u194 u195 : Value) (R : Hid (RX W W5 w N sb eb mb kb zb vg vn lo I pl pB pP pPP pH pr C v [])) :
    Code.wp Yba.prog (tl 9 Yba.f4) (bodyPost Yba.prog Yba.f4 (fun e w' => e = .returned (.bool true) ∧ Below W.heap.size W w')) { tmps := List.toArray (u0 :: .pointer (some ⟨N, 0, none⟩) :: u2 :: .pointer (some ⟨sb, 0, none⟩) :: .pointer pH :: .pointer pP :: .pointer pPP :: .slice (some ⟨vg, 0, none⟩) vn vn :: .pointer pr :: v :: u10 :: u11 :: u12 :: u13 :: u14 :: u15 :: u16 :: u17 :: u18 :: u19 :: u20 :: u21 :: u22 :: u23 :: u24 :: u25 :: u26 :: u27 :: u28 :: u29 :: u30 :: u31 :: u32 :: u33 :: u34 :: u35 :: u36 :: u37 :: u38 :: u39 :: u40 :: u41 :: u42 :: u43 :: u44 :: u45 :: u46 :: u47 :: u48 :: u49 :: u50 :: u51 :: u52 :: u53 :: u54 :: u55 :: u56 :: u57 :: u58 :: u59 :: u60 :: u61 :: u62 :: u63 :: u64 :: u65 :: u66 :: u67 :: u68 :: u69 :: u70 :: u71 :: u72 :: u73 :: u74 :: u75 :: u76 :: u77 :: u78 :: u79 :: u80 :: u81 :: u82 :: u83 :: u84 :: u85 :: u86 :: u87 :: u88 :: u89 :: u90 :: u91 :: u92 :: u93 :: u94 :: u95 :: u96 :: u97 :: u98 :: u99 :: u100 :: u101 :: u102 :: u103 :: u104 :: u105 :: u106 :: u107 :: u108 :: u109 :: u110 :: u111 :: u112 :: u113 :: u114 :: u115 :: u116 :: u117 :: u118 :: u119 :: u120 :: u121 :: u122 :: u123 :: u124 :: u125 :: u126 :: u127 :: u128 :: u129 :: u130 :: u131 :: u132 :: u133 :: u134 :: u135 :: u136 :: u137 :: u138 :: u139 :: u140 :: u141 :: u142 :: u143 :: u144 :: u145 :: u146 :: u147 :: u148 :: u149 :: u150 :: u151 :: u152 :: u153 :: u154 :: u155 :: u156 :: u157 :: u158 :: u159 :: u160 :: u161 :: u162 :: u163 :: u164 :: u165 :: u166 :: u167 :: u168 :: u169 :: u170 :: u171 :: u172 :: u173 :: u174 :: u175 :: u176 :: u177 :: u178 :: u179 :: u180 :: u181 :: u182 :: u183 :: u184 :: u185 :: u186 :: u187 :: u188 :: u189 :: u190 :: u191 :: u192 :: u193 :: u194 :: u195 :: []), defers := [] } w := by
  refine wp_tl9x (F := Yba.f4) rfl ?_
  obtain ⟨rp, cap, rfl, HRow⟩ := rows_of R.out.own
  go_upto_region 13 with fail
  go_cut [11] (fun s11 wx => s11 = .pointer (some ⟨w.heap.size, 0, none⟩) ∧ Hid (wx = w.alloc (.cells #[.int .u32 0, .slice none 0 0] 75)))
  case first =>
    go_wp2_with fail
    go_meet
    exact ⟨rfl, rfl⟩
  case rest =>
    obtain ⟨rfl, HW⟩ := hcut
    go_step
    have r := R.out
    have bA : Below w.heap.size w wc := by rw [HW.out]; exact (Below.refl _ w).alloc (Nat.le_refl _) _
    have hbn : BestAt wc w.heap.size none := by rw [HW.out]; exact best_new w
    have hl := r.len
    exact x11 W W5 wc N sb eb mb kb zb vg vn lo w.heap.size cap I pl pB pP pPP pH pr rp C _ _ _ _ _ _ _ _ _ _ _ _ _ _ _ _ _ _ _ _ _ _ _ _ _ _ _ _ _ _ _ _ _ _ _ _ _ _ _ _ _ _ _ _ _ _ _ _ _ _ _ _ _ _ _ _ _ _ _ _ _ _ _ _ _ _ _ _ _ _ _ _ _ _ _ _ _ _ _ _ _ _ _ _ _ _ _ _ _ _ _ _ _ _ _ _ _ _ _ _ _ _ _ _ _ _ _ _ _ _ _ _ _ _ _ _ _ _ _ _ _ _ _ _ _ _ _ _ _ _ _ _ _ _ _ _ _ _ _ _ _ _ _ _ _ _ _ _ _ _ _ _ _ _ _ _ _ _ _ _ _ _ _ _ _ _ _ _ _ _ _ _ _ _ _ _ _ _ _ _ _ _ _ _ _ _ (r.hb.trans (bA.mono r.hb.size)) r.E (r.b5.trans (bA.mono r.b5.size)) r.b5.size (fun i x hx => by
      obtain ⟨rb, h1, h2, h3, h4⟩ := HRow.out i x hx
      exact ⟨rb, h1, by omega, below_keep bA h3, below_keep bA h4⟩) r.cov.val hbn r.ok r.cov.pos (fun k hk h0 => by
      rcases r.cov.all k hk h0 with h | h
      · cases h
      · exact h) (by simp at hl; omega) r.hWW r.hsw r.hew
end Go.Proofs.Ybulkadqm.AK
