import Derived.Test.YbulkadqmX3
namespace Go.Proofs.Ybulkadqm.AK
open Go.RowKit
set_option linter.unusedSimpArgs false

/-- is the candidate the new best -/
def takes (o : Option Bl) (x : Bl) : Bool := match o with
  | none => true
  | some b => decide (0 < cmpB x.c x.v b.c b.v)
theorem bstep_takes {ok : Bl → Bool} {o : Option Bl} {x : Bl} (h : ok x = true) : bstep ok o x = if takes o x = true then some x else o := by
  unfold bstep takes
  rw [h]
  cases o with
  | none => rfl
  | some b => by_cases h : 0 < cmpB x.c x.v b.c b.v <;> simp [h]
theorem best_mem {ok : Bl → Bool} {C : List Bl} {i : Nat} {b : Bl} (h : some b = best ok (C.take i)) : b ∈ C := by
  rcases best_spec ok (C.take i).length (C.take i) rfl with ⟨h1, _⟩ | ⟨b', h1, h2, _⟩
  · rw [h1] at h; cases h
  · rw [h1] at h
    obtain rfl : b = b' := by simpa using h
    exact List.mem_of_mem_take h2
theorem wp_tl11x {F : Func} {a0 a1 a2 a3 a4 a5 a6 a7 a8 a9 a10 r : Code} {P : Program} {Q : Exit → Act → World → Prop} {x : Act} {w : World} (h : F.body = some (.seq a0 (.seq a1 (.seq a2 (.seq a3 (.seq a4 (.seq a5 (.seq a6 (.seq a7 (.seq a8 (.seq a9 (.seq a10 (r))))))))))))) (hw : Code.wp P r Q x w) : Code.wp P (tl 11 F) Q x w := by
  have e : tl 11 F = r := by unfold tl; rw [h]; rfl
  rw [e]; exact hw
set_option maxRecDepth 100000 in
set_option maxHeartbeats 6400000 in
theorem x11 (W W5 w : World) (N sb eb mb kb zb vg vn lo bk cap : Nat) (I : In) (pl : Value) (pB pP pPP pH pr rp : Option Addr) (C : List Bl) (u0 u2 u12 u13 u14 u15 u16 u17 u18 u19 u20 u21 u22 u23 u24 u25 u26 u27 u28 u29 u30 u31 u32 u33 u34 u35 u36 u37 u38 u39 u40 u41 u42 u43 u44 u45 u46 u47 u48 u49 u50 u51 u52 u53 u54 u55 u56 u57 u58 u59 u60 u61 u62 u63 u64 u65 u66 u67 u68 u69 u70 u71 u72 u73 u74 u75 u76 u77 u78 u79 u80 u81 u82 u83 u84 u85 u86 u87 u88 u89 u90 u91 u92 u93 u94 u95 u96 u97 u98 u99 u100 u101 u102 u103 u104 u105 u106 u107 u108 u109 u110 u111 u112 u113 u114 u115 u116 u117 u118 u119 u120 u121 u122 u123 u124 u125 u126 u127 u128 u129 u130 u131 u132 u133 u134 u135 u136 u137 u138 u139 u140 u141 u142 u143 u144 u145 u146 u147 u148 u149 u150 u151 u152 u153 u154 u155 u156 u157 u158 u159 u160 u161 u162 u163 u164 u165 u166 u167 u168 u169 u170 u171 u172 u173 u174 u175 u176 u177 u178 u179 u180 u181 u182 u183 u184 u185 u186 u187 u188 u189 u190 u191 u192 u193 u194 u195 : Value) (HB : Hid (Below W.heap.size W w)) (E : EX W5 N sb eb mb kb zb vg vn lo I pl pB pP pPP pH pr) (hB5 : Below W5.heap.size W5 w) (hbk : W5.heap.size ≤ bk) (hrow : ∀ i x, C[i]? = some x → ∃ rb, rp = some ⟨rb, 0, none⟩ ∧ rb ≠ bk ∧ w.cell? ⟨rb, i * 2, none⟩ = some (.int .u32 x.c) ∧ w.cell? ⟨rb, i * 2 + 1, none⟩ = some (.slice (some ⟨x.g, 0, none⟩) x.n x.n)) (hval : ∀ x ∈ C, VAt W5 x.g x.n x.v) (hbest : BestAt w bk none) (ok : InOk I) (hC1 : ∀ y ∈ C, 0 < y.c ∧ key y ∈ ks I) (hC2 : ∀ k ∈ ks I, 0 < k.1 → ∃ y ∈ C, key y = k) (hlen : C.length ≤ 100) (hWW : W.heap.size ≤ W5.heap.size) (hsw : W.heap.size ≤ sb) (hew : W.heap.size ≤ eb) :
    Code.wp Yba.prog (tl 11 Yba.f4) (bodyPost Yba.prog Yba.f4 (fun e w' => e = .returned (.bool true) ∧ Below W.heap.size W w')) { tmps := List.toArray (u0 :: .pointer (some ⟨N, 0, none⟩) :: u2 :: .pointer (some ⟨sb, 0, none⟩) :: .pointer pH :: .pointer pP :: .pointer pPP :: .slice (some ⟨vg, 0, none⟩) vn vn :: .pointer pr :: .slice rp C.length cap :: .bool false :: .pointer (some ⟨bk, 0, none⟩) :: u12 :: u13 :: u14 :: u15 :: u16 :: u17 :: u18 :: u19 :: u20 :: u21 :: u22 :: u23 :: u24 :: u25 :: u26 :: u27 :: u28 :: u29 :: u30 :: u31 :: u32 :: u33 :: u34 :: u35 :: u36 :: u37 :: u38 :: u39 :: u40 :: u41 :: u42 :: u43 :: u44 :: u45 :: u46 :: u47 :: u48 :: u49 :: u50 :: u51 :: u52 :: u53 :: u54 :: u55 :: u56 :: u57 :: u58 :: u59 :: u60 :: u61 :: u62 :: u63 :: u64 :: u65 :: u66 :: u67 :: u68 :: u69 :: u70 :: u71 :: u72 :: u73 :: u74 :: u75 :: u76 :: u77 :: u78 :: u79 :: u80 :: u81 :: u82 :: u83 :: u84 :: u85 :: u86 :: u87 :: u88 :: u89 :: u90 :: u91 :: u92 :: u93 :: u94 :: u95 :: u96 :: u97 :: u98 :: u99 :: u100 :: u101 :: u102 :: u103 :: u104 :: u105 :: u106 :: u107 :: u108 :: u109 :: u110 :: u111 :: u112 :: u113 :: u114 :: u115 :: u116 :: u117 :: u118 :: u119 :: u120 :: u121 :: u122 :: u123 :: u124 :: u125 :: u126 :: u127 :: u128 :: u129 :: u130 :: u131 :: u132 :: u133 :: u134 :: u135 :: u136 :: u137 :: u138 :: u139 :: u140 :: u141 :: u142 :: u143 :: u144 :: u145 :: u146 :: u147 :: u148 :: u149 :: u150 :: u151 :: u152 :: u153 :: u154 :: u155 :: u156 :: u157 :: u158 :: u159 :: u160 :: u161 :: u162 :: u163 :: u164 :: u165 :: u166 :: u167 :: u168 :: u169 :: u170 :: u171 :: u172 :: u173 :: u174 :: u175 :: u176 :: u177 :: u178 :: u179 :: u180 :: u181 :: u182 :: u183 :: u184 :: u185 :: u186 :: u187 :: u188 :: u189 :: u190 :: u191 :: u192 :: u193 :: u194 :: u195 :: []), defers := [] } w := by
  refine wp_tl11x (F := Yba.f4) rfl ?_
  have HE : Hid (EX W5 N sb eb mb kb zb vg vn lo I pl pB pP pPP pH pr) := E
  have HB5 : Hid (Below W5.heap.size W5 w) := hB5
  have HRow : Hid (∀ i x, C[i]? = some x → ∃ rb, rp = some ⟨rb, 0, none⟩ ∧ rb ≠ bk ∧ w.cell? ⟨rb, i * 2, none⟩ = some (.int .u32 x.c) ∧ w.cell? ⟨rb, i * 2 + 1, none⟩ = some (.slice (some ⟨x.g, 0, none⟩) x.n x.n)) := hrow
  have HVal : Hid (∀ x ∈ C, VAt W5 x.g x.n x.v) := hval
  have HBest : Hid (BestAt w bk none) := hbest
  have HOk : Hid (InOk I) := ok
  have HC1 : Hid (∀ y ∈ C, 0 < y.c ∧ key y ∈ ks I) := hC1
  have HC2 : Hid (∀ k ∈ ks I, 0 < k.1 → ∃ y ∈ C, key y = k) := hC2
  clear E hB5 hrow hval hbest ok hC1 hC2
  obtain ⟨okf, OKF⟩ : ∃ okf, Hid (okf = (okE I.f19 I.f20 (I.f21 % 3).toNat (okx I 0))) := ⟨_, rfl⟩
  go_wp2_with fail
  go_loopg [80, 10] C.length (fun g s80 s10 wr => ∃ (i : Nat) (o : Option Bl), s80 = .int .i64 i ∧ s10 = .bool o.isSome ∧ i ≤ C.length ∧ g = C.length - i ∧ Hid (o = best okf (C.take i)) ∧ Hid (Chg bk w wr) ∧ Hid (BestAt wr bk o))
  case atStart => exact ⟨0, none, by simp, rfl, by omega, by omega, rfl, Chg.refl _ _, HBest.out⟩
  case round =>
    obtain ⟨i, o, rfl, rfl, hiL, hgk, HO, HCh, HBs⟩ := hrel
    have HBr : Hid (Below W5.heap.size W5 wr) := HCh.out.below HB5.out hbk HB5.out.size
    by_cases hlt : i < C.length
    · obtain ⟨x, hx⟩ : ∃ x, C[i]? = some x := ⟨C[i], by simp [hlt]⟩
      obtain ⟨rb, hp, hrb, x0, x1⟩ := HRow.out i x hx
      replace x0 := HCh.out.cell hrb x0
      replace x1 := HCh.out.cell hrb x1
      have HXV : Hid (VAt wr x.g x.n x.v) := (HVal.out x (List.mem_of_getElem? hx)).below HBr.out
      have HST : Hid (best okf (C.take (i + 1)) = bstep okf (best okf (C.take i)) x) := best_take hx
      have hrb2 : rb < wr.heap.size := World.block_lt_of_cell? _ _ x0
      have hi0 : (0 : Int) ≤ (i : Int) := by omega
      have hi1 : (i : Int) < (C.length : Int) := by omega
      subst hp
      clear hx
      go_upto_region 17 with fail
      have EB : Hid (boxed wr x.c x.g x.n = wr.alloc (.cells #[.int .u32 x.c, .slice (some ⟨x.g, 0, none⟩) x.n x.n] 75)) := rfl
      rw [← EB.out]
      have HB2 : Hid (Below wr.heap.size wr (boxed wr x.c x.g x.n)) := boxed_below ..
      have t0 := (boxed_at wr x.c x.g x.n).1
      have t1 := (boxed_at wr x.c x.g x.n).2
      generalize boxed wr x.c x.g x.n = w2 at *
      clear EB x0 x1
      have HE2 : Hid (EX w2 N sb eb mb kb zb vg vn lo I pl pB pP pPP pH pr) := HE.out.below (HBr.out.trans (HB2.out.mono HBr.out.size))
      have HXV2 : Hid (VAt w2 x.g x.n x.v) := HXV.out.below HB2.out
      go_cut [93] (fun s93 wx => s93 = .bool (I.f19 && decide (cmpB x.c x.v I.f20 (I.f21 % 3).toNat ≤ 0)) ∧ Hid (Below w2.heap.size w2 wx))
      case first =>
        as_aux_lemma =>
        rcases HE2.out.ph with ⟨h19, rfl⟩ | ⟨h19, bh, gh, nh, rfl, hHB, _⟩
        · refine wp_region_held_drew (S := fun w' => w'.cell? ⟨wr.heap.size, 0, none⟩ = some (.int .u32 x.c) ∧ w'.cell? ⟨wr.heap.size, 1, none⟩ = some (.slice (some ⟨x.g, 0, none⟩) x.n x.n)) (by kernel_rfl) ⟨t0, t1⟩ (fun hHeld => ?_)
          refine wpAnyH_take (i := 0) (v := ?v0a17) rfl (by kernel_rfl) (by kernel_rfl) (by kernel_rfl) (fun _ _ _ h => h) (Or.inl ⟨by rfl, ?hy0a17⟩) (by assumption) ?rest0a17
          case hy0a17 => (intro w hSw; (try dsimp only at hSw); go_simp) <;> (try with_reducible rfl)
          simp only [Act.put, List.getElem_toArray, List.getElem_cons_zero, List.getElem_cons_succ, List.setIfInBounds_toArray, List.set_cons_zero, List.set_cons_succ]
          refine wpAnyH_take (i := 1) (v := ?v1a17) rfl (by kernel_rfl) (by kernel_rfl) (by kernel_rfl) (fun _ _ _ h => h) (Or.inl ⟨by rfl, ?hy1a17⟩) (by assumption) ?rest1a17
          case hy1a17 => (intro w hSw; (try dsimp only at hSw); go_simp) <;> (try with_reducible rfl)
          simp only [Act.put, List.getElem_toArray, List.getElem_cons_zero, List.getElem_cons_succ, List.setIfInBounds_toArray, List.set_cons_zero, List.set_cons_succ]
          refine wpAnyH_take (i := 2) (v := ?v2a17) rfl (by kernel_rfl) (by kernel_rfl) (by kernel_rfl) (fun _ _ _ h => h) (Or.inl ⟨by rfl, ?hy2a17⟩) (by assumption) ?rest2a17
          case hy2a17 => (intro w hSw; (try dsimp only at hSw); go_simp) <;> (try with_reducible rfl)
          simp only [Act.put, List.getElem_toArray, List.getElem_cons_zero, List.getElem_cons_succ, List.setIfInBounds_toArray, List.set_cons_zero, List.set_cons_succ]
          refine wpAnyH_take (i := 3) (v := undef) rfl (by kernel_rfl) (by kernel_rfl) (by kernel_rfl) (fun _ _ _ h => h) (Or.inr ⟨by rfl, rfl⟩) (by assumption) ?_
          simp only [Act.put, List.getElem_toArray, List.getElem_cons_zero, List.getElem_cons_succ, List.setIfInBounds_toArray, List.set_cons_zero, List.set_cons_succ]
          refine wpAnyH_take (i := 4) (v := undef) rfl (by kernel_rfl) (by kernel_rfl) (by kernel_rfl) (fun _ _ _ h => h) (Or.inr ⟨by rfl, rfl⟩) (by assumption) ?_
          simp only [Act.put, List.getElem_toArray, List.getElem_cons_zero, List.getElem_cons_succ, List.setIfInBounds_toArray, List.set_cons_zero, List.set_cons_succ]
          refine wpAnyH_take (i := 5) (v := undef) rfl (by kernel_rfl) (by kernel_rfl) (by kernel_rfl) (fun _ _ _ h => h) (Or.inr ⟨by rfl, rfl⟩) (by assumption) ?_
          simp only [Act.put, List.getElem_toArray, List.getElem_cons_zero, List.getElem_cons_succ, List.setIfInBounds_toArray, List.set_cons_zero, List.set_cons_succ]
          refine wpAnyH_take (i := 6) (v := undef) rfl (by kernel_rfl) (by kernel_rfl) (by kernel_rfl) (fun _ _ _ h => h) (Or.inr ⟨by rfl, rfl⟩) (by assumption) ?_
          simp only [Act.put, List.getElem_toArray, List.getElem_cons_zero, List.getElem_cons_succ, List.setIfInBounds_toArray, List.set_cons_zero, List.set_cons_succ]
          refine wpAnyH_take (i := 7) (v := undef) rfl (by kernel_rfl) (by kernel_rfl) (by kernel_rfl) (fun _ _ _ h => h) (Or.inr ⟨by rfl, rfl⟩) (by assumption) ?_
          simp only [Act.put, List.getElem_toArray, List.getElem_cons_zero, List.getElem_cons_succ, List.setIfInBounds_toArray, List.set_cons_zero, List.set_cons_succ]
          refine wpAnyH_take (i := 8) (v := undef) rfl (by kernel_rfl) (by kernel_rfl) (by kernel_rfl) (fun _ _ _ h => h) (Or.inr ⟨by rfl, rfl⟩) (by assumption) ?_
          simp only [Act.put, List.getElem_toArray, List.getElem_cons_zero, List.getElem_cons_succ, List.setIfInBounds_toArray, List.set_cons_zero, List.set_cons_succ]
          refine wpAnyH_take (i := 9) (v := ?v9a17) rfl (by kernel_rfl) (by kernel_rfl) (by kernel_rfl) (fun _ _ _ h => h) (Or.inl ⟨by rfl, ?hy9a17⟩) (by assumption) ?rest9a17
          case hy9a17 => (intro w hSw; (try dsimp only at hSw); go_simp) <;> (try with_reducible rfl)
          simp only [Act.put, List.getElem_toArray, List.getElem_cons_zero, List.getElem_cons_succ, List.setIfInBounds_toArray, List.set_cons_zero, List.set_cons_succ]
          refine wpAnyH_done (by kernel_rfl) ?_ _
          go_wp2_with fail
          go_meet
          exact ⟨by simp [h19], below_drewN (Below.refl _ _) _⟩
        · have b0 := hHB.c0
          have b1 := hHB.c1
          have HKc : Hid (∀ q, Calls Yba.prog 9 #[.agg #[.int .u32 x.c, .slice (some ⟨x.g, 0, none⟩) x.n x.n], .agg #[.int .u32 I.f20, .slice (some ⟨gh, 0, none⟩) nh nh]] (w2.drewN q) fun e w' => e = .returned (.int .i64 (cmpB x.c x.v I.f20 (I.f21 % 3).toNat)) ∧ Below w2.heap.size w2 w') := fun q => acmp_at HXV2.out hHB.val q
          clear hHB
          refine wp_region_held_drew (S := fun w' => w'.cell? ⟨wr.heap.size, 0, none⟩ = some (.int .u32 x.c) ∧ w'.cell? ⟨wr.heap.size, 1, none⟩ = some (.slice (some ⟨x.g, 0, none⟩) x.n x.n) ∧ w'.cell? ⟨bh, 0, none⟩ = some (.int .u32 I.f20) ∧ w'.cell? ⟨bh, 1, none⟩ = some (.slice (some ⟨gh, 0, none⟩) nh nh)) (by kernel_rfl) ⟨t0, t1, b0, b1⟩ (fun hHeld => ?_)
          refine wpAnyH_take (i := 0) (v := ?v0b17) rfl (by kernel_rfl) (by kernel_rfl) (by kernel_rfl) (fun _ _ _ h => h) (Or.inl ⟨by rfl, ?hy0b17⟩) (by assumption) ?rest0b17
          case hy0b17 => (intro w hSw; (try dsimp only at hSw); go_simp) <;> (try with_reducible rfl)
          simp only [Act.put, List.getElem_toArray, List.getElem_cons_zero, List.getElem_cons_succ, List.setIfInBounds_toArray, List.set_cons_zero, List.set_cons_succ]
          refine wpAnyH_take (i := 1) (v := ?v1b17) rfl (by kernel_rfl) (by kernel_rfl) (by kernel_rfl) (fun _ _ _ h => h) (Or.inl ⟨by rfl, ?hy1b17⟩) (by assumption) ?rest1b17
          case hy1b17 => (intro w hSw; (try dsimp only at hSw); go_simp) <;> (try with_reducible rfl)
          simp only [Act.put, List.getElem_toArray, List.getElem_cons_zero, List.getElem_cons_succ, List.setIfInBounds_toArray, List.set_cons_zero, List.set_cons_succ]
          refine wpAnyH_take (i := 2) (v := ?v2b17) rfl (by kernel_rfl) (by kernel_rfl) (by kernel_rfl) (fun _ _ _ h => h) (Or.inl ⟨by rfl, ?hy2b17⟩) (by assumption) ?rest2b17
          case hy2b17 => (intro w hSw; (try dsimp only at hSw); go_simp) <;> (try with_reducible rfl)
          simp only [Act.put, List.getElem_toArray, List.getElem_cons_zero, List.getElem_cons_succ, List.setIfInBounds_toArray, List.set_cons_zero, List.set_cons_succ]
          refine wpAnyH_take (i := 3) (v := ?v3b17) rfl (by kernel_rfl) (by kernel_rfl) (by kernel_rfl) (fun _ _ _ h => h) (Or.inl ⟨by rfl, ?hy3b17⟩) (by assumption) ?rest3b17
          case hy3b17 => (intro w hSw; (try dsimp only at hSw); go_simp) <;> (try with_reducible rfl)
          simp only [Act.put, List.getElem_toArray, List.getElem_cons_zero, List.getElem_cons_succ, List.setIfInBounds_toArray, List.set_cons_zero, List.set_cons_succ]
          refine wpAnyH_take (i := 4) (v := ?v4b17) rfl (by kernel_rfl) (by kernel_rfl) (by kernel_rfl) (fun _ _ _ h => h) (Or.inl ⟨by rfl, ?hy4b17⟩) (by assumption) ?rest4b17
          case hy4b17 => (intro w hSw; (try dsimp only at hSw); go_simp) <;> (try with_reducible rfl)
          simp only [Act.put, List.getElem_toArray, List.getElem_cons_zero, List.getElem_cons_succ, List.setIfInBounds_toArray, List.set_cons_zero, List.set_cons_succ]
          refine wpAnyH_take (i := 5) (v := ?v5b17) rfl (by kernel_rfl) (by kernel_rfl) (by kernel_rfl) (fun _ _ _ h => h) (Or.inl ⟨by rfl, ?hy5b17⟩) (by assumption) ?rest5b17
          case hy5b17 => (intro w hSw; (try dsimp only at hSw); go_simp) <;> (try with_reducible rfl)
          simp only [Act.put, List.getElem_toArray, List.getElem_cons_zero, List.getElem_cons_succ, List.setIfInBounds_toArray, List.set_cons_zero, List.set_cons_succ]
          refine wpAnyH_take (i := 6) (v := ?v6b17) rfl (by kernel_rfl) (by kernel_rfl) (by kernel_rfl) (fun _ _ _ h => h) (Or.inl ⟨by rfl, ?hy6b17⟩) (by assumption) ?rest6b17
          case hy6b17 => (intro w hSw; (try dsimp only at hSw); go_simp) <;> (try with_reducible rfl)
          simp only [Act.put, List.getElem_toArray, List.getElem_cons_zero, List.getElem_cons_succ, List.setIfInBounds_toArray, List.set_cons_zero, List.set_cons_succ]
          refine wpAnyH_ready (rs := [7]) (by kernel_rfl) (by simp) ?_
          refine AllReadyH.cons rfl (fun K hK => ?_) AllReadyH.nil
          rw [if_pos (by rfl)]
          go_simp
          refine (HKc.out 1).mono ?_
          rintro e w5 ⟨rfl, hbl⟩
          refine hK.out _ _ ⟨below_keep hbl t0, below_keep hbl t1, below_keep hbl b0, below_keep hbl b1⟩ (fun hHeld2 => ?_)
          clear hK K hHeld
          refine wpAnyH_take (i := 8) (v := ?v8b17) rfl (by kernel_rfl) (by kernel_rfl) (by kernel_rfl) (fun _ _ _ h => h) (Or.inl ⟨by rfl, ?hy8b17⟩) (by assumption) ?rest8b17
          case hy8b17 => (intro w hSw; (try dsimp only at hSw); go_simp) <;> (try with_reducible rfl)
          simp only [Act.put, List.getElem_toArray, List.getElem_cons_zero, List.getElem_cons_succ, List.setIfInBounds_toArray, List.set_cons_zero, List.set_cons_succ]
          refine wpAnyH_take (i := 9) (v := ?v9b17) rfl (by kernel_rfl) (by kernel_rfl) (by kernel_rfl) (fun _ _ _ h => h) (Or.inl ⟨by rfl, ?hy9b17⟩) (by assumption) ?rest9b17
          case hy9b17 => (intro w hSw; (try dsimp only at hSw); go_simp) <;> (try with_reducible rfl)
          simp only [Act.put, List.getElem_toArray, List.getElem_cons_zero, List.getElem_cons_succ, List.setIfInBounds_toArray, List.set_cons_zero, List.set_cons_succ]
          refine wpAnyH_done (by kernel_rfl) ?_ _
          go_wp2_with fail
          go_meet
          exact ⟨by simp [h19], hbl⟩
      case rest =>
        obtain ⟨rfl, HB3⟩ := hcut
        have HBrc : Hid (Below wr.heap.size wr wc) := HB2.out.trans (HB3.out.mono HB2.out.size)
        have HE3 : Hid (EX wc N sb eb mb kb zb vg vn lo I pl pB pP pPP pH pr) := HE2.out.below HB3.out
        have HXV3 : Hid (VAt wc x.g x.n x.v) := HXV2.out.below HB3.out
        have HCh3 : Hid (Chg bk w wc) := HCh.out.trans (Chg.of_below HBrc.out)
        have HBs3 : Hid (BestAt wc bk o) := HBs.out.below HBrc.out
        replace t0 := below_keep HB3.out t0
        replace t1 := below_keep HB3.out t1
        have HX : Hid (okf x = (!(I.f19 && decide (cmpB x.c x.v I.f20 (I.f21 % 3).toNat ≤ 0)) && ((cov I.f13 I.f14 (I.f15 % 3).toNat x.c x.v || cov I.f16 I.f17 (I.f18 % 3).toNat x.c x.v) && accP I.f5 I.f6 (I.f7 % 3).toNat I.f8 I.f9 (I.f4 % 3).toNat x.c x.v))) := by
          show okf x = _
          rw [OKF.out]
          rfl
        clear HE2 HXV2 HB2 HB3 HXV HBrc HBs HCh
        generalize (I.f19 && decide (cmpB x.c x.v I.f20 (I.f21 % 3).toNat ≤ 0)) = b1 at *
        cases b1 with
        | true =>
          go_wp2_with fail
          go_roundg (C.length - (i + 1))
          case rel => exact ⟨i + 1, o, by go_num, rfl, by omega, rfl, by (show o = _); rw [HST.out, ← HO.out]; unfold bstep; rw [HX.out]; rfl, HCh3.out, HBs3.out⟩
          case measure => omega
        | false =>
          have HC10a : Hid (Calls Yba.prog 10 #[.pointer pP, .agg #[.int .u32 x.c, .slice (some ⟨x.g, 0, none⟩) x.n x.n]] wc fun e w' => e = .returned (.bool (cov I.f13 I.f14 (I.f15 % 3).toNat x.c x.v)) ∧ Below wc.heap.size wc w') := acov_any pP lo _ _ _ x.c x.g x.n x.v wc HE3.out.pp HXV3.out
          have HC10b : Hid (∀ w', Below wc.heap.size wc w' → Calls Yba.prog 10 #[.pointer pPP, .agg #[.int .u32 x.c, .slice (some ⟨x.g, 0, none⟩) x.n x.n]] w' fun e w'' => e = .returned (.bool (cov I.f16 I.f17 (I.f18 % 3).toNat x.c x.v)) ∧ Below wc.heap.size wc w'') := fun w' hb' => by
            refine (acov_any pPP lo _ _ _ x.c x.g x.n x.v w' (HE3.out.ppp.below hb') (HXV3.out.below hb')).mono ?_
            rintro e w'' ⟨he, h2⟩
            exact ⟨he, hb'.trans (h2.mono hb'.size)⟩
          go_upto_region 18 with fail
          go_cut [103] (fun s wx => s = .bool (!(cov I.f13 I.f14 (I.f15 % 3).toNat x.c x.v || cov I.f16 I.f17 (I.f18 % 3).toNat x.c x.v)) ∧ Hid (Below wc.heap.size wc wx))
          case first =>
            as_aux_lemma =>
            generalize cov I.f13 I.f14 (I.f15 % 3).toNat x.c x.v = b1 at *
            generalize cov I.f16 I.f17 (I.f18 % 3).toNat x.c x.v = b2 at *
            cases b1 with
            | true =>
              go_wp2_with (first | (go_at_call 10; refine HC10a.out.mono ?_; rintro e w5 ⟨rfl, hb5⟩; clear HC10a HC10b) | fail)
              go_meet
              exact ⟨rfl, hb5⟩
            | false =>
              go_wp2_with (first | (go_at_call 10; refine HC10a.out.mono ?_; rintro e w5 ⟨rfl, hb5⟩; have z0 := below_keep hb5 t0; have z1 := below_keep hb5 t1; have HC3 := HC10b.out w5 hb5; have HC4 : Hid (Calls Yba.prog 10 #[.pointer pPP, .agg #[.int .u32 x.c, .slice (some ⟨x.g, 0, none⟩) x.n x.n]] w5 fun e w'' => e = .returned (.bool b2) ∧ Below wc.heap.size wc w'') := HC3; clear HC10a HC10b HC3) | (go_at_call 10; refine HC4.out.mono ?_; rintro e w6 ⟨rfl, hb6⟩; clear HC4) | fail)
              go_meet
              exact ⟨by simp, hb6⟩
          case rest =>
            obtain ⟨rfl, HB4⟩ := hcut
            have HE4 : Hid (EX wc N sb eb mb kb zb vg vn lo I pl pB pP pPP pH pr) := HE3.out.below HB4.out
            have HXV4 : Hid (VAt wc x.g x.n x.v) := HXV3.out.below HB4.out
            have HCh4 : Hid (Chg bk w wc) := HCh3.out.trans (Chg.of_below HB4.out)
            have HBs4 : Hid (BestAt wc bk o) := HBs3.out.below HB4.out
            replace t0 := below_keep HB4.out t0
            replace t1 := below_keep HB4.out t1
            clear HE3 HXV3 HB4 HCh3 HBs3 HC10a HC10b
            generalize (cov I.f13 I.f14 (I.f15 % 3).toNat x.c x.v || cov I.f16 I.f17 (I.f18 % 3).toNat x.c x.v) = b2 at *
            cases b2 with
            | false =>
              go_wp2_with fail
              go_roundg (C.length - (i + 1))
              case rel => exact ⟨i + 1, o, by go_num, rfl, by omega, rfl, by (show o = _); rw [HST.out, ← HO.out]; unfold bstep; rw [HX.out]; rfl, HCh4.out, HBs4.out⟩
              case measure => omega
            | true =>
              have d8 : wc.cell? ⟨N, 8, none⟩ = some (.int .u32 I.f8) := HE4.out.ri 8 _ rfl
              have d9 : wc.cell? ⟨N, 9, none⟩ = some (.int .u32 I.f9) := HE4.out.ri 9 _ rfl
              have hlN : N < wc.heap.size := World.block_lt_of_cell? _ _ d8
              have hlx : wr.heap.size < wc.heap.size := World.block_lt_of_cell? _ _ t0
              have HP : Hid (Calls Yba.prog 10 #[.pointer pr, .agg #[.int .u32 x.c, .slice (some ⟨x.g, 0, none⟩) x.n x.n]] wc fun e w' => e = .returned (.bool (cov I.f5 I.f6 (I.f7 % 3).toNat x.c x.v)) ∧ Below wc.heap.size wc w') := acov_any pr lo _ _ _ x.c x.g x.n x.v wc HE4.out.pr HXV4.out
              have HQ : Hid (∀ w', Below wc.heap.size wc w' → Calls Yba.prog 14 #[.slice (some ⟨x.g, 0, none⟩) x.n x.n, .slice (some ⟨vg, 0, none⟩) vn vn] w' fun e w'' => e = .returned (.bool (decide (x.v = (I.f4 % 3).toNat))) ∧ w'' = w') := fun w' hb' => equal_walk x.g x.n x.v vg vn _ w' (HXV4.out.below hb') (HE4.out.sv.below hb')
              go_upto_region 19 with fail
              go_cut [14] (fun s wx => s = .bool (accP I.f5 I.f6 (I.f7 % 3).toNat I.f8 I.f9 (I.f4 % 3).toNat x.c x.v) ∧ Hid (Below wc.heap.size wc wx))
              case first =>
                as_aux_lemma =>
                have HAcc : Hid (accP I.f5 I.f6 (I.f7 % 3).toNat I.f8 I.f9 (I.f4 % 3).toNat x.c x.v = (cov I.f5 I.f6 (I.f7 % 3).toNat x.c x.v || decide (x.c < I.f8) || (decide (0 < I.f9) && (decide (x.v = (I.f4 % 3).toNat) && decide (x.c ≤ I.f9))))) := by
                  show accP I.f5 I.f6 (I.f7 % 3).toNat I.f8 I.f9 (I.f4 % 3).toNat x.c x.v = _
                  unfold accP
                  have e : cov true I.f9 (I.f4 % 3).toNat x.c x.v = (decide (x.v = (I.f4 % 3).toNat) && decide (x.c ≤ I.f9)) := by
                    unfold cov
                    rw [Bool.true_and]
                    congr 1
                    exact decide_eq_decide.2 ⟨Eq.symm, Eq.symm⟩
                  rw [e]
                clear HX HST HO
                generalize cov I.f5 I.f6 (I.f7 % 3).toNat x.c x.v = b0 at *
                generalize decide (x.v = (I.f4 % 3).toNat) = b4 at *
                cases b0 with
                | true =>
                  go_wp2_with (first | (go_at_call 10; refine HP.out.mono ?_; rintro e w5 ⟨rfl, hb5⟩; have z0 := below_keep hb5 t0; have z1 := below_keep hb5 t1; have z8 := below_keep hb5 d8; have z9 := below_keep hb5 d9; have hlz : wr.heap.size < w5.heap.size := World.block_lt_of_cell? _ _ z0; have hlz2 : N < w5.heap.size := World.block_lt_of_cell? _ _ z8; have HQ5 := HQ.out w5 hb5; have HQ6 : Hid (Calls Yba.prog 14 #[.slice (some ⟨x.g, 0, none⟩) x.n x.n, .slice (some ⟨vg, 0, none⟩) vn vn] w5 fun e w'' => e = .returned (.bool b4) ∧ w'' = w5) := HQ5; clear HP HQ HQ5) | fail)
                  go_meet
                  exact ⟨by rw [HAcc.out]; simp, hb5⟩
                | false =>
                  by_cases h1 : x.c < I.f8
                  · go_wp2_with (first | (go_at_call 10; refine HP.out.mono ?_; rintro e w5 ⟨rfl, hb5⟩; have z0 := below_keep hb5 t0; have z1 := below_keep hb5 t1; have z8 := below_keep hb5 d8; have z9 := below_keep hb5 d9; have hlz : wr.heap.size < w5.heap.size := World.block_lt_of_cell? _ _ z0; have hlz2 : N < w5.heap.size := World.block_lt_of_cell? _ _ z8; have HQ5 := HQ.out w5 hb5; have HQ6 : Hid (Calls Yba.prog 14 #[.slice (some ⟨x.g, 0, none⟩) x.n x.n, .slice (some ⟨vg, 0, none⟩) vn vn] w5 fun e w'' => e = .returned (.bool b4) ∧ w'' = w5) := HQ5; clear HP HQ HQ5) | fail)
                    go_meet
                    exact ⟨by rw [HAcc.out]; simp [h1], hb5⟩
                  · have h1' : decide (x.c < I.f8) = false := decide_eq_false h1
                    by_cases h2 : 0 < I.f9
                    · cases b4 with
                      | false =>
                        go_wp2_with (first | (go_at_call 10; refine HP.out.mono ?_; rintro e w5 ⟨rfl, hb5⟩; have z0 := below_keep hb5 t0; have z1 := below_keep hb5 t1; have z8 := below_keep hb5 d8; have z9 := below_keep hb5 d9; have hlz : wr.heap.size < w5.heap.size := World.block_lt_of_cell? _ _ z0; have hlz2 : N < w5.heap.size := World.block_lt_of_cell? _ _ z8; have HQ5 := HQ.out w5 hb5; have HQ6 : Hid (Calls Yba.prog 14 #[.slice (some ⟨x.g, 0, none⟩) x.n x.n, .slice (some ⟨vg, 0, none⟩) vn vn] w5 fun e w'' => e = .returned (.bool false) ∧ w'' = w5) := HQ5; clear HP HQ HQ5) | (go_at_call 14; refine HQ6.out.mono ?_; rintro e w6 ⟨rfl, rfl⟩; clear HQ6) | fail)
                        go_meet
                        exact ⟨by rw [HAcc.out]; simp [h1], hb5⟩
                      | true =>
                        by_cases h5 : x.c ≤ I.f9
                        · go_wp2_with (first | (go_at_call 10; refine HP.out.mono ?_; rintro e w5 ⟨rfl, hb5⟩; have z0 := below_keep hb5 t0; have z1 := below_keep hb5 t1; have z8 := below_keep hb5 d8; have z9 := below_keep hb5 d9; have hlz : wr.heap.size < w5.heap.size := World.block_lt_of_cell? _ _ z0; have hlz2 : N < w5.heap.size := World.block_lt_of_cell? _ _ z8; have HQ5 := HQ.out w5 hb5; have HQ6 : Hid (Calls Yba.prog 14 #[.slice (some ⟨x.g, 0, none⟩) x.n x.n, .slice (some ⟨vg, 0, none⟩) vn vn] w5 fun e w'' => e = .returned (.bool true) ∧ w'' = w5) := HQ5; clear HP HQ HQ5) | (go_at_call 14; refine HQ6.out.mono ?_; rintro e w6 ⟨rfl, rfl⟩; clear HQ6) | fail)
                          go_meet
                          exact ⟨by rw [HAcc.out]; simp [h1, h2, h5], hb5⟩
                        · have h5' : decide (x.c ≤ I.f9) = false := decide_eq_false h5
                          go_wp2_with (first | (go_at_call 10; refine HP.out.mono ?_; rintro e w5 ⟨rfl, hb5⟩; have z0 := below_keep hb5 t0; have z1 := below_keep hb5 t1; have z8 := below_keep hb5 d8; have z9 := below_keep hb5 d9; have hlz : wr.heap.size < w5.heap.size := World.block_lt_of_cell? _ _ z0; have hlz2 : N < w5.heap.size := World.block_lt_of_cell? _ _ z8; have HQ5 := HQ.out w5 hb5; have HQ6 : Hid (Calls Yba.prog 14 #[.slice (some ⟨x.g, 0, none⟩) x.n x.n, .slice (some ⟨vg, 0, none⟩) vn vn] w5 fun e w'' => e = .returned (.bool true) ∧ w'' = w5) := HQ5; clear HP HQ HQ5) | (go_at_call 14; refine HQ6.out.mono ?_; rintro e w6 ⟨rfl, rfl⟩; clear HQ6) | fail)
                          go_meet
                          exact ⟨by rw [HAcc.out, h1', h5']; simp, hb5⟩
                    · have h2' : decide (0 < I.f9) = false := decide_eq_false h2
                      go_wp2_with (first | (go_at_call 10; refine HP.out.mono ?_; rintro e w5 ⟨rfl, hb5⟩; have z0 := below_keep hb5 t0; have z1 := below_keep hb5 t1; have z8 := below_keep hb5 d8; have z9 := below_keep hb5 d9; have hlz : wr.heap.size < w5.heap.size := World.block_lt_of_cell? _ _ z0; have hlz2 : N < w5.heap.size := World.block_lt_of_cell? _ _ z8; have HQ5 := HQ.out w5 hb5; have HQ6 : Hid (Calls Yba.prog 14 #[.slice (some ⟨x.g, 0, none⟩) x.n x.n, .slice (some ⟨vg, 0, none⟩) vn vn] w5 fun e w'' => e = .returned (.bool b4) ∧ w'' = w5) := HQ5; clear HP HQ HQ5) | fail)
                      go_meet
                      exact ⟨by rw [HAcc.out, h1', h2']; simp, hb5⟩
              case rest =>
                obtain ⟨rfl, HB5'⟩ := hcut
                have HXV5 : Hid (VAt wc x.g x.n x.v) := HXV4.out.below HB5'.out
                have HCh5 : Hid (Chg bk w wc) := HCh4.out.trans (Chg.of_below HB5'.out)
                have HBs5 : Hid (BestAt wc bk o) := HBs4.out.below HB5'.out
                have HB5c : Hid (Below W5.heap.size W5 wc) := HCh5.out.below HB5.out hbk HB5.out.size
                replace t0 := below_keep HB5'.out t0
                replace t1 := below_keep HB5'.out t1
                clear HE4 HXV4 HB5' HCh4 HBs4 HP HQ d8 d9 hlN hlx
                generalize accP I.f5 I.f6 (I.f7 % 3).toNat I.f8 I.f9 (I.f4 % 3).toNat x.c x.v = b3 at *
                cases b3 with
                | false =>
                  go_wp2_with fail
                  go_roundg (C.length - (i + 1))
                  case rel => exact ⟨i + 1, o, by go_num, rfl, by omega, rfl, by (show o = _); rw [HST.out, ← HO.out]; unfold bstep; rw [HX.out]; rfl, HCh5.out, HBs5.out⟩
                  case measure => omega
                | true =>
                  go_upto_region 21 with fail
                  go_cut [141] (fun s wx => s = .bool (takes o x) ∧ Hid (Below wc.heap.size wc wx))
                  case first =>
                    as_aux_lemma =>
                    cases o with
                    | none =>
                      go_wp2_with fail
                      go_meet
                      exact ⟨rfl, Below.refl _ _⟩
                    | some b =>
                      obtain ⟨v0, hv0, hv1⟩ := HBs5.out.c
                      obtain ⟨v2, hv2, hv3⟩ := HBs5.out.d
                      rw [hv1 b rfl] at hv0
                      rw [hv3 b rfl] at hv2
                      have hlb : bk < wc.heap.size := World.block_lt_of_cell? _ _ hv0
                      have hlx : wr.heap.size < wc.heap.size := World.block_lt_of_cell? _ _ t0
                      have HBV : VAt wc b.g b.n b.v := (HVal.out b (best_mem HO.out)).below HB5c.out
                      have HKc : Hid (Calls Yba.prog 9 #[.agg #[.int .u32 x.c, .slice (some ⟨x.g, 0, none⟩) x.n x.n], .agg #[.int .u32 b.c, .slice (some ⟨b.g, 0, none⟩) b.n b.n]] wc fun e w' => e = .returned (.int .i64 (cmpB x.c x.v b.c b.v)) ∧ Below wc.heap.size wc w') := by
                        refine (acmp_walk x.c b.c x.g x.n x.v b.g b.n b.v wc HXV5.out HBV).mono ?_
                        rintro e w' ⟨he, rfl⟩
                        exact ⟨he, boxed2_below ..⟩
                      clear HBV hv1 hv3
                      generalize hcm : cmpB x.c x.v b.c b.v = cm at *
                      go_wp2_with (first | (go_at_call 9; refine HKc.out.mono ?_; rintro e w5 ⟨rfl, hb5⟩; clear HKc) | fail)
                      go_meet
                      exact ⟨by simp [takes, hcm], hb5⟩
                  case rest =>
                    obtain ⟨rfl, HB6⟩ := hcut
                    have HCh6 : Hid (Chg bk w wc) := HCh5.out.trans (Chg.of_below HB6.out)
                    have HBs6 : Hid (BestAt wc bk o) := HBs5.out.below HB6.out
                    replace t0 := below_keep HB6.out t0
                    replace t1 := below_keep HB6.out t1
                    have HN : Hid (best okf (C.take (i + 1)) = if (takes o x) = true then some x else o) := by
                      show best okf (C.take (i + 1)) = _
                      rw [HST.out, ← HO.out]
                      exact bstep_takes HX.out
                    clear HCh5 HBs5 HB6 HXV5 HB5c HX HST
                    generalize (takes o x) = b5 at *
                    cases b5 with
                    | false =>
                      go_wp2_with fail
                      go_roundg (C.length - (i + 1))
                      case rel => exact ⟨i + 1, o, by go_num, rfl, by omega, rfl, by (show o = _); rw [HN.out]; rfl, HCh6.out, HBs6.out⟩
                      case measure => omega
                    | true =>
                      obtain ⟨v0, hv0, _⟩ := HBs6.out.c
                      obtain ⟨v2, hv2, _⟩ := HBs6.out.d
                      have hf0 := HBs6.out.f0
                      have hf1 := HBs6.out.f1
                      have hlb : bk < wc.heap.size := World.block_lt_of_cell? _ _ hv0
                      have hlx : wr.heap.size < wc.heap.size := World.block_lt_of_cell? _ _ t0
                      go_wp2_with fail
                      go_roundg (C.length - (i + 1))
                      case rel => exact ⟨i + 1, some x, by go_num, rfl, by omega, rfl, by (show some x = _); rw [HN.out]; rfl, HCh6.out.trans (Chg.of_only only_two), HBs6.out.set x⟩
                      case measure => omega
    · have hi : i = C.length := by omega
      subst hi
      go_step
      go_step
      go_step
      go_step
      go_step
      go_step
      go_step
      go_step
      go_step
      go_step
      go_step
      go_step
      go_step
      have hE := HE.out.below HBr.out
      have ho : o = best (okE I.f19 I.f20 (I.f21 % 3).toNat (okx I 0)) C := by rw [← OKF.out, HO.out, List.take_length]
      have hbs : ∀ b, o = some b → BAt wr bk b.c b.g b.n b.v := fun b hb => by
        obtain ⟨v0, h0, h1⟩ := HBs.out.c
        obtain ⟨v2, h2, h3⟩ := HBs.out.d
        rw [h1 b hb] at h0
        rw [h3 b hb] at h2
        exact ⟨h0, h2, (HVal.out b (best_mem (hb.symm.trans HO.out))).below HBr.out⟩
      exact x12 W wr sb eb mb kb zb lo bk I pl pB pP pPP pH C o _ _ _ _ _ _ _ _ _ _ _ _ _ _ _ _ _ _ _ _ _ _ _ _ _ _ _ _ _ _ _ _ _ _ _ _ _ _ _ _ _ _ _ _ _ _ _ _ _ _ _ _ _ _ _ _ _ _ _ _ _ _ _ _ _ _ _ _ _ _ _ _ _ _ _ _ _ _ _ _ _ _ _ _ _ _ _ _ _ _ _ _ _ _ _ _ _ _ _ _ _ _ _ _ _ _ _ _ _ _ _ _ _ _ _ _ _ _ _ _ _ _ _ _ _ _ _ _ _ _ _ _ _ _ _ _ _ _ _ _ _ _ _ _ _ _ _ _ _ _ _ _ _ _ _ _ _ _ _ _ _ _ _ _ _ _ _ _ _ _ _ _ _ _ _ _ _ _ _ _ _ _ _ _ _ _ _ _ _ _ _ _ (HCh.out.below HB.out (by omega) HB.out.size) hE.S hE.pb hE.pp hE.ppp hE.ph hE.pl HOk.out ho hbs HC1.out HC2.out hsw hew
end Go.Proofs.Ybulkadqm.AK
