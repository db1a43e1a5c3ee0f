import Derived.Test.YbulkadqmRows
import Derived.Test.YbulkadqmCH
import Derived.ProofKit
import Derived.OpenShut
import Derived.ShutString
import Derived.ChangeOld
import Derived.Deep.SlicePairs
namespace Go.Proofs.Ybulkadqm.CM
open Go.ChangeShapes Go.WideShapes Go.ChangeAt Go.RowKit Go.Deep

theorem own : ownKnob Yba.prog.godebug = none := by kernel_rfl
theorem laidOut : laidOutB Yba.prog = true := by kernel_rfl

theorem row_nil (k : IntKind) (w : World) : Row k w none 0 [] := ⟨rfl, fun i hi => by omega⟩

/-- from the cells of a slice that came in to what the walks ask -/
theorem row_of_cells {k : IntKind} {w : World} {a : Addr} {len : Nat} {zs : List Int} (hl : len ≤ zs.length) (hc : ∀ i, i < zs.length → w.cell? (a.add i) = some (.int k (zs.getD i 0))) : Row k w (some a) len (zs.take len) := by
  refine ⟨by simp; omega, fun i hi => ?_⟩
  have h := hc i (by omega)
  obtain ⟨b, off, spot⟩ := a
  have hs : spot = none := by simpa [Addr.add] using World.cell?_spot (hc 0 (by omega))
  subst hs
  refine ⟨b, off, rfl, ?_⟩
  rw [add_plain] at h
  rw [h]
  simp [List.getD, hi]

theorem getD_mem_take {zs : List Int} {len i : Nat} (h : i < (zs.take len).length) : (zs.take len).getD i 0 ∈ zs := by
  have : (zs.take len).getD i 0 = (zs.take len)[i] := by rw [List.getD_eq_getElem?_getD, List.getElem?_eq_getElem h]; rfl
  rw [this]
  exact List.mem_of_mem_take (List.getElem_mem h)


theorem u8lt {n : Int} (h : (Lit.int .u8 n).wf = true) : 0 ≤ n ∧ n < 256 := by have := bounds_u8 h; omega

/-- a slice of integers that came in, opened for the walks -/
theorem open_row {H : Type} {enc : TypeId × Value → H} {W : World} {base : Nat} {spare : Nat → Bool} {held : Bool} {t e : TypeId} {k : IntKind} {fuel : Nat} {a : Option Addr} {len cap : Nat} {x : DataW H × List MemPlace}
    (ht : Yba.prog.underlying t = some (.slice e)) (he : Yba.prog.underlying e = some (.int k)) (ce : Yba.prog.cellsOf e = 1) (h : DataW.trod enc Yba.prog W base spare held fuel t [.slice a len cap] = some x) :
    ∃ zs : List Int, Row k W a len zs ∧ ∀ i, i < zs.length → (Lit.int k (zs.getD i 0)).wf = true := by
  rcases open_ints ht he ce h with ⟨hcs, _⟩ | ⟨x, l, c, zs, hcs, _, hl, hm, hz, _, hcell, hwz⟩
  · simp at hcs
    obtain ⟨rfl, rfl, rfl⟩ := hcs
    exact ⟨[], row_nil _ _, fun i hi => by simp at hi⟩
  · simp at hcs
    obtain ⟨rfl, rfl, rfl⟩ := hcs
    have hlz : len ≤ zs.length := by rw [hz]; split <;> omega
    exact ⟨zs.take len, row_of_cells hlz hcell, fun i hi => hwz _ (getD_mem_take hi)⟩

/-- the slice of inner sets that came in, opened for the walks -/
theorem open_inn {H : Type} {enc : TypeId × Value → H} {W : World} {base : Nat} {spare : Nat → Bool} {held : Bool} {fuel : Nat} {a : Option Addr} {len cap : Nat} {x : DataW H × List MemPlace}
    (h : DataW.trod enc Yba.prog W base spare held fuel 88 [.slice a len cap] = some x) :
    ∃ (T : Nat → Int) (A : Nat → Option Addr) (L C : Nat → Nat) (Z : Nat → List Int), Inn W a len T A L C Z := by
  rcases open_slice_pairs Yba.underlying88 Yba.underlying101 (by kernel_rfl) rfl rfl (by kernel_rfl) (by kernel_rfl) h with ⟨hcs, _⟩ | ⟨ad, l, c, m, n, V0, V1, D0, D1, P0, P1, hcs, _, hl, hm, hmm, _, hx⟩
  · simp at hcs
    obtain ⟨rfl, rfl, rfl⟩ := hcs
    exact ⟨fun _ => 0, fun _ => none, fun _ => 0, fun _ => 0, fun _ => [], ⟨fun i hi => by omega, fun i hi => by omega, fun i hi => by omega, fun i hi => by omega⟩⟩
  · simp at hcs
    obtain ⟨rfl, rfl, rfl⟩ := hcs
    have hlm : len ≤ m := by rw [hmm]; split <;> omega
    have each : ∀ i, i < len → ∃ q : Int × Option Addr × Nat × Nat × List Int, V0 i = .int .i8 q.1 ∧ (-128 ≤ q.1 ∧ q.1 ≤ 127) ∧ V1 i = .slice q.2.1 q.2.2.1 q.2.2.2.1 ∧ Row .u8 W q.2.1 q.2.2.1 q.2.2.2.2 ∧ ∀ j, j < q.2.2.2.2.length → 0 ≤ q.2.2.2.2.getD j 0 ∧ q.2.2.2.2.getD j 0 < 256 := by
      intro i hi
      obtain ⟨_, _, h0, h1⟩ := hx i (by omega)
      obtain ⟨t0, e0, _, w0⟩ := DataW.trod_int Yba.underlying87 h0
      simp at e0
      rcases open_ints Yba.underlying33 Yba.underlying5 (by kernel_rfl) h1 with ⟨hcs, _⟩ | ⟨y, l1, c1, zs, hcs, _⟩
      · simp at hcs
        rw [hcs] at h1
        obtain ⟨zs, hr, hw⟩ := open_row Yba.underlying33 Yba.underlying5 (by kernel_rfl) h1
        exact ⟨(t0, none, 0, 0, zs), e0, bounds_i8 w0, hcs, hr, fun j hj => u8lt (hw j hj)⟩
      · simp at hcs
        rw [hcs] at h1
        obtain ⟨zs, hr, hw⟩ := open_row Yba.underlying33 Yba.underlying5 (by kernel_rfl) h1
        exact ⟨(t0, some y, l1, c1, zs), e0, bounds_i8 w0, hcs, hr, fun j hj => u8lt (hw j hj)⟩
    obtain ⟨q, hq⟩ := choose_lt each
    refine ⟨fun i => (q i).1, fun i => (q i).2.1, fun i => (q i).2.2.1, fun i => (q i).2.2.2.1, fun i => (q i).2.2.2.2, ⟨fun i hi => ?_, fun i hi => (hq i hi).2.2.2.1, fun i hi => (hq i hi).2.2.2.2, fun i hi => (hq i hi).2.1⟩⟩
    obtain ⟨c0, c1, _, _⟩ := hx i (by omega)
    rw [(hq i hi).1] at c0
    rw [(hq i hi).2.2.1] at c1
    obtain ⟨b, off, spot⟩ := ad
    have hs : spot = none := by
      obtain ⟨z0, _, _, _⟩ := hx 0 (by omega)
      simpa [Addr.add] using World.cell?_spot z0
    subst hs
    rw [add_plain] at c0 c1
    exact ⟨b, off, rfl, c0, by rw [Nat.add_assoc]; exact c1⟩

set_option maxRecDepth 100000 in
theorem lifted (os : Os) (started : os.Started) (H : Type) (enc : TypeId × Value → H) :
    ReturnsInHanded {} Yba.checked os 5 .any (Rows.lawS1481CModelSpec.pre6 enc Yba.prog Yba.f5 Rows.lawS1481CModelRow.domain false) (Rows.lawS1481CModelSpec.post enc Yba.prog Yba.f5 false true false false) := by
  refine returnsInHanded_of_change (C := Yba.checked) own started (by kernel_rfl) Yba.func5
    (ChangeSpec.witness6 (enc := enc) (C := Yba.checked) false ⟨#[], #[.int .i8 0, .slice none 0 0, .slice none 0 0, .slice none 0 0], []⟩ 8 (by kernel_rfl) (by kernel_rfl) (by kernel_rfl) (by kernel_rfl)) ?_
  intro W base args ds gs before hval0 hW hcnd _
  have hval : ∀ (j : Nat) t v, Yba.f5.params[j]? = some t → args[j]? = some v → Value.okWide Yba.prog W .any base t v := hval0
  have hW' := hW
  obtain ⟨p, q, hA0, hV, rfl, hfz, hnd⟩ := hW
  have hA : DataW.TrodAll enc Yba.prog W 0 (fun _ => true) true Yba.f5.params.toList args.toList ds p := hA0
  rw [Yba.params5] at hA hval
  obtain ⟨v0, vs0, d0, ds0, p0, q0, hargs, rfl, rfl, h0, r0⟩ := trodAll_cons hA
  obtain ⟨v1, vs1, d1, ds1, p1, q1, rfl, rfl, rfl, h1, r1⟩ := trodAll_cons r0
  obtain ⟨v2, vs2, d2, ds2, p2, q2, rfl, rfl, rfl, h2, r2⟩ := trodAll_cons r1
  obtain ⟨v3, vs3, d3, ds3, p3, q3, rfl, rfl, rfl, h3, r3⟩ := trodAll_cons r2
  obtain ⟨rfl, rfl, rfl⟩ := trodAll_nil r3
  obtain rfl : args = #[v0, v1, v2, v3] := by cases args; simp_all
  obtain ⟨rfl, rfl⟩ := trodVars_none hV
  obtain ⟨th, rfl, rfl, rfl, wth⟩ := open_int Yba.underlying87 (hval 0 87 v0 rfl rfl) h0
  obtain ⟨a1, len1, cap1, rfl⟩ := okWide_slice Yba.underlying33 (hval 1 33 v1 rfl rfl)
  obtain ⟨a2, len2, cap2, rfl⟩ := okWide_slice Yba.underlying88 (hval 2 88 v2 rfl rfl)
  obtain ⟨a3, len3, cap3, rfl⟩ := okWide_slice Yba.underlying89 (hval 3 89 v3 rfl rfl)
  have k1 := h1
  have k2 := h2
  have k3 := h3
  have lt1 : ∀ x ∈ p1, x.block < W.heap.size := by obtain ⟨m, hm⟩ := k1; exact DataW.trod_lt m _ _ _ hm
  have lt2 : ∀ x ∈ p2, x.block < W.heap.size := by obtain ⟨m, hm⟩ := k2; exact DataW.trod_lt m _ _ _ hm
  have lt3 : ∀ x ∈ p3, x.block < W.heap.size := by obtain ⟨m, hm⟩ := k3; exact DataW.trod_lt m _ _ _ hm
  obtain ⟨z1, hr1, hw1⟩ : ∃ zs : List Int, Row .u8 W a1 len1 zs ∧ ∀ i, i < zs.length → (Lit.int .u8 (zs.getD i 0)).wf = true := by
    obtain ⟨fuel, hf⟩ := h1
    exact open_row Yba.underlying33 Yba.underlying5 (by kernel_rfl) (by simpa [Value.cells] using hf)
  obtain ⟨T, A, L, C, Z, hin⟩ : ∃ (T : Nat → Int) (A : Nat → Option Addr) (L C : Nat → Nat) (Z : Nat → List Int), Inn W a2 len2 T A L C Z := by
    obtain ⟨fuel, hf⟩ := h2
    exact open_inn (by simpa [Value.cells] using hf)
  obtain ⟨z3, hr3, hw3⟩ : ∃ zs : List Int, Row .u64 W a3 len3 zs ∧ ∀ i, i < zs.length → (Lit.int .u64 (zs.getD i 0)).wf = true := by
    obtain ⟨fuel, hf⟩ := h3
    exact open_row Yba.underlying89 Yba.underlying22 (by kernel_rfl) (by simpa [Value.cells] using hf)
  clear hA0 hval0
  have bth := bounds_i8 wth
  refine (law_walk th a1 len1 cap1 z1 a2 len2 cap2 T A L C Z a3 len3 cap3 z3 W bth.1 bth.2 hr1 (fun i hi => by have := bounds_u8 (hw1 i hi); omega) hin hr3 (fun i hi => by have := bounds_u64 (hw3 i hi); omega)).mono fun e W' ⟨he, bel⟩ => ?_
  subst he
  exact ⟨_, rfl, _, _, _, [], _, [], hW', trodAll_mk1 (shut_bool Yba.underlying4 _), (trodAll_cons_mk (shut_int Yba.underlying87 wth) (trodAll_cons_mk (Below.trod laidOut (by kernel_rfl) (of_decide_eq_true (by kernel_rfl)) k1 bel lt1) (trodAll_cons_mk (Below.trod laidOut (by kernel_rfl) (of_decide_eq_true (by kernel_rfl)) k2 bel lt2) (trodAll_cons_mk (Below.trod laidOut (by kernel_rfl) (of_decide_eq_true (by kernel_rfl)) k3 bel lt3) trodAll_mk0)))), rfl, bel.frame _, fun h => by cases h⟩

theorem over : Rows.lawS1481CModelRow.holds Yba.pinned (OpenSpec.ofChange Rows.lawS1481CModelSpec) :=
  OpenClaim.holds_of_wide 5 Yba.f5 rfl rfl rfl rfl rfl rfl rfl ⟨rfl, rfl, rfl, rfl, rfl⟩ rfl rfl rfl rfl rfl (by kernel_rfl) Yba.func5 (by kernel_rfl)
    (of_decide_eq_true (by kernel_rfl)) (by unfold Func.isWrapper; first | (rw [if_pos (by decide +kernel)]; kernel_rfl) | (rw [if_neg (by decide +kernel)]; exact ⟨rfl, rfl⟩))
    (fun os started H enc _ => lifted os started H enc)

end Go.Proofs.Ybulkadqm.CM
namespace Go.Proofs.Ybulkadqm
theorem lawS1481CModel_proved : Rows.LawS1481CModelSaid := CM.over
end Go.Proofs.Ybulkadqm
