import Derived.Test.YbulkadqmRows
import Derived.Test.YbulkadqmT9
import Derived.ProofKit
import Derived.OpenShut
import Derived.ShutString
import Derived.ChangeOld
namespace Go.Proofs.Ybulkadqm.AK
open Go.ChangeShapes Go.WideShapes Go.ChangeAt Go.RowKit

theorem own : ownKnob Yba.prog.godebug = none := by kernel_rfl
theorem laidOut : laidOutB Yba.prog = true := by kernel_rfl
theorem lt_u8 {n : Int} (h : (Lit.int .u8 n).wf = true) : 0 ≤ n ∧ n < 256 := by have := bounds_u8 h; omega
theorem lt_u32 {n : Int} (h : (Lit.int .u32 n).wf = true) : 0 ≤ n ∧ n < 4294967296 := by have := bounds_u32 h; omega
theorem lt_u64 {n : Int} (h : (Lit.int .u64 n).wf = true) : 0 ≤ n ∧ n < 18446744073709551616 := by have := bounds_u64 h; omega
theorem cell_at {cs : List Value} {o : Nat} {v : Value} (h : (cs.drop o).take 1 = [v]) : cs[o]? = some v := by
  have : ((cs.drop o).take 1)[0]? = some v := by rw [h]; rfl
  simpa using this
theorem int_at {H : Type} {enc : TypeId × Value → H} {W : World} {base : Nat} {spare : Nat → Bool} {held : Bool} {n t o i : Nat} {k : IntKind} {cs : List Value} {xs : List (DataW H × List MemPlace)} (ht : Yba.prog.underlying t = some (.int k)) (hc : Yba.prog.cellsOf t = 1)
    (h : DataW.trod enc Yba.prog W base spare held n t ((cs.drop o).take (Yba.prog.cellsOf t)) = xs[i]?) (hi : i < xs.length) : ∃ z : Int, cs[o]? = some (.int k z) ∧ (Lit.int k z).wf = true := by
  rw [hc, List.getElem?_eq_getElem hi] at h
  obtain ⟨z, e, _, w⟩ := DataW.trod_int ht h
  exact ⟨z, cell_at e, w⟩
theorem bool_at {H : Type} {enc : TypeId × Value → H} {W : World} {base : Nat} {spare : Nat → Bool} {held : Bool} {n t o i : Nat} {cs : List Value} {xs : List (DataW H × List MemPlace)} (ht : Yba.prog.underlying t = some .bool) (hc : Yba.prog.cellsOf t = 1)
    (h : DataW.trod enc Yba.prog W base spare held n t ((cs.drop o).take (Yba.prog.cellsOf t)) = xs[i]?) (hi : i < xs.length) : ∃ z : Bool, cs[o]? = some (.bool z) := by
  rw [hc, List.getElem?_eq_getElem hi] at h
  obtain ⟨z, e, _⟩ := DataW.trod_bool ht h
  exact ⟨z, cell_at e⟩
theorem open_in {H : Type} {enc : TypeId × Value → H} {W : World} {base : Nat} {spare : Nat → Bool} {held : Bool} {fuel : Nat} {cs : List Value} {x : DataW H × List MemPlace} (h : DataW.trod enc Yba.prog W base spare held fuel 25 cs = some x) : ∃ I : In, cs = I.cells ∧ InOk I := by
  obtain ⟨xs, n, _, _, hl, hlen, hf⟩ := DataW.trod_struct Yba.underlying25 h
  have hl' : cs.length = 23 := hl.trans (by kernel_rfl)
  have hx : xs.length = 23 := hlen
  obtain ⟨z0, e0, w0⟩ := int_at Yba.underlying5 (by kernel_rfl) (hf 0 _ rfl) (by omega)
  obtain ⟨z1, e1, w1⟩ := int_at Yba.underlying5 (by kernel_rfl) (hf 1 _ rfl) (by omega)
  obtain ⟨z2, e2, w2⟩ := int_at Yba.underlying22 (by kernel_rfl) (hf 2 _ rfl) (by omega)
  obtain ⟨z3, e3, w3⟩ := int_at Yba.underlying23 (by kernel_rfl) (hf 3 _ rfl) (by omega)
  obtain ⟨z4, e4, w4⟩ := int_at Yba.underlying5 (by kernel_rfl) (hf 4 _ rfl) (by omega)
  obtain ⟨z5, e5⟩ := bool_at Yba.underlying4 (by kernel_rfl) (hf 5 _ rfl) (by omega)
  obtain ⟨z6, e6, w6⟩ := int_at Yba.underlying23 (by kernel_rfl) (hf 6 _ rfl) (by omega)
  obtain ⟨z7, e7, w7⟩ := int_at Yba.underlying5 (by kernel_rfl) (hf 7 _ rfl) (by omega)
  obtain ⟨z8, e8, w8⟩ := int_at Yba.underlying23 (by kernel_rfl) (hf 8 _ rfl) (by omega)
  obtain ⟨z9, e9, w9⟩ := int_at Yba.underlying23 (by kernel_rfl) (hf 9 _ rfl) (by omega)
  obtain ⟨z10, e10⟩ := bool_at Yba.underlying4 (by kernel_rfl) (hf 10 _ rfl) (by omega)
  obtain ⟨z11, e11, w11⟩ := int_at Yba.underlying23 (by kernel_rfl) (hf 11 _ rfl) (by omega)
  obtain ⟨z12, e12, w12⟩ := int_at Yba.underlying5 (by kernel_rfl) (hf 12 _ rfl) (by omega)
  obtain ⟨z13, e13⟩ := bool_at Yba.underlying4 (by kernel_rfl) (hf 13 _ rfl) (by omega)
  obtain ⟨z14, e14, w14⟩ := int_at Yba.underlying23 (by kernel_rfl) (hf 14 _ rfl) (by omega)
  obtain ⟨z15, e15, w15⟩ := int_at Yba.underlying5 (by kernel_rfl) (hf 15 _ rfl) (by omega)
  obtain ⟨z16, e16⟩ := bool_at Yba.underlying4 (by kernel_rfl) (hf 16 _ rfl) (by omega)
  obtain ⟨z17, e17, w17⟩ := int_at Yba.underlying23 (by kernel_rfl) (hf 17 _ rfl) (by omega)
  obtain ⟨z18, e18, w18⟩ := int_at Yba.underlying5 (by kernel_rfl) (hf 18 _ rfl) (by omega)
  obtain ⟨z19, e19⟩ := bool_at Yba.underlying4 (by kernel_rfl) (hf 19 _ rfl) (by omega)
  obtain ⟨z20, e20, w20⟩ := int_at Yba.underlying23 (by kernel_rfl) (hf 20 _ rfl) (by omega)
  obtain ⟨z21, e21, w21⟩ := int_at Yba.underlying5 (by kernel_rfl) (hf 21 _ rfl) (by omega)
  obtain ⟨z22, e22⟩ := bool_at Yba.underlying4 (by kernel_rfl) (hf 22 _ rfl) (by omega)
  refine ⟨⟨z0, z1, z2, z3, z4, z5, z6, z7, z8, z9, z10, z11, z12, z13, z14, z15, z16, z17, z18, z19, z20, z21, z22⟩, ?_, ⟨lt_u8 w0, lt_u8 w1, lt_u64 w2, lt_u32 w3, lt_u8 w4, lt_u32 w6, lt_u8 w7, lt_u32 w8, lt_u32 w9, lt_u32 w11, lt_u8 w12, lt_u32 w14, lt_u8 w15, lt_u32 w17, lt_u8 w18, lt_u32 w20, lt_u8 w21⟩⟩
  apply List.ext_getElem?
  intro i
  match i with
  | 0 => exact e0
  | 1 => exact e1
  | 2 => exact e2
  | 3 => exact e3
  | 4 => exact e4
  | 5 => exact e5
  | 6 => exact e6
  | 7 => exact e7
  | 8 => exact e8
  | 9 => exact e9
  | 10 => exact e10
  | 11 => exact e11
  | 12 => exact e12
  | 13 => exact e13
  | 14 => exact e14
  | 15 => exact e15
  | 16 => exact e16
  | 17 => exact e17
  | 18 => exact e18
  | 19 => exact e19
  | 20 => exact e20
  | 21 => exact e21
  | 22 => exact e22
  | i + 23 => rw [List.getElem?_eq_none (by omega), List.getElem?_eq_none (by show 23 ≤ i + 23; omega)]

set_option maxRecDepth 100000 in
theorem keeps_lifted (os : Os) (started : os.Started) (H : Type) (enc : TypeId × Value → H) :
    ReturnsInHanded {} Yba.checked os 3 .any (Rows.lawS1481AKeepsSpec.pre6 enc Yba.prog Yba.f3 Rows.lawS1481AKeepsRow.domain false) (Rows.lawS1481AKeepsSpec.post enc Yba.prog Yba.f3 false true false false) := by
  refine returnsInHanded_of_change (C := Yba.checked) own started (by kernel_rfl) Yba.func3
    (ChangeSpec.witness6 (enc := enc) (C := Yba.checked) false ⟨#[], #[.agg (In.cells ⟨0, 0, 0, 0, 0, false, 0, 0, 0, 0, false, 0, 0, false, 0, 0, false, 0, 0, false, 0, 0, false⟩).toArray], []⟩ 8 (by kernel_rfl) (by kernel_rfl) (by kernel_rfl) (by kernel_rfl)) ?_
  intro W base args ds gs before hval0 hW hcnd _
  have hval : ∀ (j : Nat) t v, Yba.f3.params[j]? = some t → args[j]? = some v → Value.okWide Yba.prog W .any base t v := hval0
  have hW' := hW
  obtain ⟨p, q, hA0, hV, rfl, hfz, hnd⟩ := hW
  have hA : DataW.TrodAll enc Yba.prog W 0 (fun _ => true) true Yba.f3.params.toList args.toList ds p := hA0
  rw [Yba.params3] at hA hval
  obtain ⟨v0, vs0, d0, ds0, p0, q0, hargs, rfl, rfl, h0, r0⟩ := trodAll_cons hA
  obtain ⟨rfl, rfl, rfl⟩ := trodAll_nil r0
  obtain rfl : args = #[v0] := by cases args; simp_all
  obtain ⟨rfl, rfl⟩ := trodVars_none hV
  obtain ⟨cs, rfl, _⟩ := okWide_struct Yba.underlying25 (hval 0 25 v0 rfl rfl)
  have k0 := h0
  have lt0 : ∀ x ∈ p0, x.block < W.heap.size := by obtain ⟨m, hm⟩ := k0; exact DataW.trod_lt m _ _ _ hm
  obtain ⟨I, hI, ok⟩ : ∃ I : In, cs.toList = I.cells ∧ InOk I := by
    obtain ⟨fuel, hf⟩ := h0
    exact open_in (by simpa [Value.cells] using hf)
  obtain rfl : cs = I.cells.toArray := by rw [← hI]
  clear hA0 hval0
  refine (keeps_walk I ok W).mono fun e W' ⟨he, bel⟩ => ?_
  subst he
  exact ⟨_, rfl, _, _, _, [], _, [], hW', trodAll_mk1 (shut_bool Yba.underlying4 _), trodAll_cons_mk (Below.trod laidOut (by kernel_rfl) (of_decide_eq_true (by kernel_rfl)) k0 bel lt0) trodAll_mk0, rfl, bel.frame _, fun h => by cases h⟩

theorem keeps_over : Rows.lawS1481AKeepsRow.holds Yba.pinned (OpenSpec.ofChange Rows.lawS1481AKeepsSpec) :=
  OpenClaim.holds_of_wide 3 Yba.f3 rfl rfl rfl rfl rfl rfl rfl ⟨rfl, rfl, rfl, rfl, rfl⟩ rfl rfl rfl rfl rfl (by kernel_rfl) Yba.func3 (by kernel_rfl)
    (of_decide_eq_true (by kernel_rfl)) (by unfold Func.isWrapper; first | (rw [if_pos (by decide +kernel)]; kernel_rfl) | (rw [if_neg (by decide +kernel)]; exact ⟨rfl, rfl⟩))
    (fun os started H enc _ => keeps_lifted os started H enc)

end Go.Proofs.Ybulkadqm.AK
namespace Go.Proofs.Ybulkadqm
theorem lawS1481AKeeps_proved : Rows.LawS1481AKeepsSaid := AK.keeps_over
end Go.Proofs.Ybulkadqm
