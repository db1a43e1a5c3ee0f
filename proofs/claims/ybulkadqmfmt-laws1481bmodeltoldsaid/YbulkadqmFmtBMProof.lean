import Derived.Test.YbulkadqmFmtRTProof
import Derived.Test.YbulkadqmFmtQ
import Derived.Deep.SlicePairs
namespace Go.Proofs.YbulkadqmFmt.WB
open Go.ChangeShapes Go.WideShapes Go.ChangeAt Go.RowKit Go.Kit Go.Deep
open Go.Extern.Stop Go.Stop Go.Extern

/-- the slice of pieces that came in, opened for the walk -/
theorem open_inp {H : Type} {enc : TypeId × Value → H} {W : World} {base : Nat} {spare : Nat → Bool} {held : Bool} {fuel : Nat} {a : Option Addr} {len cap : Nat} {x : DataW H × List MemPlace}
    (h : DataW.trod enc Ybaf.prog W base spare held fuel 37 [.slice a len cap] = some x) :
    ∃ (T : Nat → Int) (A : Nat → Option Addr) (L C : Nat → Nat) (Z : Nat → List Int), InP W a len T A L C Z := by
  rcases open_slice_pairs Ybaf.underlying37 Ybaf.underlying39 (by kernel_rfl) rfl rfl (by kernel_rfl) (by kernel_rfl) h with ⟨hcs, _⟩ | ⟨ad, l, c, m, n, V0, V1, D0, D1, P0, P1, hcs, _, hl, hm, hmm, _, hx⟩
  · simp at hcs
    obtain ⟨rfl, rfl, rfl⟩ := hcs
    exact ⟨fun _ => 0, fun _ => none, fun _ => 0, fun _ => 0, fun _ => [], ⟨fun i hi => by omega, fun i hi => by omega, fun i hi => by omega, fun i hi => by omega, fun i hi => by omega⟩⟩
  · simp at hcs
    obtain ⟨rfl, rfl, rfl⟩ := hcs
    have hlm : len ≤ m := by rw [hmm]; split <;> omega
    have each : ∀ i, i < len → ∃ q : Int × Option Addr × Nat × Nat × List Int, V0 i = .int .u32 q.1 ∧ (0 ≤ q.1 ∧ q.1 < 4294967296) ∧ V1 i = .slice q.2.1 q.2.2.1 q.2.2.2.1 ∧ Row .u8 W q.2.1 q.2.2.1 q.2.2.2.2 ∧ Bytes q.2.2.2.2 ∧ (q.2.1 = none → q.2.2.1 = 0 ∧ q.2.2.2.1 = 0) := by
      intro i hi
      obtain ⟨_, _, h0, h1⟩ := hx i (by omega)
      obtain ⟨t0, e0, _, w0⟩ := DataW.trod_int Ybaf.underlying25 h0
      simp at e0
      obtain ⟨a', l', c', zs, e1, hr, hb, hn⟩ := open_row h1
      exact ⟨(t0, a', l', c', zs), e0, by have := bounds_u32 w0; omega, e1, hr, hb, hn⟩
    obtain ⟨q, hq⟩ := choose_lt each
    refine ⟨fun i => (q i).1, fun i => (q i).2.1, fun i => (q i).2.2.1, fun i => (q i).2.2.2.1, fun i => (q i).2.2.2.2, ⟨fun i hi => ?_, fun i hi => (hq i hi).2.2.2.1, fun i hi => (hq i hi).2.2.2.2.1, fun i hi => (hq i hi).2.2.2.2.2, fun i hi => (hq i hi).2.1⟩⟩
    obtain ⟨c0, c1, _, _⟩ := hx i (by omega)
    rw [(hq i hi).1] at c0
    rw [(hq i hi).2.2.1] at c1
    obtain ⟨b, off, spot⟩ := ad
    have hs : spot = none := by
      obtain ⟨z0, _, _, _⟩ := hx 0 (by omega)
      simpa [Addr.add] using World.cell?_spot z0
    subst hs
    rw [add_plain] at c0 c1
    exact ⟨b, off, rfl, c0, by rw [Nat.add_assoc]; exact c1⟩

set_option maxRecDepth 100000 in
theorem bm_lifted (os : Os) (started : os.Started) (H : Type) (enc : TypeId × Value → H) :
    ReturnsInTold none {} Ybaf.checked os 4 .any Input.okWide ((OpenSpec.ofChange Rows.lawS1481BModelSpec).preRow enc Ybaf.prog Ybaf.f4 [] false []) (fun F => ((OpenSpec.ofChange Rows.lawS1481BModelSpec).at F).post enc Ybaf.prog Ybaf.f4 false true false false) (aloneAtReturn Ybaf.prog) nothingAlways := by
  refine returnsInTold_of_row (C := Ybaf.checked) (s := OpenSpec.ofChange Rows.lawS1481BModelSpec) (by kernel_rfl) own started (by kernel_rfl) Ybaf.func4
    (OpenSpec.witness_stopped (enc := enc) (C := Ybaf.checked) false ⟨#[], #[.int .u32 0, .slice none 0 0], []⟩ 8 (by kernel_rfl) (by kernel_rfl) (by kernel_rfl) (by kernel_rfl)) ?_
  intro F W base args ds gs before _ hF hval0 hW _ _ hsz _ _
  have hval : ∀ (j : Nat) t v, Ybaf.f4.params[j]? = some t → args[j]? = some v → Value.okWide Ybaf.prog W .any base t v := hval0
  have hW' := hW
  obtain ⟨p, q, hA0, hV, rfl, _, _⟩ := hW
  have hA : DataW.TrodAll enc Ybaf.prog W 0 (fun _ => true) true Ybaf.f4.params.toList args.toList ds p := hA0
  rw [Ybaf.params4] at hA hval
  obtain ⟨v0, v1, d0, d1, p0, p1, rfl, rfl, rfl, h0, h1⟩ := trodAll_two hA
  obtain ⟨rfl, rfl⟩ := trodVars_none hV
  obtain ⟨x, rfl, rfl, rfl, wx⟩ := open_int Ybaf.underlying25 (hval 0 25 v0 rfl rfl) h0
  obtain ⟨a1, len, cap, rfl⟩ := okWide_slice Ybaf.underlying37 (hval 1 37 v1 rfl rfl)
  have h1k := h1
  obtain ⟨fuel, hf⟩ := h1
  clear hA0 hval0
  simp only [List.append_nil] at hW'
  have hlt : ∀ x ∈ p1, x.block < W.heap.size := fun x hx => hW'.lt x (by simp [hx])
  obtain ⟨T, A, L, C, Z, hin⟩ := open_inp (by simpa [Value.cells] using hf)
  have bx := bounds_u32 wx
  refine (mlaw_walk F.told x a1 len cap T A L C Z W hF (by omega) (by omega) hin).mono fun e W' ⟨he, hnx⟩ => ?_
  subst he
  exact ⟨_, rfl, _, _, _, [], _, [], hW', trodAll_mk1 (shut_bool Ybaf.underlying4 _), trodAll_mk2 (shut_int Ybaf.underlying25 wx) (Below.trod laidOut (by kernel_rfl) (of_decide_eq_true (by kernel_rfl)) h1k hnx hlt), rfl, hnx.frame _, fun h => by cases h⟩

theorem bm_stops : Ybaf.pinned.checked.prog.stops = Rows.lawS1481BModelRow.stops := by kernel_rfl

theorem bm_over : Rows.LawS1481BModelToldSaid :=
  Claim7.holds_of_told_any 4 Ybaf.f4 _ _ [] _ _ _ (by kernel_rfl) rfl rfl rfl laidOut (by kernel_rfl) rfl ⟨rfl, rfl, rfl, rfl, rfl, rfl, rfl⟩ rfl rfl (by kernel_rfl) (by kernel_rfl) Ybaf.func4 (by kernel_rfl)
    (of_decide_eq_true (by kernel_rfl)) (by unfold Func.isWrapper; first | (rw [if_pos (by decide +kernel)]; kernel_rfl) | (rw [if_neg (by decide +kernel)]; exact ⟨rfl, rfl⟩)) bm_stops.symm rfl stopKnobs.symm (by kernel_rfl)
    (by kernel_rfl) (by kernel_rfl) (by kernel_rfl) (by kernel_rfl) (by kernel_rfl) (by kernel_rfl) (by kernel_rfl) (by kernel_rfl) (by kernel_rfl) rfl (by kernel_rfl) rfl rfl
    rfl rfl
    rfl (by kernel_rfl) (by kernel_rfl) (by kernel_rfl) (by decide) (by kernel_rfl)
    (OpenClaim.moreEntering_of (by kernel_rfl) (by kernel_rfl) (by kernel_rfl) (by kernel_rfl) (by kernel_rfl) (by kernel_rfl) (by kernel_rfl) (by kernel_rfl) (by kernel_rfl) (by kernel_rfl))
    ⟨_, WideRow.started_initial, quiet _⟩
    (fun os started _ H enc _ => bm_lifted os started H enc)
end Go.Proofs.YbulkadqmFmt.WB
namespace Go.Proofs.YbulkadqmFmt
theorem lawS1481BModel_proved : Rows.LawS1481BModelToldSaid := WB.bm_over
end Go.Proofs.YbulkadqmFmt
