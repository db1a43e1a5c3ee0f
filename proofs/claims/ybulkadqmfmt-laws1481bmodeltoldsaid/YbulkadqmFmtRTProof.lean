import Derived.Test.YbulkadqmFmtCards
import Derived.Test.YbulkadqmFmtN
import Derived.ProofKit
import Derived.OpenShut
import Derived.ChangeSlices
import Derived.ChangeSame
import Derived.ChangeMaps5
import Derived.JoinedOf
import Derived.Carry
import Derived.Stop.JoinedAt
import Derived.Stop.JoinedTold
import Derived.SevenToldRow
import Derived.SizedLaws
import Derived.Deep.Slices
namespace Go.Proofs.YbulkadqmFmt.WB
open Go.ChangeShapes Go.WideShapes Go.ChangeAt Go.RowKit Go.Kit Go.Deep
open Go.Extern.Stop Go.Stop Go.Extern

theorem own : ownKnob Ybaf.prog.godebug = none := by kernel_rfl
theorem laidOut : laidOutB Ybaf.pinned.checked.prog = true := by kernel_rfl

theorem row_nil (k : IntKind) (w : World) : Row k w none 0 [] := ⟨rfl, fun i hi => by omega⟩
theorem row_of_cells {k : IntKind} {w : World} {a : Addr} {len : Nat} {zs : List Int} (hl : len ≤ zs.length) (hc : ∀ i, i < zs.length → w.cell? (a.add i) = some (.int k (zs.getD i 0))) : Row k w (some a) len (zs.take len) := by
  refine ⟨by simp; omega, fun i hi => ?_⟩
  have h := hc i (by omega)
  obtain ⟨b, off, spot⟩ := a
  have hs : spot = none := by simpa [Addr.add] using World.cell?_spot (hc 0 (by omega))
  subst hs
  refine ⟨b, off, rfl, ?_⟩
  rw [add_plain] at h
  rw [h]
  simp [List.getD, hi]
theorem getD_mem_take {zs : List Int} {len i : Nat} (h : i < (zs.take len).length) : (zs.take len).getD i 0 ∈ zs := by
  have : (zs.take len).getD i 0 = (zs.take len)[i] := by rw [List.getD_eq_getElem?_getD, List.getElem?_eq_getElem h]; rfl
  rw [this]
  exact List.mem_of_mem_take (List.getElem_mem h)
theorem u8lt {n : Int} (h : (Lit.int .u8 n).wf = true) : 0 ≤ n ∧ n < 256 := by have := bounds_u8 h; omega

/-- a slice of bytes that came in, opened for the walks -/
theorem open_row {H : Type} {enc : TypeId × Value → H} {W : World} {base : Nat} {spare : Nat → Bool} {held : Bool} {fuel : Nat} {v : Value} {x : DataW H × List MemPlace}
    (h : DataW.trod enc Ybaf.prog W base spare held fuel 23 [v] = some x) :
    ∃ (a : Option Addr) (len cap : Nat) (zs : List Int), v = .slice a len cap ∧ Row .u8 W a len zs ∧ Bytes zs ∧ (a = none → len = 0 ∧ cap = 0) := by
  rcases open_ints Ybaf.underlying23 Ybaf.underlying5 (by kernel_rfl) h with ⟨hcs, _⟩ | ⟨x, l, c, zs, hcs, _, hl, hm, hz, _, hcell, hwz⟩
  · simp at hcs
    exact ⟨none, 0, 0, [], hcs, row_nil _ _, fun i hi => by simp at hi, fun _ => ⟨rfl, rfl⟩⟩
  · simp at hcs
    have hlz : l ≤ zs.length := by rw [hz]; split <;> omega
    exact ⟨some x, l, c, zs.take l, hcs, row_of_cells hlz hcell, fun i hi => u8lt (hwz _ (getD_mem_take hi)), fun h => by cases h⟩

theorem open_inv {H : Type} {enc : TypeId × Value → H} {W : World} {base : Nat} {spare : Nat → Bool} {held : Bool} {fuel : Nat} {a : Option Addr} {len cap : Nat} {x : DataW H × List MemPlace}
    (h : DataW.trod enc Ybaf.prog W base spare held fuel 22 [.slice a len cap] = some x) :
    ∃ (A : Nat → Option Addr) (L C : Nat → Nat) (Z : Nat → List Int), InV W a len A L C Z := by
  rcases open_slice Ybaf.underlying22 h with ⟨hcs, _⟩ | ⟨ad, l, c, m, n, Dx, Pl, hcs, _, hl, hm, hmm, _, hx⟩
  · simp at hcs
    obtain ⟨rfl, rfl, rfl⟩ := hcs
    exact ⟨fun _ => none, fun _ => 0, fun _ => 0, fun _ => [], ⟨fun i hi => by omega, fun i hi => by omega, fun i hi => by omega, fun i hi => by omega⟩⟩
  · simp at hcs
    obtain ⟨rfl, rfl, rfl⟩ := hcs
    have hlm : len ≤ m := by rw [hmm]; split <;> omega
    have each : ∀ i, i < len → ∃ q : Option Addr × Nat × Nat × List Int, W.cell? (ad.add i) = some (.slice q.1 q.2.1 q.2.2.1) ∧ Row .u8 W q.1 q.2.1 q.2.2.2 ∧ Bytes q.2.2.2 ∧ (q.1 = none → q.2.1 = 0 ∧ q.2.2.1 = 0) := by
      intro i hi
      obtain ⟨cs', h1, h2⟩ := hx i (by omega)
      rw [show Ybaf.prog.cellsOf 23 = 1 from by kernel_rfl] at h1
      obtain ⟨_, hlen, hcell⟩ := World.cells?_some h1
      match cs', hlen with
      | [v], _ =>
        obtain ⟨a', l', c', zs, rfl, hr, hb, hn⟩ := open_row h2
        refine ⟨(a', l', c', zs), ?_, hr, hb, hn⟩
        have := hcell 0 (by omega)
        simpa [add_add] using this
    obtain ⟨q, hq⟩ := choose_lt each
    refine ⟨fun i => (q i).1, fun i => (q i).2.1, fun i => (q i).2.2.1, fun i => (q i).2.2.2, ⟨fun i hi => ?_, fun i hi => (hq i hi).2.1, fun i hi => (hq i hi).2.2.1, fun i hi => (hq i hi).2.2.2⟩⟩
    have c0 := (hq i hi).1
    obtain ⟨b, off, spot⟩ := ad
    have hs : spot = none := by simpa [Addr.add] using World.cell?_spot (hq 0 (by omega)).1
    subst hs
    rw [add_plain] at c0
    exact ⟨b, off, rfl, c0⟩

set_option maxRecDepth 100000 in
theorem rt_lifted (os : Os) (started : os.Started) (H : Type) (enc : TypeId × Value → H) :
    ReturnsInTold none {} Ybaf.checked os 3 .any Input.okWide ((OpenSpec.ofChange Rows.lawS1481BRoundTripSpec).preRow enc Ybaf.prog Ybaf.f3 [] false []) (fun F => ((OpenSpec.ofChange Rows.lawS1481BRoundTripSpec).at F).post enc Ybaf.prog Ybaf.f3 false true false false) (aloneAtReturn Ybaf.prog) nothingAlways := by
  refine returnsInTold_of_row (C := Ybaf.checked) (s := OpenSpec.ofChange Rows.lawS1481BRoundTripSpec) (by kernel_rfl) own started (by kernel_rfl) Ybaf.func3
    (OpenSpec.witness_stopped (enc := enc) (C := Ybaf.checked) false ⟨#[], #[.slice none 0 0], []⟩ 8 (by kernel_rfl) (by kernel_rfl) (by kernel_rfl) (by kernel_rfl)) ?_
  intro F W base args ds gs before _ hF hval0 hW _ _ hsz _ _
  have hval : ∀ (j : Nat) t v, Ybaf.f3.params[j]? = some t → args[j]? = some v → Value.okWide Ybaf.prog W .any base t v := hval0
  have hW' := hW
  obtain ⟨p, q, hA0, hV, rfl, _, _⟩ := hW
  have hA : DataW.TrodAll enc Ybaf.prog W 0 (fun _ => true) true Ybaf.f3.params.toList args.toList ds p := hA0
  rw [Ybaf.params3] at hA hval
  obtain ⟨v0, d0, rfl, rfl, h0⟩ := trodAll_one hA
  obtain ⟨rfl, rfl⟩ := trodVars_none hV
  obtain ⟨a0, len, cap, rfl⟩ := okWide_slice Ybaf.underlying22 (hval 0 22 v0 rfl rfl)
  have h0k := h0
  obtain ⟨fuel, hf⟩ := h0
  clear hA0 hval0
  simp only [List.append_nil] at hW'
  have hlt : ∀ x ∈ p, x.block < W.heap.size := fun x hx => by simpa using hW'.lt x hx
  obtain ⟨A, L, C, Z, hin⟩ := open_inv (by simpa [Value.cells] using hf)
  refine (round_walk F.told a0 len cap A L C Z W hF hin).mono fun e W' ⟨he, hnx⟩ => ?_
  subst he
  exact ⟨_, rfl, _, _, _, [], p, [], hW', trodAll_mk1 (shut_bool Ybaf.underlying4 _), trodAll_mk1 (Below.trod laidOut (by kernel_rfl) (of_decide_eq_true (by kernel_rfl)) h0k hnx hlt), rfl, hnx.frame _, fun h => by cases h⟩

theorem stops : Ybaf.pinned.checked.prog.stops = Rows.lawS1481BRoundTripRow.stops := by kernel_rfl
theorem stopKnobs : Ybaf.pinned.checked.prog.stopKnobs = [] := by kernel_rfl
theorem quiet (os : Os) : Stop.quiet Ybaf.pinned.checked.prog os := by
  intro k hk
  rw [stopKnobs] at hk
  cases hk

theorem rt_over : Rows.LawS1481BRoundTripToldSaid :=
  Claim7.holds_of_told_any 3 Ybaf.f3 _ _ [] _ _ _ (by kernel_rfl) rfl rfl rfl laidOut (by kernel_rfl) rfl ⟨rfl, rfl, rfl, rfl, rfl, rfl, rfl⟩ rfl rfl (by kernel_rfl) (by kernel_rfl) Ybaf.func3 (by kernel_rfl)
    (of_decide_eq_true (by kernel_rfl)) (by unfold Func.isWrapper; first | (rw [if_pos (by decide +kernel)]; kernel_rfl) | (rw [if_neg (by decide +kernel)]; exact ⟨rfl, rfl⟩)) stops.symm rfl stopKnobs.symm (by kernel_rfl)
    (by kernel_rfl) (by kernel_rfl) (by kernel_rfl) (by kernel_rfl) (by kernel_rfl) (by kernel_rfl) (by kernel_rfl) (by kernel_rfl) (by kernel_rfl) rfl (by kernel_rfl) rfl rfl
    rfl rfl
    rfl (by kernel_rfl) (by kernel_rfl) (by kernel_rfl) (by decide) (by kernel_rfl)
    (OpenClaim.moreEntering_of (by kernel_rfl) (by kernel_rfl) (by kernel_rfl) (by kernel_rfl) (by kernel_rfl) (by kernel_rfl) (by kernel_rfl) (by kernel_rfl) (by kernel_rfl) (by kernel_rfl))
    ⟨_, WideRow.started_initial, quiet _⟩
    (fun os started _ H enc _ => rt_lifted os started H enc)
end Go.Proofs.YbulkadqmFmt.WB
namespace Go.Proofs.YbulkadqmFmt
theorem lawS1481BRoundTrip_proved : Rows.LawS1481BRoundTripToldSaid := WB.rt_over
end Go.Proofs.YbulkadqmFmt
