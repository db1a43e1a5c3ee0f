import Derived.Test.YbulkadqmX2
namespace Go.Proofs.Ybulkadqm.AK
open Go.RowKit
set_option linter.unusedSimpArgs false

/-- what the loop of the search reads -/
structure EX (w : World) (N sb eb mb kb zb vg vn lo : Nat) (I : In) (pl : Value) (pB pP pPP pH pr : Option Addr) : Prop where
  S : SlotAt w sb eb mb kb zb pl I.f2 0 pB pP pPP pH I.f22
  pb : PAt w lo I.f10 I.f11 (I.f12 % 3).toNat pB
  pp : PAt w lo I.f13 I.f14 (I.f15 % 3).toNat pP
  ppp : PAt w lo I.f16 I.f17 (I.f18 % 3).toNat pPP
  ph : PAt w lo I.f19 I.f20 (I.f21 % 3).toNat pH
  pl : PlAt w lo I 0 pl
  ri : w.rangeAt N 0 I.cells
  sv : VAt w vg vn (I.f4 % 3).toNat
  pr : PAt w lo I.f5 I.f6 (I.f7 % 3).toNat pr
theorem EX.below {w w' : World} {N sb eb mb kb zb vg vn lo : Nat} {I : In} {pl : Value} {pB pP pPP pH pr : Option Addr} (h : EX w N sb eb mb kb zb vg vn lo I pl pB pP pPP pH pr) (hb : Below w.heap.size w w') : EX w' N sb eb mb kb zb vg vn lo I pl pB pP pPP pH pr :=
  ⟨h.S.below hb, h.pb.below hb, h.pp.below hb, h.ppp.below hb, h.ph.below hb, h.pl.below hb, below_range hb h.ri, h.sv.below hb, h.pr.below hb⟩
/-- the best so far lies at bk -/
structure BestAt (w : World) (bk : Nat) (o : Option Bl) : Prop where
  c : ∃ v, w.cell? ⟨bk, 0, none⟩ = some v ∧ ∀ b, o = some b → v = .int .u32 b.c
  d : ∃ v, w.cell? ⟨bk, 1, none⟩ = some v ∧ ∀ b, o = some b → v = .slice (some ⟨b.g, 0, none⟩) b.n b.n
  f0 : w.frozen? ⟨bk, 0, none⟩ = false
  f1 : w.frozen? ⟨bk, 1, none⟩ = false
theorem BestAt.below {w w' : World} {bk : Nat} {o : Option Bl} (h : BestAt w bk o) (hb : Below w.heap.size w w') : BestAt w' bk o := by
  obtain ⟨v, h1, h2⟩ := h.c
  obtain ⟨u, h3, h4⟩ := h.d
  have l := World.block_lt_of_cell? w _ h1
  exact ⟨⟨v, below_keep hb h1, h2⟩, ⟨u, below_keep hb h3, h4⟩, (hb.frozen (p := ⟨bk, 0, none⟩) l).trans h.f0, (hb.frozen (p := ⟨bk, 1, none⟩) l).trans h.f1⟩
theorem BestAt.set {w : World} {bk : Nat} {o : Option Bl} (x : Bl) (h : BestAt w bk o) : BestAt ((w.setCell ⟨bk, 0, none⟩ (.int .u32 x.c)).setCell ⟨bk, 1, none⟩ (.slice (some ⟨x.g, 0, none⟩) x.n x.n)) bk (some x) := by
  obtain ⟨v, h1, _⟩ := h.c
  obtain ⟨u, h3, _⟩ := h.d
  refine ⟨⟨_, by rw [World.cell?_setCell_other _ _ _ _ (by simp), World.cell?_setCell_same _ _ _ h1], fun b hb => ?_⟩, ⟨_, World.cell?_setCell_same _ _ _ ((World.cell?_setCell_other _ _ _ _ (by simp)).trans h3), fun b hb => ?_⟩, by simpa using h.f0, by simpa using h.f1⟩
  · injection hb with e; rw [e]
  · injection hb with e; rw [e]
theorem best_take {ok : Bl → Bool} {C : List Bl} {i : Nat} {x : Bl} (h : C[i]? = some x) : best ok (C.take (i + 1)) = bstep ok (best ok (C.take i)) x := by
  obtain ⟨hi, rfl⟩ := List.getElem?_eq_some_iff.1 h
  rw [List.take_succ_eq_append_getElem hi, best_snoc]
end Go.Proofs.Ybulkadqm.AK
