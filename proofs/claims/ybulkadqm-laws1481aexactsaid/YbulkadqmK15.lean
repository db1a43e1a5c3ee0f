import Derived.Test.YbulkadqmK14
import Derived.Deep.AppendLies
import Derived.Laws.OwnMore
namespace Go.Proofs.Ybulkadqm.AK
open Go.RowKit Go.Shelf Go.Lib Go.Sort

def flat (l : List Bl) : List Value := l.flatMap Bl.enc
theorem flat_len (l : List Bl) : (flat l).length = l.length * 2 := by
  induction l with
  | nil => rfl
  | cons x r ih => show (x.enc ++ flat r).length = _; rw [List.length_append, ih]; simp [Bl.enc]; omega
theorem flat_snoc (l : List Bl) (x : Bl) : flat (l ++ [x]) = flat l ++ x.enc := by simp [flat, Bl.enc]

/-- the candidates so far: block N holds the slice, its row lies behind world wT -/
structure AInv (wT : World) (N : Nat) (w : World) (l : List Bl) : Prop where
  fr : Chg N wT w
  row : ∃ v, w.heap[N]? = some (.cells #[v] 85 (0, 0)) ∧ w.ownsRow wT.heap.size 75 2 v l.length (flat l)

theorem info75 : (Yba.prog.info? 75).map (fun i => (i.zero, i.size, i.bytes)) = some (some (.agg #[.int .u32 0, .slice none 0 0]), 2, 32) := by kernel_rfl

theorem store_inv {wT w w2 : World} {N : Nat} {l l' : List Bl} {v : Value} {g cap n : Nat} (hn : n = l'.length) (hN : N < wT.heap.size) (h : Chg N wT w) (hv : w.heap[N]? = some (.cells #[v] 85 (0, 0))) (hown0 : w.ownsRow wT.heap.size 75 2 v l.length (flat l)) (o : Obj)
    (hown : w2.ownsRow wT.heap.size 75 2 (.slice (some ⟨g, 0, none⟩) n cap) n (flat l')) (hg : (w.alloc o).grownBy w2 v.ownBlock) :
    AInv wT N (w2.setCell ⟨N, 0, none⟩ (.slice (some ⟨g, 0, none⟩) n cap)) l' := by
  subst hn
  have hlt := hown0.lt
  have hsz := h.size
  have hf : ∀ k, k < wT.heap.size → w2.heap[k]? = w.heap[k]? := fun k hk => by
    rw [hg.block k (by simp [go_sem]; omega) (fun e => by have := (hlt k e.symm).1; omega)]
    exact Below.heap_alloc w o k (by omega)
  have hs2 : wT.heap.size ≤ w2.heap.size := by have := hg.size; simp [go_sem] at this; omega
  have hN2 : w2.heap[N]? = some (.cells #[v] 85 (0, 0)) := (hf N hN).trans hv
  refine ⟨⟨hg.os.trans h.os, hg.tape.trans h.tape, hg.output.trans h.output, by simpa using hs2, fun k hk hr => ?_⟩, .slice (some ⟨g, 0, none⟩) l'.length cap, ?_, hown.1, ?_⟩
  · rw [Below.heap_setCell _ _ _ _ hr, hf k hk]; exact h.block k hk hr
  · show (w2.heap.modify N _)[N]? = _
    rw [Array.getElem?_modify, if_pos rfl, hN2]
    rfl
  · rcases hown.2 with h0 | ⟨g', cap', cur, hv', hb', hg', r1, r2, r3, r4⟩
    · exact .inl h0
    · exact .inr ⟨g', cap', cur, hv', hb', by rw [Below.heap_setCell _ _ _ _ (by show g' ≠ N; omega)]; exact hg', r1, r2, r3, r4⟩
theorem app_cell {wT w w2 : World} {N : Nat} {l : List Bl} {v : Value} (hN : N < wT.heap.size) (h : Chg N wT w) (hv : w.heap[N]? = some (.cells #[v] 85 (0, 0))) (hown0 : w.ownsRow wT.heap.size 75 2 v l.length (flat l)) (o : Obj)
    (hg : (w.alloc o).grownBy w2 v.ownBlock) : w2.cell? ⟨N, 0, none⟩ = some v ∧ w2.frozen? ⟨N, 0, none⟩ = false := by
  have hN2 : w2.heap[N]? = some (.cells #[v] 85 (0, 0)) := by
    rw [hg.block N (by have := h.size; simp [go_sem]; omega) (fun e => by have := (hown0.lt N e.symm).1; omega)]
    exact heap_old o hv
  refine ⟨by rw [cell_of_row _ _ _ _ _ _ hN2]; rfl, ?_⟩
  unfold World.frozen?
  rw [hN2]
  simp

set_option maxRecDepth 100000 in
set_option maxHeartbeats 1600000 in
theorem add_walk (wT : World) (N : Nat) (hN : N < wT.heap.size) (x : Bl) (h0 : 0 ≤ x.c) (l : List Bl) (hl : l.length ≤ 100) (w : World) (h : AInv wT N w l) :
    Calls Yba.prog 33 #[.int .u32 x.c, .slice (some ⟨x.g, 0, none⟩) x.n x.n, .pointer (some ⟨N, 0, none⟩)] w fun e w' => e = .returned (.tuple #[]) ∧ AInv wT N w' (if 0 < x.c then l ++ [x] else l) := by
  by_cases hc : 0 < x.c
  · rw [if_pos hc]
    obtain ⟨hfr, v, hv, hown⟩ := h
    have hk : w.cell? ⟨N, 0, none⟩ = some v := by rw [cell_of_row _ _ _ _ _ _ hv]; rfl
    have hNw : N < w.heap.size := World.block_lt_of_cell? _ _ hk
    have HO : Hid (w.ownsRow wT.heap.size 75 2 v l.length (flat l)) := hown
    have HV : Hid (w.heap[N]? = some (.cells #[v] 85 (0, 0))) := hv
    obtain ⟨i0, hi0, hz0, hz1, hz2⟩ := info_parts info75
    clear hown hv
    go_enter Yba.func33, Yba.ntmps33
    go_wp2_with (at_builtin; refine wpList_append_lies _ rfl _ _ _ rfl wT.heap.size 75 i0 _ 2 32 Yba.underlying85 hi0 hz0 hz1 hz2 rfl (by omega) v l.length (flat l) rfl (HO.out.alloc _) ⟨w.heap.size, 0, none⟩ 1 1 x.enc rfl rfl (World.news_of_block (cs := #[.int .u32 x.c, .slice (some ⟨x.g, 0, none⟩) x.n x.n]) (t := 75) (fr := (0, 0)) (heap_at _ rfl)) (by simp [Bl.enc, Value.oneCell']) (by omega) (by unfold maxLen; omega) (by omega) (by have := hfr.size; simp [go_sem]; omega) (w.heap.size + 1) (by simp [go_sem]) ?_; intro gg cap3 w3 hown3 hgrow hat hlt3; obtain ⟨hn1, hn2⟩ := app_cell hN hfr HV.out HO.out _ hgrow)
    go_end0
    exact ⟨rfl, store_inv (by simp) hN hfr HV.out HO.out _ (by rw [flat_snoc]; exact hown3) hgrow⟩
  · rw [if_neg hc]
    have hc' : x.c = 0 := by omega
    rw [hc']
    clear h0 hc hc'
    go_enter Yba.func33, Yba.ntmps33
    go_wp2_with fail
    go_end0
    exact ⟨rfl, h⟩
end Go.Proofs.Ybulkadqm.AK
