import Derived.Test.YbulkadqmCE
import Derived.Deep.RegionHeld3
import Derived.Deep.RegionLaw
import Derived.Deep.AppendLies
import Derived.Deep.DrawnRows
namespace Go.Proofs.Ybulkadqm.CM
open Go.RowKit
attribute [local go_sem] Go.wp_at_zero Go.wp_at_succ

theorem info96 : (Yba.prog.info? 96).map (fun i => (i.zero, i.size, i.bytes)) = some (some (.agg #[.int .i64 0, .slice none 0 0, .slice none 0 0, .int .i64 0]), 4, 64) := by kernel_rfl

theorem below_keep {w w' : World} (h : Below w.heap.size w w') {p : Addr} {v : Value} (hc : w.cell? p = some v) : w'.cell? p = some v :=
  (h.cell (World.block_lt_of_cell? w p hc)).trans hc
theorem Row.keep {k : IntKind} {w w' : World} {a : Option Addr} {len : Nat} {zs : List Int} (h : Row k w a len zs) (hk : ∀ (p : Addr) v, w.cell? p = some v → w'.cell? p = some v) : Row k w' a len zs :=
  ⟨h.1, fun i hi => by obtain ⟨b, off, e, hc⟩ := h.2 i hi; exact ⟨b, off, e, hk _ _ hc⟩⟩
theorem Row.below {k : IntKind} {w w' : World} {a : Option Addr} {len : Nat} {zs : List Int} (h : Row k w a len zs) (hb : Below w.heap.size w w') : Row k w' a len zs :=
  h.keep fun _ _ hc => below_keep hb hc
theorem Row.block {k : IntKind} {w w' : World} {B len : Nat} {zs : List Int} (h : Row k w (some ⟨B, 0, none⟩) len zs) (hk : ∀ j, w'.cell? ⟨B, j, none⟩ = w.cell? ⟨B, j, none⟩) : Row k w' (some ⟨B, 0, none⟩) len zs :=
  ⟨h.1, fun i hi => by obtain ⟨b, off, e, hc⟩ := h.2 i hi; cases e; exact ⟨B, 0, rfl, (hk _).trans hc⟩⟩
theorem owns_below {w w' : World} {base e size n : Nat} {v : Value} {xs : List Value} (h : w.ownsRow base e size v n xs) (hb : Below w.heap.size w w') : w'.ownsRow base e size v n xs := by
  refine ⟨h.1, ?_⟩
  rcases h.2 with hn | ⟨g, cap, cur, hv, hg, hh, r⟩
  · exact .inl hn
  · have hlt : g < w.heap.size := (Array.getElem?_eq_some_iff.1 hh).1
    exact .inr ⟨g, cap, cur, hv, hg, by rw [hb.block g hlt]; exact hh, r⟩

/-- one inner quorum set's cells -/
def qcell (T : Nat → Int) (L VB : Nat → Nat) (i : Nat) : List Value := [.int .i64 (T i), .slice (some ⟨VB i, 0, none⟩) (L i) (L i), .slice none 0 0, .int .i64 0]
/-- the cells of the first k -/
def qcells (T : Nat → Int) (L VB : Nat → Nat) : Nat → List Value
  | 0 => []
  | k + 1 => qcells T L VB k ++ qcell T L VB k

/-- what holds at the head of every round of 'zzs1481cbuild': w1 the world ahead of q's own block, g7 that block -/
structure BRel (g7 : Nat) (th : Int) (va : Value) (T : Nat → Int) (L : Nat → Nat) (Z : Nat → List Int) (w1 wr : World) (k : Nat) (io : Option Addr) (cp : Nat) (VB : Nat → Nat) : Prop where
  own : wr.ownsRow (g7 + 1) 96 4 (.slice io k cp) k (qcells T L VB k)
  c0 : wr.cell? ⟨g7, 0, none⟩ = some (.int .i64 th)
  c1 : wr.cell? ⟨g7, 1, none⟩ = some va
  c2 : wr.cell? ⟨g7, 2, none⟩ = some (.slice io k cp)
  c3 : wr.cell? ⟨g7, 3, none⟩ = some (.int .i64 0)
  f2 : wr.frozen? ⟨g7, 2, none⟩ = false
  rows : ∀ i, i < k → Row .i64 wr (some ⟨VB i, 0, none⟩) (L i) (Z i) ∧ VB i < wr.heap.size ∧ (Value.slice io k cp).ownBlock ≠ some (VB i) ∧ g7 < VB i
  bel : Below g7 w1 wr
  lt : g7 < wr.heap.size

theorem brel_start (th : Int) (va : Value) (T : Nat → Int) (L : Nat → Nat) (Z : Nat → List Int) (w1 : World) (VB : Nat → Nat) :
    BRel w1.heap.size th va T L Z w1 (w1.alloc (.cells #[.int .i64 th, va, .slice none 0 0, .int .i64 0] 96)) 0 none 0 VB where
  own := World.ownsRow_nil _ _ _ _
  c0 := by simp
  c1 := by simp
  c2 := by simp
  c3 := by simp
  f2 := by simp
  rows := fun i hi => by omega
  bel := (Below.refl _ _).alloc (Nat.le_refl _) _
  lt := by simp

theorem qcells_congr (T : Nat → Int) (L : Nat → Nat) {VB VB' : Nat → Nat} : ∀ k, (∀ i, i < k → VB i = VB' i) → qcells T L VB k = qcells T L VB' k
  | 0, _ => rfl
  | k + 1, h => by
    have e := qcells_congr T L k (fun i hi => h i (by omega))
    show qcells T L VB k ++ qcell T L VB k = qcells T L VB' k ++ qcell T L VB' k
    rw [e, qcell, qcell, h k (by omega)]

/-- what a round of 'zzs1481cbuild' makes of it -/
theorem brel_step {g7 : Nat} {th : Int} {va : Value} {T : Nat → Int} {L : Nat → Nat} {Z : Nat → List Int} {w1 wr w2 w3 : World} {k : Nat} {io : Option Addr} {cp : Nat} {VB : Nat → Nat}
    (R : BRel g7 th va T L Z w1 wr k io cp VB) (hbd : Below wr.drew.heap.size wr.drew w2) (hlt2 : wr.heap.size < w2.heap.size) (hrow2 : Row .i64 w2 (some ⟨wr.heap.size, 0, none⟩) (L k) (Z k))
    {o : Obj} {g cap : Nat} (hown3 : w3.ownsRow (g7 + 1) 96 4 (.slice (some ⟨g, 0, none⟩) (k + 1) cap) (k + 1) (qcells T L VB k ++ [.int .i64 (T k), .slice (some ⟨wr.heap.size, 0, none⟩) (L k) (L k), .slice none 0 0, .int .i64 0]))
    (hgrow : (w2.alloc o).grownBy w3 (Value.slice io k cp).ownBlock) (hat : (Value.slice io k cp).ownBlock = some g ∨ g = w2.heap.size + 1) :
    BRel g7 th va T L Z w1 (w3.setCell ⟨g7, 2, none⟩ (.slice (some ⟨g, 0, none⟩) (k + 1) cap)) (k + 1) (some ⟨g, 0, none⟩) cap (fun i => if i = k then wr.heap.size else VB i) := by
  have hbel2 : Below wr.heap.size wr w2 := ⟨hbd.os, hbd.tape, hbd.output, hbd.size, hbd.block⟩
  have hob := R.own.lt
  have hlt := R.lt
  have hg7 : g7 < g := by
    rcases hat with h | h
    · have := (hob g h).1; omega
    · omega
  have hne7 : some g7 ≠ (Value.slice io k cp).ownBlock := fun e => by have := (hob g7 e.symm).1; omega
  -- blocks of wr, other than the row's own, are as they were in w3
  have hblk : ∀ j, j < wr.heap.size → some j ≠ (Value.slice io k cp).ownBlock → w3.heap[j]? = wr.heap[j]? := fun j hj hne => by
    rw [hgrow.block j (by simp; omega) hne]
    rw [Below.heap_alloc _ _ _ (by omega)]
    exact hbel2.block j hj
  have hcell : ∀ (p : Addr), p.block < wr.heap.size → some p.block ≠ (Value.slice io k cp).ownBlock → w3.cell? p = wr.cell? p := fun p hp hne => World.cell?_of_block (hblk p.block hp hne)
  have hs3 : w2.heap.size + 1 ≤ w3.heap.size := by have := hgrow.size; simpa using this
  have c7 : ∀ j, w3.cell? ⟨g7, j, none⟩ = wr.cell? ⟨g7, j, none⟩ := fun j => hcell ⟨g7, j, none⟩ hlt hne7
  refine ⟨?_, ?_, ?_, ?_, ?_, ?_, ?_, ?_, ?_⟩
  · have e : qcells T L (fun i => if i = k then wr.heap.size else VB i) (k + 1) = qcells T L VB k ++ [.int .i64 (T k), .slice (some ⟨wr.heap.size, 0, none⟩) (L k) (L k), .slice none 0 0, .int .i64 0] := by
      show qcells T L _ k ++ qcell T L _ k = _
      rw [qcells_congr T L (VB' := VB) k (fun i hi => by rw [if_neg (by omega)]), qcell, if_pos rfl]
    rw [e]
    exact ownsRow_setCell_below hown3 (a := ⟨g7, 2, none⟩) (Nat.lt_succ_self _) _
  · rw [World.cell?_setCell_other _ _ _ _ (fun h => by cases h)]; exact (c7 0).trans R.c0
  · rw [World.cell?_setCell_other _ _ _ _ (fun h => by cases h)]; exact (c7 1).trans R.c1
  · exact World.cell?_setCell_same _ _ _ ((c7 2).trans R.c2)
  · rw [World.cell?_setCell_other _ _ _ _ (fun h => by cases h)]; exact (c7 3).trans R.c3
  · rw [World.frozen?_setCell]
    exact (World.frozen?_of_block (w := wr) (hblk g7 hlt hne7)).trans R.f2
  · intro i hi
    by_cases e : i = k
    · subst e
      rw [if_pos rfl]
      refine ⟨?_, by simp; omega, ?_, by omega⟩
      · refine hrow2.block fun j => ?_
        rw [World.cell?_setCell_other _ _ _ _ (fun h => by cases h; omega)]
        refine World.cell?_of_block (w := w2) (a := ⟨wr.heap.size, j, none⟩) ?_
        show w3.heap[wr.heap.size]? = w2.heap[wr.heap.size]?
        rw [hgrow.block _ (by simp; omega) (fun e => by have := (hob _ e.symm).2; omega), Below.heap_alloc _ _ _ (by omega)]
      · intro e
        have e' : g = wr.heap.size := by simpa [Value.ownBlock] using e
        rcases hat with h | h
        · have := (hob g h).2; omega
        · omega
    · rw [if_neg e]
      obtain ⟨r1, r2, r3, r4⟩ := R.rows i (by omega)
      refine ⟨?_, by simp; omega, ?_, r4⟩
      · refine r1.block fun j => ?_
        rw [World.cell?_setCell_other _ _ _ _ (fun h => by cases h; omega)]
        exact hcell ⟨VB i, j, none⟩ r2 (Ne.symm r3)
      · intro e
        have e' : g = VB i := by simpa [Value.ownBlock] using e
        rcases hat with h | h
        · exact r3 (by rw [h, e'])
        · omega
  · exact ((R.bel).trans ⟨by rw [hgrow.os]; exact hbel2.os, by rw [hgrow.tape]; exact hbel2.tape, by rw [hgrow.output]; exact hbel2.output, by omega, fun j hj => hblk j (by omega) (fun e => by have := (hob j e.symm).1; omega)⟩).setCell (Nat.le_refl _) _
  · simp; omega

theorem after_call {wr w2 : World} (hb : Below wr.drew.heap.size wr.drew w2) (hlt : wr.drew.heap.size < w2.heap.size) {g7 : Nat} (hg : g7 < wr.heap.size) {p q : Addr} {u v x : Value}
    (h1 : wr.cell? ⟨g7, 2, none⟩ = some u) (h2 : wr.frozen? ⟨g7, 2, none⟩ = false) (h3 : wr.cell? p = some v) (h4 : wr.cell? q = some x) :
    w2.cell? ⟨g7, 2, none⟩ = some u ∧ w2.frozen? ⟨g7, 2, none⟩ = false ∧ (∀ o, (w2.alloc o).frozen? ⟨g7, 2, none⟩ = false) ∧ (∀ o, (w2.alloc o).cell? ⟨g7, 2, none⟩ = some u) ∧ w2.cell? p = some v ∧ w2.cell? q = some x := by
  have hf : w2.frozen? ⟨g7, 2, none⟩ = false := (hb.frozen (p := ⟨g7, 2, none⟩) hg).trans h2
  have hg2 : g7 < w2.heap.size := Nat.lt_trans hg hlt
  exact ⟨below_keep hb h1, hf, fun o => (World.frozen?_alloc_past (w := w2) o g7 2 hg2).trans hf, fun o => (World.cell?_alloc_past (w := w2) o g7 2 hg2).trans (below_keep hb h1), below_keep hb h3, below_keep hb h4⟩

theorem after_app {w2 w3 : World} {o : Obj} {own : Option Nat} (hg : (w2.alloc o).grownBy w3 own) {g7 : Nat} (hown : ∀ j, own = some j → g7 < j) {p q : Addr} {u v x : Value} (hp : p.block ≤ g7) (hq : q.block ≤ g7)
    (h1 : w2.cell? ⟨g7, 2, none⟩ = some u) (h2 : w2.frozen? ⟨g7, 2, none⟩ = false) (h3 : w2.cell? p = some v) (h4 : w2.cell? q = some x) :
    w3.cell? ⟨g7, 2, none⟩ = some u ∧ w3.frozen? ⟨g7, 2, none⟩ = false ∧ w3.cell? p = some v ∧ w3.cell? q = some x := by
  have hlt : ∀ (r : Addr) (y : Value), w2.cell? r = some y → r.block < (w2.alloc o).heap.size := fun r y h => by have := World.block_lt_of_cell? w2 r h; simp; omega
  have hne : ∀ j, j ≤ g7 → some j ≠ own := fun j hj e => by have := hown j e.symm; omega
  have hc : ∀ (r : Addr) (y : Value), r.block ≤ g7 → w2.cell? r = some y → w3.cell? r = some y := fun r y hr h => by
    rw [hg.cell_far r (hlt r y h) (hne _ hr), World.cell?_alloc_lt _ _ _ (World.block_lt_of_cell? w2 r h)]; exact h
  refine ⟨hc _ _ (Nat.le_refl _) h1, ?_, hc _ _ hp h3, hc _ _ hq h4⟩
  rw [hg.frozen_far ⟨g7, 2, none⟩ (hlt _ _ h1) (hne _ (Nat.le_refl _)), World.frozen?_alloc_past (w := w2) o g7 2 (World.block_lt_of_cell? w2 _ h1)]
  exact h2

/-- what 'zzs1481cbuild' leaves -/
def Built (w w' : World) (th : Int) (len0 : Nat) (z0 : List Int) (len : Nat) (T : Nat → Int) (L : Nat → Nat) (Z : Nat → List Int) (e : Ending) : Prop :=
  ∃ vb io cp VB base, e = .returned (.agg #[.int .i64 th, .slice (some ⟨vb, 0, none⟩) len0 len0, .slice io len cp, .int .i64 0]) ∧ Row .i64 w' (some ⟨vb, 0, none⟩) len0 z0 ∧
    w'.ownsRow base 96 4 (.slice io len cp) len (qcells T L VB len) ∧ (∀ i, i < len → Row .i64 w' (some ⟨VB i, 0, none⟩) (L i) (Z i)) ∧ Below w.heap.size w w'

/-- the four stores into the result's block -/
def fill4 (w : World) (N : Nat) (a b c d : Value) : World := (((w.setCell ⟨N, 0, none⟩ a).setCell ⟨N, 1, none⟩ b).setCell ⟨N, 2, none⟩ c).setCell ⟨N, 3, none⟩ d
theorem fill4_block (w : World) (N : Nat) (a b c d : Value) (k : Nat) (h : k ≠ N) : (fill4 w N a b c d).heap[k]? = w.heap[k]? := by
  unfold fill4
  rw [Below.heap_setCell _ _ _ _ h, Below.heap_setCell _ _ _ _ h, Below.heap_setCell _ _ _ _ h, Below.heap_setCell _ _ _ _ h]

theorem built_end {N g7 : Nat} {th : Int} {len0 : Nat} {z0 : List Int} {T : Nat → Int} {L : Nat → Nat} {Z : Nat → List Int} {w w1 wr : World} {k : Nat} {io : Option Addr} {cp : Nat} {VB : Nat → Nat}
    (R : BRel g7 th (.slice (some ⟨N + 1, 0, none⟩) len0 len0) T L Z w1 wr k io cp VB) (hg : N + 1 < g7) (hrow : Row .i64 w1 (some ⟨N + 1, 0, none⟩) len0 z0) (hb : Below w.heap.size w w1) (hw : w.heap.size = N) (a b c d : Value) :
    Built w (fill4 wr N a b c d) th len0 z0 k T L Z (.returned (.agg #[.int .i64 th, .slice (some ⟨N + 1, 0, none⟩) len0 len0, .slice io k cp, .int .i64 0])) := by
  have hcell : ∀ (B j : Nat), B ≠ N → (fill4 wr N a b c d).cell? ⟨B, j, none⟩ = wr.cell? ⟨B, j, none⟩ := fun B j h => World.cell?_of_block (w := wr) (a := ⟨B, j, none⟩) (fill4_block wr N a b c d B h)
  refine ⟨N + 1, io, cp, VB, g7 + 1, rfl, ?_, ?_, ?_, ?_⟩
  · refine hrow.block fun j => ?_
    rw [hcell _ _ (by omega)]
    exact R.bel.cell (p := ⟨N + 1, j, none⟩) hg
  · unfold fill4
    exact ownsRow_setCell_below (ownsRow_setCell_below (ownsRow_setCell_below (ownsRow_setCell_below R.own (by show N < g7 + 1; omega) _) (by show N < g7 + 1; omega) _) (by show N < g7 + 1; omega) _) (by show N < g7 + 1; omega) _
  · intro i hi
    obtain ⟨r1, _, _, r4⟩ := R.rows i hi
    exact r1.block fun j => hcell _ _ (by omega)
  · have hr : Below w.heap.size w wr := hb.trans (R.bel.mono (by omega))
    unfold fill4
    exact (((hr.setCell (by show w.heap.size ≤ N; omega) _).setCell (by show w.heap.size ≤ N; omega) _).setCell (by show w.heap.size ≤ N; omega) _).setCell (by show w.heap.size ≤ N; omega) _

/-- the result's own block, made first, is as it was made -/
theorem result_block {w w1 : World} (hbel : Below (w.alloc (.cells #[.int .i64 0, .slice none 0 0, .slice none 0 0, .int .i64 0] 96)).heap.size (w.alloc (.cells #[.int .i64 0, .slice none 0 0, .slice none 0 0, .int .i64 0] 96)) w1)
    (hlt : w.heap.size + 1 < w1.heap.size) : ∀ wr, Below w1.heap.size w1 wr → wr.cell? ⟨w.heap.size, 0, none⟩ = some (.int .i64 0) ∧ wr.cell? ⟨w.heap.size, 1, none⟩ = some (.slice none 0 0) ∧ wr.cell? ⟨w.heap.size, 2, none⟩ = some (.slice none 0 0) ∧ wr.cell? ⟨w.heap.size, 3, none⟩ = some (.int .i64 0) ∧
      wr.frozen? ⟨w.heap.size, 0, none⟩ = false ∧ wr.frozen? ⟨w.heap.size, 1, none⟩ = false ∧ wr.frozen? ⟨w.heap.size, 2, none⟩ = false ∧ wr.frozen? ⟨w.heap.size, 3, none⟩ = false := by
  intro wr hb
  have hc : ∀ j, wr.cell? ⟨w.heap.size, j, none⟩ = (w.alloc (.cells #[.int .i64 0, .slice none 0 0, .slice none 0 0, .int .i64 0] 96)).cell? ⟨w.heap.size, j, none⟩ := fun j =>
    (hb.cell (p := ⟨w.heap.size, j, none⟩) (by show w.heap.size < _; omega)).trans (hbel.cell (p := ⟨w.heap.size, j, none⟩) (by simp))
  have hf : ∀ j, wr.frozen? ⟨w.heap.size, j, none⟩ = (w.alloc (.cells #[.int .i64 0, .slice none 0 0, .slice none 0 0, .int .i64 0] 96)).frozen? ⟨w.heap.size, j, none⟩ := fun j =>
    (hb.frozen (p := ⟨w.heap.size, j, none⟩) (by show w.heap.size < _; omega)).trans (hbel.frozen (p := ⟨w.heap.size, j, none⟩) (by simp))
  refine ⟨?_, ?_, ?_, ?_, ?_, ?_, ?_, ?_⟩
  all_goals first | rw [hc] | rw [hf]
  all_goals simp

set_option maxRecDepth 100000 in
set_option maxHeartbeats 1600000 in
theorem build_any (th : Int) (a0 : Option Addr) (len0 cap0 : Nat) (z0 : List Int) (a : Option Addr) (len cap : Nat) (T : Nat → Int) (A : Nat → Option Addr) (L C : Nat → Nat) (Z : Nat → List Int) (w : World)
    (hr0 : Row .u8 w a0 len0 z0) (hb0 : ∀ i, i < z0.length → 0 ≤ z0.getD i 0 ∧ z0.getD i 0 < 256) (hl0 : len0 ≤ 1024)
    (hin : Inn w a len T A L C Z) (hl : len ≤ 1024) (hL : ∀ i, i < len → L i ≤ 1024) (ht1 : -128 ≤ th) (ht2 : th ≤ 127) :
    Calls Yba.prog 17 #[.int .i8 th, .slice a0 len0 cap0, .slice a len cap] w fun e w' => Built w w' th len0 z0 len T L Z e := by
  obtain ⟨i0, hi0, hz0, hz1, hz2⟩ := info_parts info96
  go_enter Yba.func17, Yba.ntmps17
  go_wp2_with (go_at_call 30; refine (vals_any a0 len0 cap0 z0 _ (hr0.below (by exact (Below.refl _ _).alloc (Nat.le_refl _) _)) hb0 hl0).mono ?_; rintro e w1 ⟨rfl, hrow, hbel, hlt⟩)
  rw [World.size_alloc] at hrow hlt
  have hbw : Below w.heap.size w w1 := ((Below.refl _ _).alloc (Nat.le_refl _) _).trans (hbel.mono (by simp))
  have hN : ∀ wr, Below w1.heap.size w1 wr → wr.cell? ⟨w.heap.size, 0, none⟩ = some (.int .i64 0) ∧ wr.cell? ⟨w.heap.size, 1, none⟩ = some (.slice none 0 0) ∧ wr.cell? ⟨w.heap.size, 2, none⟩ = some (.slice none 0 0) ∧ wr.cell? ⟨w.heap.size, 3, none⟩ = some (.int .i64 0) ∧
      wr.frozen? ⟨w.heap.size, 0, none⟩ = false ∧ wr.frozen? ⟨w.heap.size, 1, none⟩ = false ∧ wr.frozen? ⟨w.heap.size, 2, none⟩ = false ∧ wr.frozen? ⟨w.heap.size, 3, none⟩ = false := result_block hbel hlt
  clear hbel
  have hlt' : w.heap.size < w1.heap.size := by omega
  have hst := brel_start th (Value.slice (some ⟨w.heap.size + 1, 0, none⟩) len0 len0) T L Z w1 (fun _ => 0)
  generalize hg7 : w1.heap.size = g7 at *
  clear hg7
  go_loopg [8, 16] len (fun gg x i wr => ∃ (k : Nat) (io : Option Addr) (cp : Nat) (VB : Nat → Nat), k ≤ len ∧ gg = len - k ∧ i = .int .i64 k ∧ BRel g7 th (Value.slice (some ⟨w.heap.size + 1, 0, none⟩) len0 len0) T L Z w1 wr k io cp VB)
  case atStart => exact ⟨0, none, 0, _, Nat.zero_le _, rfl, rfl, hst⟩
  case round =>
    obtain ⟨k, io, cp, VB, hk, rfl, rfl, R⟩ := hrel
    clear hst
    by_cases hlt : k < len
    · obtain ⟨b, off, rfl, hc0, hc1⟩ := hin.cells k hlt
      have hblt : b < w.heap.size := World.block_lt_of_cell? w _ hc0
      have hbr : Below w.heap.size w wr := hbw.trans (R.bel.mono (by omega))
      have hd0 : wr.cell? ⟨b, off + k * 2, none⟩ = some (.int .i8 (T k)) := (hbr.cell (p := ⟨b, off + k * 2, none⟩) hblt).trans hc0
      have hd1 : wr.cell? ⟨b, off + k * 2 + 1, none⟩ = some (.slice (A k) (L k) (C k)) := (hbr.cell (p := ⟨b, off + k * 2 + 1, none⟩) hblt).trans hc1
      have hrk := (hin.row k hlt).below hbr
      have hsk := hin.small k hlt
      obtain ⟨htk1, htk2⟩ := hin.th k hlt
      have hwr : IntKind.i64.wrap (T k) = T k := by rw [IntKind.wrap_i64]; omega
      have hLk := hL k hlt
      have hc2 := R.c2
      have hf2 := R.f2
      have HR : Hid (BRel g7 th (Value.slice (some ⟨w.heap.size + 1, 0, none⟩) len0 len0) T L Z w1 wr k io cp VB) := R
      have hob : ∀ j, (Value.slice io k cp).ownBlock = some j → g7 < j := fun j hj => (R.own.lt j hj).1
      have hbg : b ≤ g7 := by omega
      clear R hc0 hc1 hbr hin hL
      have hki0 : (0 : Int) ≤ (k : Int) := by omega
      have hki1 : (k : Int) < (len : Int) := by omega
      go_wp2_with fail
      go_region_law (first
          | (refine step_append_lies _ (by rfl) _ _ _ (by rfl) (g7 + 1) 96 i0 _ 4 64 Yba.underlying94 hi0 hz0 hz1 hz2 rfl (by omega) (.slice io k cp) k (qcells T L VB k) (by rfl) ((owns_below (w := wr.drew) HR.out.own.drew hbel2).alloc _) ⟨w2.heap.size, 0, none⟩ 1 1 [.int .i64 (T k), .slice (some ⟨wr.heap.size, 0, none⟩) (L k) (L k), .slice none 0 0, .int .i64 0] (by rfl) (by rfl) (World.news_of_block (cs := #[.int .i64 (T k), .slice (some ⟨wr.heap.size, 0, none⟩) (L k) (L k), .slice none 0 0, .int .i64 0]) (t := 96) (fr := (0, 0)) (heap_alloc_new w2 _)) (by simp [Value.oneCell']) (by omega) (by unfold maxLen; omega) (by omega) (by simp; have := HR.out.lt; simp at hlt2; omega) (w2.heap.size + 1) (by simp) ?_; intro gg cap3 w3 hown3 hgrow hat hlt3; obtain ⟨mc2, mf2, md0, md1⟩ := after_app hgrow hob (p := ⟨b, off + k * 2, none⟩) (q := ⟨b, off + k * 2 + 1, none⟩) hbg hbg kc2 kf2 kd0 kd1)
          | (go_simp; go_wp2_with (go_at_call 30; refine (vals_any (A k) (L k) (C k) (Z k) _ ?_ hsk hLk).mono ?_; (exact hrk.keep (by simp)); rintro e w2 ⟨rfl, hrow2, hbel2, hlt2⟩; obtain ⟨kc2, kf2, kfa, kca, kd0, kd1⟩ := after_call hbel2 hlt2 HR.out.lt hc2 hf2 hd0 hd1))
          | fail)
      all_goals
        go_wp2_with fail
        go_roundg (len - (k + 1))
        case rel => exact ⟨k + 1, some ⟨gg, 0, none⟩, cap3, _, by omega, rfl, by go_num, brel_step HR.out hbel2 (by exact hlt2) hrow2 hown3 hgrow hat⟩
        case measure => omega
    · have hk' : k = len := by omega
      subst hk'
      clear hin hL
      obtain ⟨n0, n1, n2, n3, m0, m1, m2, m3⟩ := hN wr R.bel
      have hc0 := R.c0
      have hc1 := R.c1
      have hc2 := R.c2
      have hc3 := R.c3
      have HR : Hid (BRel g7 th (Value.slice (some ⟨w.heap.size + 1, 0, none⟩) len0 len0) T L Z w1 wr k io cp VB) := R
      clear R
      have hNg : g7 ≠ w.heap.size := by omega
      go_wp2_with fail
      have hlt1 : w.heap.size + 1 < g7 := by assumption
      exact bodyPost_ret (v := .agg #[.int .i64 th, .slice (some ⟨w.heap.size + 1, 0, none⟩) len0 len0, .slice io k cp, .int .i64 0]) (by simp [results, Yba.results17, go_sem, n0, n1, n2, n3]) rfl (built_end HR.out hlt1 hrow hbw rfl _ _ _ _)
end Go.Proofs.Ybulkadqm.CM
