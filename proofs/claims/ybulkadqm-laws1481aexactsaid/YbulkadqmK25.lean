import Derived.Test.YbulkadqmK17
import Derived.Test.YbulkadqmK24
namespace Go.Proofs.Ybulkadqm.AK
open Go.RowKit

/-- the slot that build lays -/
structure SlotAt (w : World) (sb eb mb kb zb : Nat) (pl : Value) (idx ph : Int) (pB pP pPP pH : Option Addr) (stopped : Bool) : Prop where
  e : w.cell? ⟨sb, 0, none⟩ = some (.pointer (some ⟨eb, 0, none⟩))
  ix : w.cell? ⟨sb, 1, none⟩ = some (.int .u64 idx)
  bl : w.cell? ⟨sb, 4, none⟩ = some (.map (some mb))
  st : w.cell? ⟨sb, 5, none⟩ = some (.bool stopped)
  ph : w.cell? ⟨sb, 15, none⟩ = some (.int .i64 ph)
  b : w.cell? ⟨sb, 16, none⟩ = some (.pointer pB)
  p : w.cell? ⟨sb, 17, none⟩ = some (.pointer pP)
  pp : w.cell? ⟨sb, 18, none⟩ = some (.pointer pPP)
  h : w.cell? ⟨sb, 19, none⟩ = some (.pointer pH)
  f5 : w.frozen? ⟨sb, 5, none⟩ = false
  f16 : w.frozen? ⟨sb, 16, none⟩ = false
  f19 : w.frozen? ⟨sb, 19, none⟩ = false
  m : w.heap[mb]? = some (.map #[⟨k1, .agg (stL pl).toArray, 0⟩] 1)
  id : w.rangeAt eb 0 k1L
  kn : w.cell? ⟨eb, 69, none⟩ = some (.map (some kb))
  hk : w.heap[kb]? = some (.map #[⟨h0, .pointer (some ⟨zb, 0, none⟩), 0⟩] 1)
  z : w.rangeAt zb 0 s0L
  tm : w.cell? ⟨eb, 79, none⟩ = some (.slice none 0 0)
  ft : w.frozen? ⟨eb, 79, none⟩ = false
theorem SlotAt.below {w w' : World} {sb eb mb kb zb : Nat} {pl : Value} {idx ph : Int} {pB pP pPP pH : Option Addr} {stopped : Bool} (h : SlotAt w sb eb mb kb zb pl idx ph pB pP pPP pH stopped) (hb : Below w.heap.size w w') : SlotAt w' sb eb mb kb zb pl idx ph pB pP pPP pH stopped := by
  have l1 := World.block_lt_of_cell? w _ h.e
  have l2 := World.block_lt_of_cell? w _ h.tm
  exact ⟨below_keep hb h.e, below_keep hb h.ix, below_keep hb h.bl, below_keep hb h.st, below_keep hb h.ph, below_keep hb h.b, below_keep hb h.p, below_keep hb h.pp, below_keep hb h.h,
    (hb.frozen (p := ⟨sb, 5, none⟩) l1).trans h.f5, (hb.frozen (p := ⟨sb, 16, none⟩) l1).trans h.f16, (hb.frozen (p := ⟨sb, 19, none⟩) l1).trans h.f19,
    below_obj hb h.m, below_range hb h.id, below_keep hb h.kn, below_obj hb h.hk, below_range hb h.z, below_keep hb h.tm, (hb.frozen (p := ⟨eb, 79, none⟩) l2).trans h.ft⟩

/-- the cells that confirmPrepared may write -/
def ex (sb eb : Nat) (p : Addr) : Prop := p = ⟨sb, 5, none⟩ ∨ p = ⟨sb, 16, none⟩ ∨ p = ⟨sb, 19, none⟩ ∨ p = ⟨eb, 79, none⟩
structure Fr (sb eb : Nat) (w w' : World) : Prop where
  os : w'.os = w.os
  tape : w'.tape = w.tape
  output : w'.output = w.output
  size : w.heap.size ≤ w'.heap.size
  cell : ∀ p, p.block < w.heap.size → ¬ ex sb eb p → w'.cell? p = w.cell? p
  frozen : ∀ p, p.block < w.heap.size → w'.frozen? p = w.frozen? p
  obj : ∀ k, k < w.heap.size → k ≠ sb → k ≠ eb → w'.heap[k]? = w.heap[k]?
theorem Fr.of_below {sb eb : Nat} {w w' : World} (h : Below w.heap.size w w') : Fr sb eb w w' :=
  ⟨h.os, h.tape, h.output, h.size, fun _ hp _ => h.cell hp, fun _ hp => h.frozen hp, fun k hk _ _ => h.block k hk⟩
theorem Fr.trans {sb eb : Nat} {a b c : World} (h : Fr sb eb a b) (k : Fr sb eb b c) : Fr sb eb a c :=
  ⟨k.os.trans h.os, k.tape.trans h.tape, k.output.trans h.output, Nat.le_trans h.size k.size,
   fun p hp he => (k.cell p (Nat.lt_of_lt_of_le hp h.size) he).trans (h.cell p hp he),
   fun p hp => (k.frozen p (Nat.lt_of_lt_of_le hp h.size)).trans (h.frozen p hp),
   fun i hi h1 h2 => (k.obj i (Nat.lt_of_lt_of_le hi h.size) h1 h2).trans (h.obj i hi h1 h2)⟩
theorem Fr.set {sb eb : Nat} (w : World) (p : Addr) (v : Value) (hp : ex sb eb p) : Fr sb eb w (w.setCell p v) := by
  refine ⟨rfl, rfl, rfl, by simp, fun q _ hq => World.cell?_setCell_other _ _ _ _ (fun e => hq (e ▸ hp)), fun q _ => by simp, fun k _ h1 h2 => Below.heap_setCell _ _ _ _ ?_⟩
  rcases hp with rfl | rfl | rfl | rfl
  · exact h1
  · exact h1
  · exact h1
  · exact h2
theorem Fr.keep {sb eb : Nat} {w w' : World} (h : Fr sb eb w w') {p : Addr} {v : Value} (he : ¬ ex sb eb p) (hv : w.cell? p = some v) : w'.cell? p = some v :=
  (h.cell p (World.block_lt_of_cell? w _ hv) he).trans hv
theorem ex_off {sb eb b o : Nat} (h5 : o ≠ 5) (h16 : o ≠ 16) (h19 : o ≠ 19) (h79 : o ≠ 79) : ¬ ex sb eb ⟨b, o, none⟩ := by
  rintro (h | h | h | h) <;> (injection h with a b; omega)
theorem Fr.val {sb eb : Nat} {w w' : World} (h : Fr sb eb w w') {g n v : Nat} (hv : VAt w g n v) : VAt w' g n v := by
  have he : ¬ ex sb eb ⟨g, 0, none⟩ := ex_off (by omega) (by omega) (by omega) (by omega)
  rcases hv with h0 | ⟨h1, h2, h3⟩ | ⟨h1, h2, h3⟩
  · exact .inl h0
  · exact .inr (.inl ⟨h1, h2, h.keep he h3⟩)
  · exact .inr (.inr ⟨h1, h2, h.keep he h3⟩)
theorem Fr.bat {sb eb : Nat} {w w' : World} (h : Fr sb eb w w') {b g n v : Nat} {c : Int} (hv : BAt w b c g n v) : BAt w' b c g n v :=
  ⟨h.keep (ex_off (by omega) (by omega) (by omega) (by omega)) hv.c0, h.keep (ex_off (by omega) (by omega) (by omega) (by omega)) hv.c1, h.val hv.val⟩

/-- the first candidate that is confirmed; none where one at or below h comes first -/
def pick (hasH : Bool) (hc : Int) (hv : Nat) (ok : Bl → Bool) : List Bl → Option Bl
  | [] => none
  | x :: r => if hasH && decide (cmpB x.c x.v hc hv ≤ 0) then none else if ok x then some x else pick hasH hc hv ok r
theorem pick_drop {hasH : Bool} {hc : Int} {hv : Nat} {ok : Bl → Bool} {L : List Bl} {i : Nat} {x : Bl} (h : L[i]? = some x) :
    pick hasH hc hv ok (L.drop i) = if hasH && decide (cmpB x.c x.v hc hv ≤ 0) then none else if ok x then some x else pick hasH hc hv ok (L.drop (i + 1)) := by
  have : L.drop i = x :: L.drop (i + 1) := by
    obtain ⟨hi, rfl⟩ := List.getElem?_eq_some_iff.1 h
    exact List.drop_eq_getElem_cons hi
  rw [this]
  rfl

/-- what confirmPrepared leaves behind when it confirms x -/
structure Done (w w' : World) (sb eb : Nat) (idx : Int) (stopped : Bool) (pB : Option Addr) (keep : Bool) (x : Bl) : Prop where
  fr : Fr sb eb w w'
  h : ∃ hb, w'.cell? ⟨sb, 19, none⟩ = some (.pointer (some ⟨hb, 0, none⟩)) ∧ w.heap.size ≤ hb ∧ BAt w' hb x.c x.g x.n x.v ∧ w'.heap[hb]? = some (.cells #[.int .u32 x.c, .slice (some ⟨x.g, 0, none⟩) x.n x.n] 75 (0, 0))
  b : (keep = true ∧ w'.cell? ⟨sb, 16, none⟩ = some (.pointer pB)) ∨ (keep = false ∧ ∃ bb, w'.cell? ⟨sb, 16, none⟩ = some (.pointer (some ⟨bb, 0, none⟩)) ∧ w.heap.size ≤ bb ∧ BAt w' bb x.c x.g x.n x.v ∧ w'.heap[bb]? = some (.cells #[.int .u32 x.c, .slice (some ⟨x.g, 0, none⟩) x.n x.n] 75 (0, 0)))
  st : w'.cell? ⟨sb, 5, none⟩ = some (.bool true)
  tm : (stopped = true ∧ w'.cell? ⟨eb, 79, none⟩ = some (.slice none 0 0)) ∨ (stopped = false ∧ ∃ tb cap, w'.cell? ⟨eb, 79, none⟩ = some (.slice (some ⟨tb, 0, none⟩) 1 cap) ∧ w'.rangeAt tb 0 (timL idx))
/-- the world ahead of stopNomination -/
structure Mid (w wA : World) (sb eb : Nat) (idx : Int) (stopped : Bool) (pB : Option Addr) (keep : Bool) (x : Bl) : Prop where
  fr : Fr sb eb w wA
  h : ∃ hb, wA.cell? ⟨sb, 19, none⟩ = some (.pointer (some ⟨hb, 0, none⟩)) ∧ w.heap.size ≤ hb ∧ BAt wA hb x.c x.g x.n x.v ∧ wA.heap[hb]? = some (.cells #[.int .u32 x.c, .slice (some ⟨x.g, 0, none⟩) x.n x.n] 75 (0, 0))
  b : (keep = true ∧ wA.cell? ⟨sb, 16, none⟩ = some (.pointer pB)) ∨ (keep = false ∧ ∃ bb, wA.cell? ⟨sb, 16, none⟩ = some (.pointer (some ⟨bb, 0, none⟩)) ∧ w.heap.size ≤ bb ∧ BAt wA bb x.c x.g x.n x.v ∧ wA.heap[bb]? = some (.cells #[.int .u32 x.c, .slice (some ⟨x.g, 0, none⟩) x.n x.n] 75 (0, 0)))
  e : wA.cell? ⟨sb, 0, none⟩ = some (.pointer (some ⟨eb, 0, none⟩))
  ix : wA.cell? ⟨sb, 1, none⟩ = some (.int .u64 idx)
  f16 : wA.frozen? ⟨sb, 16, none⟩ = false
  st : wA.cell? ⟨sb, 5, none⟩ = some (.bool stopped)
  f5 : wA.frozen? ⟨sb, 5, none⟩ = false
  tm : wA.cell? ⟨eb, 79, none⟩ = some (.slice none 0 0)
  ft : wA.frozen? ⟨eb, 79, none⟩ = false
theorem Mid.stop {w wA : World} {sb eb : Nat} {idx : Int} {stopped : Bool} {pB : Option Addr} {keep : Bool} {x : Bl} (h : Mid w wA sb eb idx stopped pB keep x) :
    Calls Yba.prog 25 #[.pointer (some ⟨sb, 0, none⟩)] wA fun e w' => e = .returned (.tuple #[]) ∧ Done w w' sb eb idx stopped pB keep x := by
  cases stopped with
  | true =>
    refine (stop_true sb wA h.st).mono ?_
    rintro e w' ⟨rfl, rfl⟩
    exact ⟨rfl, h.fr, h.h, h.b, h.st, .inl ⟨rfl, h.tm⟩⟩
  | false =>
    refine (stop_false sb eb idx wA h.e h.ix h.st h.f5 h.tm h.ft).mono ?_
    rintro e w' ⟨rfl, g, cap, w1, rfl, hr, hg, hb⟩
    have hs1 : (wA.setCell ⟨sb, 5, none⟩ (.bool true)).heap.size = wA.heap.size := by simp
    have hb' : Below (wA.setCell ⟨sb, 5, none⟩ (.bool true)).heap.size (wA.setCell ⟨sb, 5, none⟩ (.bool true)) w1 := by rw [hs1]; exact hb
    have F : Fr sb eb wA (w1.setCell ⟨eb, 79, none⟩ (.slice (some ⟨g, 0, none⟩) 1 cap)) :=
      ((Fr.set wA _ _ (.inl rfl)).trans (Fr.of_below hb')).trans (Fr.set w1 _ _ (.inr (.inr (.inr rfl))))
    have k1 : ∀ p v, p ≠ ⟨sb, 5, none⟩ → p ≠ ⟨eb, 79, none⟩ → wA.cell? p = some v → (w1.setCell ⟨eb, 79, none⟩ (.slice (some ⟨g, 0, none⟩) 1 cap)).cell? p = some v := fun p v h5 h79 hv => by
      rw [World.cell?_setCell_other _ _ _ _ (fun e => h79 e.symm)]
      exact below_keep hb' ((World.cell?_setCell_other _ _ _ _ (fun e => h5 e.symm)).trans hv)
    have ok : ∀ b0 : Nat, wA.heap[b0]? = some (Obj.cells #[.int .u32 x.c, .slice (some ⟨x.g, 0, none⟩) x.n x.n] 75 (0, 0)) → (w1.setCell ⟨eb, 79, none⟩ (.slice (some ⟨g, 0, none⟩) 1 cap)).heap[b0]? = some (Obj.cells #[.int .u32 x.c, .slice (some ⟨x.g, 0, none⟩) x.n x.n] 75 (0, 0)) := fun b0 h0 => by
      have e1 : b0 ≠ sb := by rintro rfl; have := h.st; rw [cell_of_row _ _ _ _ _ _ h0] at this; simp at this
      have e2 : b0 ≠ eb := by rintro rfl; have := h.tm; rw [cell_of_row _ _ _ _ _ _ h0] at this; simp at this
      exact (F.obj b0 (Array.getElem?_eq_some_iff.1 h0).1 e1 e2).trans h0
    have ht1 : w1.cell? ⟨eb, 79, none⟩ = some (.slice none 0 0) := below_keep hb' ((World.cell?_setCell_other _ _ _ _ (by simp)).trans h.tm)
    refine ⟨rfl, h.fr.trans F, ?_, ?_, ?_, .inr ⟨rfl, g, cap, World.cell?_setCell_same _ _ _ ht1, ?_⟩⟩
    · obtain ⟨hb0, h1, h2, h3, h4⟩ := h.h
      exact ⟨hb0, k1 _ _ (by simp) (by simp) h1, h2, F.bat h3, ok hb0 h4⟩
    · rcases h.b with ⟨h0, h1⟩ | ⟨h0, bb, h1, h2, h3, h4⟩
      · exact .inl ⟨h0, k1 _ _ (by simp) (by simp) h1⟩
      · exact .inr ⟨h0, bb, k1 _ _ (by simp) (by simp) h1, h2, F.bat h3, ok bb h4⟩
    · rw [World.cell?_setCell_other _ _ _ _ (by simp)]
      exact below_keep hb' (World.cell?_setCell_same _ _ _ h.st)
    · intro j v hj
      rw [World.cell?_setCell_other _ _ _ _ (fun e => by
        injection e with e1 e2
        have := (List.getElem?_eq_some_iff.1 hj).1
        simp at this
        omega)]
      exact hr j v hj
theorem Mid.b16 {w wA : World} {sb eb : Nat} {idx : Int} {stopped : Bool} {pB : Option Addr} {x : Bl} (h : Mid w wA sb eb idx stopped pB true x) : wA.cell? ⟨sb, 16, none⟩ = some (.pointer pB) := by
  rcases h.b with h | h
  · exact h.2
  · cases h.1
theorem Mid.below {w wA wB : World} {sb eb : Nat} {idx : Int} {stopped : Bool} {pB : Option Addr} {keep : Bool} {x : Bl} (h : Mid w wA sb eb idx stopped pB keep x) (hb : Below wA.heap.size wA wB) : Mid w wB sb eb idx stopped pB keep x := by
  have l1 := World.block_lt_of_cell? wA _ h.e
  have l2 := World.block_lt_of_cell? wA _ h.tm
  refine ⟨h.fr.trans (Fr.of_below hb), ?_, ?_, below_keep hb h.e, below_keep hb h.ix, (hb.frozen (p := ⟨sb, 16, none⟩) l1).trans h.f16, below_keep hb h.st, (hb.frozen (p := ⟨sb, 5, none⟩) l1).trans h.f5, below_keep hb h.tm, (hb.frozen (p := ⟨eb, 79, none⟩) l2).trans h.ft⟩
  · obtain ⟨hb0, h1, h2, h3, h4⟩ := h.h
    exact ⟨hb0, below_keep hb h1, h2, h3.below hb, below_obj hb h4⟩
  · rcases h.b with ⟨h0, h1⟩ | ⟨h0, bb, h1, h2, h3, h4⟩
    · exact .inl ⟨h0, below_keep hb h1⟩
    · exact .inr ⟨h0, bb, below_keep hb h1, h2, h3.below hb, below_obj hb h4⟩
theorem PAt.fr {w w' : World} {sb eb lo : Nat} {has : Bool} {c : Int} {v : Nat} {p : Option Addr} (h : PAt w lo has c v p) (hf : Fr sb eb w w') : PAt w' lo has c v p := by
  rcases h with h | ⟨h1, b, g, n, h2, h3, h4⟩
  · exact .inl h
  · exact .inr ⟨h1, b, g, n, h2, hf.bat h3, h4⟩
theorem mid_start {w wc : World} {sb eb mb kb zb : Nat} {pl : Value} {idx ph : Int} {pB pP pPP pH : Option Addr} {stopped : Bool} {x : Bl} (SL : SlotAt wc sb eb mb kb zb pl idx ph pB pP pPP pH stopped) (hb : Below w.heap.size w wc) (hx : VAt wc x.g x.n x.v) :
    Fr sb eb wc ((wc.alloc (.cells #[.int .u32 x.c, .slice (some ⟨x.g, 0, none⟩) x.n x.n] 75)).setCell ⟨sb, 19, none⟩ (.pointer (some ⟨wc.heap.size, 0, none⟩))) ∧
    Mid w ((wc.alloc (.cells #[.int .u32 x.c, .slice (some ⟨x.g, 0, none⟩) x.n x.n] 75)).setCell ⟨sb, 19, none⟩ (.pointer (some ⟨wc.heap.size, 0, none⟩))) sb eb idx stopped pB true x ∧
    VAt ((wc.alloc (.cells #[.int .u32 x.c, .slice (some ⟨x.g, 0, none⟩) x.n x.n] 75)).setCell ⟨sb, 19, none⟩ (.pointer (some ⟨wc.heap.size, 0, none⟩))) x.g x.n x.v := by
  have hbx := boxed_below wc x.c x.g x.n
  have ha := boxed_at wc x.c x.g x.n
  unfold boxed at hbx ha
  have F2 := Fr.set (sb := sb) (eb := eb) (wc.alloc (.cells #[.int .u32 x.c, .slice (some ⟨x.g, 0, none⟩) x.n x.n] 75)) ⟨sb, 19, none⟩ (.pointer (some ⟨wc.heap.size, 0, none⟩)) (.inr (.inr (.inl rfl)))
  have F : Fr sb eb wc _ := (Fr.of_below hbx).trans F2
  have k : ∀ p v, p ≠ ⟨sb, 19, none⟩ → wc.cell? p = some v → ((wc.alloc (.cells #[.int .u32 x.c, .slice (some ⟨x.g, 0, none⟩) x.n x.n] 75)).setCell ⟨sb, 19, none⟩ (.pointer (some ⟨wc.heap.size, 0, none⟩))).cell? p = some v := fun p v hp hv =>
    (World.cell?_setCell_other _ _ _ _ (fun e => hp e.symm)).trans (below_keep hbx hv)
  have l1 := World.block_lt_of_cell? wc _ SL.e
  have l2 := World.block_lt_of_cell? wc _ SL.tm
  refine ⟨F, ⟨(Fr.of_below hb).trans F, ⟨wc.heap.size, World.cell?_setCell_same _ _ _ (below_keep hbx SL.h), hb.size, F2.bat ⟨ha.1, ha.2, hx.below hbx⟩, (Below.heap_setCell _ _ _ _ (by have : sb < wc.heap.size := l1; show wc.heap.size ≠ sb; omega)).trans (heap_at _ rfl)⟩, .inl ⟨rfl, k _ _ (by simp) SL.b⟩, k _ _ (by simp) SL.e, k _ _ (by simp) SL.ix, (F.frozen ⟨sb, 16, none⟩ l1).trans SL.f16, k _ _ (by simp) SL.st, (F.frozen ⟨sb, 5, none⟩ l1).trans SL.f5, k _ _ (by simp) SL.tm, (F.frozen ⟨eb, 79, none⟩ l2).trans SL.ft⟩, F.val hx⟩
theorem Mid.set_b {w wc : World} {sb eb : Nat} {idx : Int} {stopped : Bool} {pB : Option Addr} {x : Bl} (h : Mid w wc sb eb idx stopped pB true x) (hx : VAt wc x.g x.n x.v) :
    Mid w ((wc.alloc (.cells #[.int .u32 x.c, .slice (some ⟨x.g, 0, none⟩) x.n x.n] 75)).setCell ⟨sb, 16, none⟩ (.pointer (some ⟨wc.heap.size, 0, none⟩))) sb eb idx stopped pB false x := by
  have hbx := boxed_below wc x.c x.g x.n
  have ha := boxed_at wc x.c x.g x.n
  unfold boxed at hbx ha
  have F2 := Fr.set (sb := sb) (eb := eb) (wc.alloc (.cells #[.int .u32 x.c, .slice (some ⟨x.g, 0, none⟩) x.n x.n] 75)) ⟨sb, 16, none⟩ (.pointer (some ⟨wc.heap.size, 0, none⟩)) (.inr (.inl rfl))
  have F : Fr sb eb wc _ := (Fr.of_below hbx).trans F2
  have k : ∀ p v, p ≠ ⟨sb, 16, none⟩ → wc.cell? p = some v → ((wc.alloc (.cells #[.int .u32 x.c, .slice (some ⟨x.g, 0, none⟩) x.n x.n] 75)).setCell ⟨sb, 16, none⟩ (.pointer (some ⟨wc.heap.size, 0, none⟩))).cell? p = some v := fun p v hp hv =>
    (World.cell?_setCell_other _ _ _ _ (fun e => hp e.symm)).trans (below_keep hbx hv)
  have l1 := World.block_lt_of_cell? wc _ h.e
  have l2 := World.block_lt_of_cell? wc _ h.tm
  refine ⟨h.fr.trans F, ?_, .inr ⟨rfl, wc.heap.size, World.cell?_setCell_same _ _ _ (below_keep hbx h.b16), h.fr.size, F2.bat ⟨ha.1, ha.2, hx.below hbx⟩, (Below.heap_setCell _ _ _ _ (by have : sb < wc.heap.size := l1; show wc.heap.size ≠ sb; omega)).trans (heap_at _ rfl)⟩, k _ _ (by simp) h.e, k _ _ (by simp) h.ix, (F.frozen ⟨sb, 16, none⟩ l1).trans h.f16, k _ _ (by simp) h.st, (F.frozen ⟨sb, 5, none⟩ l1).trans h.f5, k _ _ (by simp) h.tm, (F.frozen ⟨eb, 79, none⟩ l2).trans h.ft⟩
  obtain ⟨hb0, h1, h2, h3, h4⟩ := h.h
  have e1 : hb0 ≠ sb := by rintro rfl; have := h.st; rw [cell_of_row _ _ _ _ _ _ h4] at this; simp at this
  exact ⟨hb0, k _ _ (by simp) h1, h2, F.bat h3, (Below.heap_setCell _ _ _ _ e1).trans (heap_old _ h4)⟩
end Go.Proofs.Ybulkadqm.AK
