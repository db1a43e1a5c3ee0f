import Derived.Test.YbulkadqmK27
namespace Go.Proofs.Ybulkadqm.AK
open Go.RowKit
set_option linter.unusedSimpArgs false

theorem one_k1 : k1L.toArray.all (·.oneCell') = true := by kernel_rfl
theorem put_h0 {w : World} {b : Nat} (v : Value) (hb : w.heap[b]? = some (.map #[] 0)) :
    ∃ W, (Instr.mapUpdate 60 (.map (some b)) h0 v).run Yba.prog w = .ok () W ∧ Only b w W ∧ W.heap[b]? = some (.map #[⟨h0, v, 0⟩] 1) := by
  have hf : (Instr.findKey 48 h0 []).run Yba.prog w = .ok none w := by kernel_rfl
  refine ⟨_, ?_, only_set _ _ _, set_at _ hb⟩
  simp only [Instr.mapUpdate, Sem.run_bind, run_underlying Yba.underlying60, obj_map hb, check48, hf, Result.andThen]
  rw [set_map _ hb]
  rfl

theorem PAt.lo {w : World} {lo lo' : Nat} {has : Bool} {c : Int} {v : Nat} {p : Option Addr} (h : PAt w lo has c v p) (hl : lo' ≤ lo) : PAt w lo' has c v p := by
  rcases h with h | ⟨h1, b, g, n, h2, h3, h4⟩
  · exact .inl h
  · exact .inr ⟨h1, b, g, n, h2, h3, Nat.le_trans hl h4⟩
theorem there_block {w : World} {b o n : Nat} {C : Array Value} {t : TypeId} (h : w.heap[b]? = some (.cells C t (0, 0))) (hs : o + n ≤ C.size) : w.there b o n := fun j hj => by
  refine ⟨?_, ?_⟩
  · rw [cell_of_row _ _ (o + j) C t (0, 0) h]
    have : o + j < C.size := by omega
    simp [this]
  · unfold World.frozen?
    rw [h]
    simp
/-- the slot, but for its map of statements -/
structure SlotE (w : World) (sb eb mb kb zb : Nat) (idx ph : Int) (pB pP pPP pH : Option Addr) (stopped : Bool) : Prop where
  e : w.cell? ⟨sb, 0, none⟩ = some (.pointer (some ⟨eb, 0, none⟩))
  ix : w.cell? ⟨sb, 1, none⟩ = some (.int .u64 idx)
  bl : w.cell? ⟨sb, 4, none⟩ = some (.map (some mb))
  st : w.cell? ⟨sb, 5, none⟩ = some (.bool stopped)
  ph : w.cell? ⟨sb, 15, none⟩ = some (.int .i64 ph)
  b : w.cell? ⟨sb, 16, none⟩ = some (.pointer pB)
  p : w.cell? ⟨sb, 17, none⟩ = some (.pointer pP)
  pp : w.cell? ⟨sb, 18, none⟩ = some (.pointer pPP)
  h : w.cell? ⟨sb, 19, none⟩ = some (.pointer pH)
  f5 : w.frozen? ⟨sb, 5, none⟩ = false
  f16 : w.frozen? ⟨sb, 16, none⟩ = false
  f19 : w.frozen? ⟨sb, 19, none⟩ = false
  id : w.rangeAt eb 0 k1L
  kn : w.cell? ⟨eb, 69, none⟩ = some (.map (some kb))
  hk : w.heap[kb]? = some (.map #[⟨h0, .pointer (some ⟨zb, 0, none⟩), 0⟩] 1)
  z : w.rangeAt zb 0 s0L
  tm : w.cell? ⟨eb, 79, none⟩ = some (.slice none 0 0)
  ft : w.frozen? ⟨eb, 79, none⟩ = false
theorem SlotE.full {w : World} {sb eb mb kb zb : Nat} {idx ph : Int} {pB pP pPP pH : Option Addr} {stopped : Bool} {pl : Value} (h : SlotE w sb eb mb kb zb idx ph pB pP pPP pH stopped) (hm : w.heap[mb]? = some (.map #[⟨k1, .agg (stL pl).toArray, 0⟩] 1)) : SlotAt w sb eb mb kb zb pl idx ph pB pP pPP pH stopped :=
  ⟨h.e, h.ix, h.bl, h.st, h.ph, h.b, h.p, h.pp, h.h, h.f5, h.f16, h.f19, hm, h.id, h.kn, h.hk, h.z, h.tm, h.ft⟩
theorem SlotE.below {w w' : World} {sb eb mb kb zb : Nat} {idx ph : Int} {pB pP pPP pH : Option Addr} {stopped : Bool} (h : SlotE w sb eb mb kb zb idx ph pB pP pPP pH stopped) (hb : Below w.heap.size w w') : SlotE w' sb eb mb kb zb idx ph pB pP pPP pH stopped := by
  have l1 := World.block_lt_of_cell? w _ h.e
  have l2 := World.block_lt_of_cell? w _ h.tm
  exact ⟨below_keep hb h.e, below_keep hb h.ix, below_keep hb h.bl, below_keep hb h.st, below_keep hb h.ph, below_keep hb h.b, below_keep hb h.p, below_keep hb h.pp, below_keep hb h.h,
    (hb.frozen (p := ⟨sb, 5, none⟩) l1).trans h.f5, (hb.frozen (p := ⟨sb, 16, none⟩) l1).trans h.f16, (hb.frozen (p := ⟨sb, 19, none⟩) l1).trans h.f19,
    below_range hb h.id, below_keep hb h.kn, below_obj hb h.hk, below_range hb h.z, below_keep hb h.tm, (hb.frozen (p := ⟨eb, 79, none⟩) l2).trans h.ft⟩
theorem Only.frozen {r : Nat} {w w' : World} (h : Only r w w') {p : Addr} (hp : p.block ≠ r) : w'.frozen? p = w.frozen? p := World.frozen?_of_block (w := w) (h.block p.block hp)
theorem SlotE.only {w w' : World} {sb eb mb kb zb : Nat} {idx ph : Int} {pB pP pPP pH : Option Addr} {stopped : Bool} (h : SlotE w sb eb mb kb zb idx ph pB pP pPP pH stopped) {r : Nat} (hb : Only r w w') (h1 : sb ≠ r) (h2 : eb ≠ r) (h3 : kb ≠ r) (h4 : zb ≠ r) : SlotE w' sb eb mb kb zb idx ph pB pP pPP pH stopped :=
  ⟨hb.cell h1 h.e, hb.cell h1 h.ix, hb.cell h1 h.bl, hb.cell h1 h.st, hb.cell h1 h.ph, hb.cell h1 h.b, hb.cell h1 h.p, hb.cell h1 h.pp, hb.cell h1 h.h,
    (hb.frozen h1).trans h.f5, (hb.frozen h1).trans h.f16, (hb.frozen h1).trans h.f19, hb.range h2 h.id, hb.cell h2 h.kn, hb.obj h3 h.hk, hb.range h4 h.z, hb.cell h2 h.tm, (hb.frozen h2).trans h.ft⟩
theorem SlotE.set5 {w : World} {sb eb mb kb zb : Nat} {idx ph : Int} {pB pP pPP pH : Option Addr} {stopped : Bool} (h : SlotE w sb eb mb kb zb idx ph pB pP pPP pH stopped) (b : Bool) (hkb : kb ≠ sb) : SlotE (w.setCell ⟨sb, 5, none⟩ (.bool b)) sb eb mb kb zb idx ph pB pP pPP pH b := by
  have k : ∀ p v, p ≠ ⟨sb, 5, none⟩ → w.cell? p = some v → (w.setCell ⟨sb, 5, none⟩ (.bool b)).cell? p = some v := fun p v hp hv => (World.cell?_setCell_other _ _ _ _ (fun e => hp e.symm)).trans hv
  have r : ∀ g (cs : List Value), w.rangeAt g 0 cs → (cs.length ≤ 5 ∨ g ≠ sb) → (w.setCell ⟨sb, 5, none⟩ (.bool b)).rangeAt g 0 cs := fun g cs hr hl j v hj => by
    refine k _ _ (fun e => ?_) (hr j v hj)
    injection e with e1 e2
    have := (List.getElem?_eq_some_iff.1 hj).1
    rcases hl with h | h
    · omega
    · exact h e1
  have hes : eb ≠ sb := by
    rintro rfl
    have h1 := h.id 0 _ rfl
    have h2 := h.e
    rw [h2] at h1
    cases h1
  refine ⟨k _ _ (by simp) h.e, k _ _ (by simp) h.ix, k _ _ (by simp) h.bl, World.cell?_setCell_same _ _ _ h.st, k _ _ (by simp) h.ph, k _ _ (by simp) h.b, k _ _ (by simp) h.p, k _ _ (by simp) h.pp, k _ _ (by simp) h.h, by simpa using h.f5, by simpa using h.f16, by simpa using h.f19, r _ _ h.id (.inr hes), k _ _ (by simp) h.kn, (Below.heap_setCell _ _ _ _ hkb).trans h.hk, r _ _ h.z (.inl (by decide)), k _ _ (by simp) h.tm, by simpa using h.ft⟩
theorem pre_slot {w : World} {sb eb mb kb zb a cc : Nat} {idx ph : Int} (pB pP pPP pH : Option Addr) (hs : w.heap[sb]? = some (.cells (slL eb idx a mb cc).toArray 45 (0, 0))) (he : w.heap[eb]? = some (.cells (enL kb).toArray 71 (0, 0))) (hk : w.heap[kb]? = some (.map #[⟨h0, .pointer (some ⟨zb, 0, none⟩), 0⟩] 1)) (hz : w.rangeAt zb 0 s0L) (h1 : eb ≠ sb) (h2 : kb ≠ sb) (h3 : zb ≠ sb) :
    SlotE (w.setCells sb 15 [.int .i64 ph, .pointer pB, .pointer pP, .pointer pPP, .pointer pH, .pointer none, .int .u32 0, .int .u32 0]) sb eb mb kb zb idx ph pB pP pPP pH false := by
  have O := only_setCells sb [.int .i64 ph, .pointer pB, .pointer pP, .pointer pPP, .pointer pH, .pointer none, .int .u32 0, .int .u32 0] 15 w
  have hsm := World.rangeAt_setCells_same w sb 15 [.int .i64 ph, .pointer pB, .pointer pP, .pointer pPP, .pointer pH, .pointer none, .int .u32 0, .int .u32 0] (there_block hs (by show 15 + 8 ≤ 27; omega))
  have out : ∀ j v, j < 15 → (slL eb idx a mb cc)[j]? = some v → (w.setCells sb 15 [.int .i64 ph, .pointer pB, .pointer pP, .pointer pPP, .pointer pH, .pointer none, .int .u32 0, .int .u32 0]).cell? ⟨sb, j, none⟩ = some v := fun j v hj hv => by
    rw [World.cell?_setCells_out sb _ 15 w ⟨sb, j, none⟩ (fun _ _ => .inl hj), cell_of_row _ _ _ _ _ _ hs]
    simpa using hv
  have fz : ∀ j, (w.setCells sb 15 [.int .i64 ph, .pointer pB, .pointer pP, .pointer pPP, .pointer pH, .pointer none, .int .u32 0, .int .u32 0]).frozen? ⟨sb, j, none⟩ = false := fun j => by
    rw [World.frozen?_setCells]
    unfold World.frozen?
    rw [hs]
    simp
  have ec : ∀ j v, (enL kb)[j]? = some v → w.cell? ⟨eb, j, none⟩ = some v := fun j v hv => by
    rw [cell_of_row _ _ _ _ _ _ he]
    simpa using hv
  have hid : w.rangeAt eb 0 k1L := fun j v hj => by
    rw [Nat.zero_add]
    refine ec j v ?_
    unfold enL
    rw [List.getElem?_append_left (List.getElem?_eq_some_iff.1 hj).1]
    exact hj
  have hft : w.frozen? ⟨eb, 79, none⟩ = false := by
    unfold World.frozen?
    rw [he]
    simp
  exact ⟨out 0 _ (by omega) rfl, out 1 _ (by omega) rfl, out 4 _ (by omega) rfl, out 5 _ (by omega) rfl, hsm 0 _ rfl, hsm 1 _ rfl, hsm 2 _ rfl, hsm 3 _ rfl, hsm 4 _ rfl, fz 5, fz 16, fz 19, O.range h1 hid, O.cell h1 (ec 69 _ rfl), O.obj h2 hk, O.range h3 hz, O.cell h1 (ec 79 _ rfl), (O.frozen h1).trans hft⟩
theorem range_kn {w : World} (b : Nat) (hb : b = w.heap.size) : (w.alloc (.cells #[.int .u32 0, .slice none 0 0, .slice none 0 0, .int .i64 0, .int .i64 0] 106)).rangeAt b 0 s0L := fun j v hj => by
  have hl : j < 3 := (List.getElem?_eq_some_iff.1 hj).1
  exact range_newb w [.int .u32 0, .slice none 0 0, .slice none 0 0, .int .i64 0, .int .i64 0] 106 hb j v (by
    match j, hl, hj with
    | 0, _, hj => exact hj
    | 1, _, hj => exact hj
    | 2, _, hj => exact hj)

theorem sets_keep {w : World} {sb : Nat} (vs : List Value) {p : Addr} {v : Value} (h : p.off < 15) (hv : w.cell? p = some v) : (w.setCells sb 15 vs).cell? p = some v :=
  (World.cell?_setCells_out sb vs 15 w p (fun _ _ => .inl h)).trans hv
theorem VAt.sets {w : World} {sb g n v : Nat} (vs : List Value) (h : VAt w g n v) : VAt (w.setCells sb 15 vs) g n v := by
  rcases h with h0 | ⟨h1, h2, h3⟩ | ⟨h1, h2, h3⟩
  · exact .inl h0
  · exact .inr (.inl ⟨h1, h2, sets_keep vs (by show 0 < 15; omega) h3⟩)
  · exact .inr (.inr ⟨h1, h2, sets_keep vs (by show 0 < 15; omega) h3⟩)
theorem PAt.sets {w : World} {lo sb : Nat} {has : Bool} {c : Int} {v : Nat} {p : Option Addr} (vs : List Value) (h : PAt w lo has c v p) : PAt (w.setCells sb 15 vs) lo has c v p := by
  rcases h with h | ⟨h1, b, g, n, h2, h3, h4⟩
  · exact .inl h
  · exact .inr ⟨h1, b, g, n, h2, ⟨sets_keep vs (by show 0 < 15; omega) h3.c0, sets_keep vs (by show 1 < 15; omega) h3.c1, h3.val.sets vs⟩, h4⟩
/-- a pointer to a block of its own, or none -/
def OAt (w : World) (lo : Nat) (p : Option Addr) : Prop := p = none ∨ ∃ b, p = some ⟨b, 0, none⟩ ∧ lo ≤ b ∧ ∃ C t, w.heap[b]? = some (.cells C t (0, 0))
theorem OAt.below {w w' : World} {lo : Nat} {p : Option Addr} (h : OAt w lo p) (hb : Below w.heap.size w w') : OAt w' lo p := by
  rcases h with h | ⟨b, h1, h2, C, t, h3⟩
  · exact .inl h
  · exact .inr ⟨b, h1, h2, C, t, below_obj hb h3⟩
theorem OAt.only {w w' : World} {lo r : Nat} {p : Option Addr} (h : OAt w lo p) (hb : Only r w w') (hr : r < lo) : OAt w' lo p := by
  rcases h with h | ⟨b, h1, h2, C, t, h3⟩
  · exact .inl h
  · exact .inr ⟨b, h1, h2, C, t, hb.obj (by omega) h3⟩
theorem OAt.lo {w : World} {lo lo' : Nat} {p : Option Addr} (h : OAt w lo p) (hl : lo' ≤ lo) : OAt w lo' p := by
  rcases h with h | ⟨b, h1, h2, h3⟩
  · exact .inl h
  · exact .inr ⟨b, h1, Nat.le_trans hl h2, h3⟩
set_option maxHeartbeats 1600000 in
theorem bal_walk2 (has : Bool) (c x : Int) (w : World) (h0 : 0 ≤ x) (h1 : x < 256) :
    Calls Yba.prog 13 #[.bool has, .int .u32 c, .int .u8 x] w fun e w' => ∃ p, e = .returned (.pointer p) ∧ PAt w' w.heap.size has c (x % 3).toNat p ∧ OAt w' w.heap.size p ∧ Below w.heap.size w w' := by
  cases has with
  | false =>
    go_enter Yba.func13, Yba.ntmps13
    go_wp2_with fail
    go_ret
    exact ⟨none, rfl, .inl ⟨rfl, rfl⟩, .inl rfl, Below.refl _ _⟩
  | true =>
    have HV : Hid (∀ w, Calls Yba.prog 12 #[.int .u8 x] w fun e w' => ∃ g n, e = .returned (.slice (some ⟨g, 0, none⟩) n n) ∧ Hid (VAt w' g n (x % 3).toNat) ∧ Hid (Below w.heap.size w w')) := fun w => val_walk x w h0 h1
    go_enter Yba.func13, Yba.ntmps13
    go_wp2_with (go_at_call 12; refine (HV.out _).mono ?_; rintro e w1 ⟨g, n, rfl, HA, HB⟩)
    go_ret
    have hb := boxed_below w1 c g n
    exact ⟨_, rfl, .inr ⟨rfl, w1.heap.size, g, n, rfl, ⟨(boxed_at w1 c g n).1, (boxed_at w1 c g n).2, HA.out.below hb⟩, HB.out.size⟩, .inr ⟨w1.heap.size, rfl, HB.out.size, _, _, heap_at _ rfl⟩, HB.out.trans (hb.mono HB.out.size)⟩
end Go.Proofs.Ybulkadqm.AK
