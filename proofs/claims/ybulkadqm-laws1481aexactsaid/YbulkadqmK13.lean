import Derived.Test.YbulkadqmK12
import Derived.Shelf.SlSortCmp.SmallK
import Derived.Shelf.Small.Bits
import Derived.Shelf.Lay
import Derived.Ground.SlsfProg
import Derived.Ground.NamesProg
namespace Go.Proofs.Ybulkadqm.AK
open Go.RowKit Go.Shelf Go.Lib Go.Sort

/-- a ballot in a row: counter, the value's block and length, the value's code -/
structure Bl where
  c : Int
  g : Nat
  n : Nat
  v : Nat
instance : Inhabited Bl := ⟨⟨0, 0, 0, 0⟩⟩
def Bl.enc (x : Bl) : List Value := [.int .u32 x.c, .slice (some ⟨x.g, 0, none⟩) x.n x.n]

set_option maxRecDepth 100000 in
set_option maxHeartbeats 1600000 in
theorem cl35 (x y : Bl) (w : World) (h : VAt w x.g x.n x.v) (h' : VAt w y.g y.n y.v) :
    Calls Yba.prog 35 #[.agg #[.int .u32 x.c, .slice (some ⟨x.g, 0, none⟩) x.n x.n], .agg #[.int .u32 y.c, .slice (some ⟨y.g, 0, none⟩) y.n y.n]] w fun e w' => e = .returned (.int .i64 (cmpB y.c y.v x.c x.v)) ∧ w' = boxed (boxed (boxed (boxed w x.c x.g x.n) y.c y.g y.n) y.c y.g y.n) x.c x.g x.n := by
  have HB : Hid (Calls Yba.prog 22 #[.agg #[.int .u32 y.c, .slice (some ⟨y.g, 0, none⟩) y.n y.n], .agg #[.int .u32 x.c, .slice (some ⟨x.g, 0, none⟩) x.n x.n]] (boxed (boxed w x.c x.g x.n) y.c y.g y.n) fun e w' => e = .returned (.int .i64 (cmpB y.c y.v x.c x.v)) ∧ w' = boxed (boxed (boxed (boxed w x.c x.g x.n) y.c y.g y.n) y.c y.g y.n) x.c x.g x.n) := compare_walk y.c x.c y.g y.n y.v x.g x.n x.v (boxed (boxed w x.c x.g x.n) y.c y.g y.n) (h'.below (boxed2_below ..)) (h.below (boxed2_below ..))
  clear h h'
  go_enter Yba.func35, Yba.ntmps35
  go_wp2_with (go_at_call 22; refine HB.out.mono ?_; rintro e w' ⟨rfl, rfl⟩)
  go_ret
  exact ⟨rfl, rfl⟩

/-- do two ballots compare equal -/
def ceq (x y : Bl) : Bool := cmpB x.c x.v y.c y.v == 0
set_option maxRecDepth 100000 in
set_option maxHeartbeats 1600000 in
theorem cl37 (x y : Bl) (w : World) (h : VAt w x.g x.n x.v) (h' : VAt w y.g y.n y.v) :
    Calls Yba.prog 37 #[.agg #[.int .u32 x.c, .slice (some ⟨x.g, 0, none⟩) x.n x.n], .agg #[.int .u32 y.c, .slice (some ⟨y.g, 0, none⟩) y.n y.n]] w fun e w' => e = .returned (.bool (ceq x y)) ∧ Below w.heap.size w w' := by
  have HB : Hid (Calls Yba.prog 22 #[.agg #[.int .u32 x.c, .slice (some ⟨x.g, 0, none⟩) x.n x.n], .agg #[.int .u32 y.c, .slice (some ⟨y.g, 0, none⟩) y.n y.n]] (boxed (boxed w x.c x.g x.n) y.c y.g y.n) fun e w' => e = .returned (.int .i64 (cmpB x.c x.v y.c y.v)) ∧ w' = boxed (boxed (boxed (boxed w x.c x.g x.n) y.c y.g y.n) x.c x.g x.n) y.c y.g y.n) := compare_walk x.c y.c x.g x.n x.v y.g y.n y.v (boxed (boxed w x.c x.g x.n) y.c y.g y.n) (h.below (boxed2_below ..)) (h'.below (boxed2_below ..))
  clear h h'
  unfold ceq
  generalize cmpB x.c x.v y.c y.v = r at *
  go_enter Yba.func37, Yba.ntmps37
  go_wp2_with (go_at_call 22; refine HB.out.mono ?_; rintro e w' ⟨rfl, rfl⟩)
  go_ret
  exact ⟨rfl, (boxed2_below ..).trans ((boxed2_below ..).mono (boxed2_below ..).size)⟩

shelf_lay_g SlLaysF0.n6 Slsf 6 at Yba 34 as sortBl
shelf_lay Lays.n125 Nm 125 at Yba as bitsLen

/-- a well-formed element of a row that lies in block blk of world w -/
structure El (w : World) (blk : Nat) where
  x : Bl
  val : VAt w x.g x.n x.v
  off : x.n = 0 ∨ x.g ≠ blk
instance (w : World) (blk : Nat) : Inhabited (El w blk) := ⟨⟨⟨0, 0, 0, 0⟩, .inl ⟨rfl, rfl⟩, .inl rfl⟩⟩
def El.enc {w : World} {blk : Nat} (e : El w blk) : List Value := e.x.enc
theorem cell_sorted {w : World} {blk : Nat} (n : Nat) (dk : Array (El w blk)) (os : Array Obj) {a : Addr} {v : Value} (h1 : a.block ≠ blk) (h2 : w.cell? a = some v) : (sortWorldK El.enc 2 w blk 0 n dk os).cell? a = some v := by
  unfold sortWorldK
  rw [cell?_grow _ _ _ (by rw [size_putRowK]; exact World.block_lt_of_cell? w _ h2), cell?_putRowK_other El.enc 2 _ blk 0 dk a h1]
  exact h2
theorem El.sorted {w : World} {blk : Nat} (e : El w blk) (n : Nat) (dk : Array (El w blk)) (os : Array Obj) : VAt (sortWorldK El.enc 2 w blk 0 n dk os) e.x.g e.x.n e.x.v := by
  rcases e.val with h | ⟨h1, h2, h3⟩ | ⟨h1, h2, h3⟩
  · exact .inl h
  · exact .inr (.inl ⟨h1, h2, cell_sorted n dk os (by rcases e.off with h | h; · omega
                                                      · exact h) h3⟩)
  · exact .inr (.inr ⟨h1, h2, cell_sorted n dk os (by rcases e.off with h | h; · omega
                                                      · exact h) h3⟩)
/-- the order of the sort: the greater first -/
def cfB {w : World} {blk : Nat} (x y : El w blk) : Int := cmpB y.x.c y.x.v x.x.c x.x.v
theorem cmpLays35 (blk size : Nat) (w : World) : CmpLays Yba.prog 35 #[] (El.enc (w := w) (blk := blk)) 2 cfB blk 0 size w :=
  fun m os dk _ x y => by
    refine (cl35 x.x y.x _ (x.sorted m dk os) (y.sorted m dk os)).mono ?_
    rintro e w' ⟨rfl, rfl⟩
    exact ⟨rfl, 0, _, by unfold boxed; rw [alloc_eq_grow, alloc_eq_grow, alloc_eq_grow, alloc_eq_grow, grow_grow, grow_grow, grow_grow]; rfl⟩
theorem hlenB (n : Nat) (W : World) (h : n ≤ 12) : Calls Yba.prog 42 #[.int .u64 n] W fun e w' => (∃ l : Int, e = .returned (.int .i64 l)) ∧ w' = W :=
  (Any.bits_Len bitsLen n W (by omega) (by omega)).mono fun _ _ ⟨he, hw⟩ => ⟨⟨_, he⟩, hw⟩

theorem cmp3_neg {a b : Int} : cmp3 a b < 0 ↔ a < b := by
  unfold cmp3
  by_cases h : a < b
  · simp [h]
  · by_cases h2 : b < a <;> simp [h, h2]
theorem cmp3_zero {a b : Int} : cmp3 a b = 0 ↔ a = b := by
  unfold cmp3
  by_cases h : a < b
  · simp [h]; omega
  · by_cases h2 : b < a
    · simp [h, h2]; omega
    · simp [h, h2]; omega
theorem cmpB_neg {c v c' v' : Int} : cmpB c v c' v' < 0 ↔ c < c' ∨ (c = c' ∧ v < v') := by
  unfold cmpB
  by_cases h : cmp3 c c' = 0
  · rw [if_pos h, cmp3_neg]
    have := cmp3_zero.1 h
    omega
  · rw [if_neg h, cmp3_neg]
    have : c ≠ c' := fun e => h (cmp3_zero.2 e)
    omega
theorem cmpB_zero {c v c' v' : Int} : cmpB c v c' v' = 0 ↔ c = c' ∧ v = v' := by
  unfold cmpB
  by_cases h : cmp3 c c' = 0
  · rw [if_pos h, cmp3_zero]
    have := cmp3_zero.1 h
    omega
  · rw [if_neg h]
    have : c ≠ c' := fun e => h (cmp3_zero.2 e)
    constructor
    · intro e; exact absurd e h
    · intro e; exact absurd e.1 this
theorem swoB (w : World) (blk : Nat) : SWO (ltOf (cfB (w := w) (blk := blk))) where
  irrefl x := by simp only [ltOf, cfB, decide_eq_false_iff_not, cmpB_neg]; omega
  trans x y z h1 h2 := by simp only [ltOf, cfB, decide_eq_true_eq, cmpB_neg] at *; omega
  ntrans x y z h1 h2 := by simp only [ltOf, cfB, decide_eq_false_iff_not, cmpB_neg] at *; omega

/-- a row of ballots -/
def RowB (w : World) (b n : Nat) (D : Nat → Bl) : Prop := ∀ i, i < n →
  w.cell? ⟨b, i * 2, none⟩ = some (.int .u32 (D i).c) ∧ w.cell? ⟨b, i * 2 + 1, none⟩ = some (.slice (some ⟨(D i).g, 0, none⟩) (D i).n (D i).n) ∧
  w.frozen? ⟨b, i * 2, none⟩ = false ∧ w.frozen? ⟨b, i * 2 + 1, none⟩ = false
theorem holds_of_row {w : World} {blk : Nat} {d : Array (El w blk)} (h : RowB w blk d.size (fun i => d[i]!.x)) : HoldsK El.enc 2 w blk 0 d := by
  intro j hj
  rw [size_flatK] at hj
  have hi : j / 2 < d.size := by omega
  obtain ⟨h0, h1, h2, h3⟩ := h (j / 2) hi
  rw [get_flatK _ _ _ j hj]
  rcases Nat.mod_two_eq_zero_or_one j with hm | hm
  · have e : 0 + j = j / 2 * 2 := by omega
    rw [e, hm]
    exact ⟨h0, h2⟩
  · have e : 0 + j = j / 2 * 2 + 1 := by omega
    rw [e, hm]
    exact ⟨h1, h3⟩
theorem row_of_holds {w W : World} {blk : Nat} {d : Array (El w blk)} (h : HoldsK El.enc 2 W blk 0 d) : RowB W blk d.size (fun i => d[i]!.x) := by
  intro i hi
  have a := h.cell (i := i) (c := 0) hi (by omega)
  have b := h.cell (i := i) (c := 1) hi (by omega)
  rw [show 0 + i * 2 + 0 = i * 2 by omega] at a
  rw [show 0 + i * 2 + 1 = i * 2 + 1 by omega] at b
  exact ⟨a.1, b.1, a.2, b.2⟩
end Go.Proofs.Ybulkadqm.AK
