import Derived.Test.YbulkadqmK3
namespace Go.Proofs.Ybulkadqm.AK
open Go.RowKit

set_option maxRecDepth 100000 in
set_option maxHeartbeats 1600000 in
theorem acov_nil (c : Int) (g n : Nat) (w : World) :
    Calls Yba.prog 10 #[.pointer none, .agg #[.int .u32 c, .slice (some ⟨g, 0, none⟩) n n]] w fun e w' => e = .returned (.bool false) ∧ Below w.heap.size w w' := by
  go_enter Yba.func10, Yba.ntmps10
  go_wp2_with fail
  go_quiet (fail)
  go_wp2_with fail
  go_ret
  exact ⟨rfl, below_drewN ((Below.refl _ w).alloc (Nat.le_refl _) _) _⟩

set_option maxRecDepth 100000 in
set_option maxHeartbeats 3200000 in
theorem acov_some (qb : Nat) (cq : Int) (gq nq vq : Nat) (c : Int) (g n v : Nat) (w : World) (hq : BAt w qb cq gq nq vq) (hv : VAt w g n v) :
    Calls Yba.prog 10 #[.pointer (some ⟨qb, 0, none⟩), .agg #[.int .u32 c, .slice (some ⟨g, 0, none⟩) n n]] w fun e w' => e = .returned (.bool (decide (vq = v) && decide (c ≤ cq))) ∧ Below w.heap.size w w' := by
  have hb := boxed_below w c g n
  have q0 := below_keep hb hq.c0
  have q1 := below_keep hb hq.c1
  have x0 := (boxed_at w c g n).1
  have x1 := (boxed_at w c g n).2
  have HC : Hid (∀ q, Calls Yba.prog 14 #[.slice (some ⟨gq, 0, none⟩) nq nq, .slice (some ⟨g, 0, none⟩) n n] ((boxed w c g n).drewN q) fun e w' => e = .returned (.bool (decide (vq = v))) ∧ w' = (boxed w c g n).drewN q) := by
    intro q
    have hd := below_drewN (Below.refl (boxed w c g n).heap.size (boxed w c g n)) q
    exact equal_walk gq nq vq g n v _ ((hq.val.below hb).below hd) ((hv.below hb).below hd)
  have HB : Hid (Below w.heap.size w (boxed w c g n)) := hb
  have EB : Hid (boxed w c g n = w.alloc (.cells #[.int .u32 c, .slice (some ⟨g, 0, none⟩) n n] 75)) := rfl
  clear hq hv hb
  generalize decide (vq = v) = b at *
  cases b with
  | true =>
    simp only [Bool.true_and]
    go_enter Yba.func10, Yba.ntmps10
    go_wp2_with fail
    rw [← EB.out]
    generalize boxed w c g n = w1 at *
    clear EB
    go_quiet ((go_at_call 14; exact Calls.quiet_of_same (HC.out _)))
    go_wp2_with fail
    go_ret
    exact ⟨rfl, HB.out.trans ((below_drewN (Below.refl _ _) _).mono HB.out.size)⟩
  | false =>
    simp only [Bool.false_and]
    go_enter Yba.func10, Yba.ntmps10
    go_wp2_with fail
    rw [← EB.out]
    generalize boxed w c g n = w1 at *
    clear EB
    go_quiet ((go_at_call 14; exact Calls.quiet_of_same (HC.out _)))
    go_wp2_with fail
    go_ret
    exact ⟨rfl, HB.out.trans ((below_drewN (Below.refl _ _) _).mono HB.out.size)⟩

theorem new_cell (w : World) (x : Value) (e : TypeId) : (w.alloc (.cells #[x] e)).cell? ⟨w.heap.size, 0, none⟩ = some x := (World.cell?_alloc_at _ _ _ _ rfl).trans rfl

/-- 'wire.Value' of a code -/
theorem val_walk (x : Int) (w : World) (h0 : 0 ≤ x) (h1 : x < 256) :
    Calls Yba.prog 12 #[.int .u8 x] w fun e w' => ∃ g n, e = .returned (.slice (some ⟨g, 0, none⟩) n n) ∧ VAt w' g n (x % 3).toNat ∧ Below w.heap.size w w' := by
  have h3 : x % 3 = 0 ∨ x % 3 = 1 ∨ x % 3 = 2 := by omega
  rcases h3 with h | h | h
  · go_enter Yba.func12, Yba.ntmps12
    go_wp2_with fail
    go_ret
    exact ⟨_, _, rfl, .inl ⟨by omega, rfl⟩, (Below.refl _ _).alloc (Nat.le_refl _) _⟩
  · go_enter Yba.func12, Yba.ntmps12
    go_wp2_with fail
    go_ret
    exact ⟨_, _, rfl, .inr (.inl ⟨by omega, rfl, new_cell _ _ _⟩), (Below.refl _ _).alloc (Nat.le_refl _) _⟩
  · go_enter Yba.func12, Yba.ntmps12
    go_wp2_with fail
    go_ret
    exact ⟨_, _, rfl, .inr (.inr ⟨by omega, rfl, new_cell _ _ _⟩), (Below.refl _ _).alloc (Nat.le_refl _) _⟩

/-- a ballot or none, as a pointer -/
def PAt (w : World) (lo : Nat) (has : Bool) (c : Int) (v : Nat) (p : Option Addr) : Prop :=
  (has = false ∧ p = none) ∨ (has = true ∧ ∃ b g n, p = some ⟨b, 0, none⟩ ∧ BAt w b c g n v ∧ lo ≤ b)
theorem PAt.below {w w' : World} {lo : Nat} {has : Bool} {c : Int} {v : Nat} {p : Option Addr} (h : PAt w lo has c v p) (hb : Below w.heap.size w w') : PAt w' lo has c v p := by
  rcases h with h | ⟨h1, b, g, n, h2, h3, h4⟩
  · exact .inl h
  · exact .inr ⟨h1, b, g, n, h2, h3.below hb, h4⟩

set_option maxHeartbeats 1600000 in
theorem bal_walk (has : Bool) (c x : Int) (w : World) (h0 : 0 ≤ x) (h1 : x < 256) :
    Calls Yba.prog 13 #[.bool has, .int .u32 c, .int .u8 x] w fun e w' => ∃ p, e = .returned (.pointer p) ∧ PAt w' w.heap.size has c (x % 3).toNat p ∧ Below w.heap.size w w' := by
  cases has with
  | false =>
    go_enter Yba.func13, Yba.ntmps13
    go_wp2_with fail
    go_ret
    exact ⟨none, rfl, .inl ⟨rfl, rfl⟩, Below.refl _ _⟩
  | true =>
    have HV : Hid (∀ w, Calls Yba.prog 12 #[.int .u8 x] w fun e w' => ∃ g n, e = .returned (.slice (some ⟨g, 0, none⟩) n n) ∧ Hid (VAt w' g n (x % 3).toNat) ∧ Hid (Below w.heap.size w w')) := fun w => val_walk x w h0 h1
    go_enter Yba.func13, Yba.ntmps13
    go_wp2_with (go_at_call 12; refine (HV.out _).mono ?_; rintro e w1 ⟨g, n, rfl, HA, HB⟩)
    go_ret
    have hb := boxed_below w1 c g n
    exact ⟨_, rfl, .inr ⟨rfl, w1.heap.size, g, n, rfl, ⟨(boxed_at w1 c g n).1, (boxed_at w1 c g n).2, HA.out.below hb⟩, HB.out.size⟩, HB.out.trans (hb.mono HB.out.size)⟩
end Go.Proofs.Ybulkadqm.AK
