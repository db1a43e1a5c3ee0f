import Derived.Test.YbulkadroF
import Derived.Deep.DrawnRows
namespace Go.Proofs.Ybulkadro.WB
open Go.RowKit

/-- what zzs1483bbuild lays out -/
structure Built (w : World) (sp gs gd k n : Nat) (S : Nat → Nat) (D : Nat → Int) : Prop where
  p : w.cell? ⟨sp, 0, none⟩ = some (.slice (some ⟨gd, 0, none⟩) n n)
  s : ∀ j, j ≤ k → w.cell? ⟨gs, j, none⟩ = some (.int .u16 (S j : Int))
  d : Cells w gd 0 n D
  mono : ∀ j, j < k → S j ≤ S (j + 1)
  le : ∀ j, j ≤ k → 8 * S j ≤ n
  hn : n ≤ 16384
  hk : k ≤ 1024
theorem Cells.below {w w' : World} {g o n : Nat} {D : Nat → Int} (h : Cells w g o n D) (hb : Below w.heap.size w w') : Cells w' g o n D :=
  fun j hj => ⟨below_keep hb (h j hj).1, (h j hj).2⟩
theorem Built.below {w w' : World} {sp gs gd k n : Nat} {S : Nat → Nat} {D : Nat → Int} (h : Built w sp gs gd k n S D) (hb : Below w.heap.size w w') : Built w' sp gs gd k n S D :=
  ⟨below_keep hb h.p, fun j hj => below_keep hb (h.s j hj), h.d.below hb, h.mono, h.le, h.hn, h.hk⟩
theorem Cells.from {w : World} {g n : Nat} {D : Nat → Int} (h : Cells w g 0 n D) (a m : Nat) (ha : a + m ≤ n) : Cells w g a m (fun j => D (a + j)) :=
  fun j hj => by have := h (a + j) (by omega); rwa [Nat.zero_add] at this

set_option maxRecDepth 100000 in
set_option maxHeartbeats 3200000 in
theorem held_walk (sp gs gd k n b : Nat) (S : Nat → Nat) (D : Nat → Int) (w : World) (h : Built w sp gs gd k n S D) (hb : b < k) (hlt : S b < S (b + 1)) :
    Calls Yba.prog 13 #[.pointer (some ⟨sp, 0, none⟩), .slice (some ⟨gs, 0, none⟩) (k + 1) (k + 1), .int .u64 (b : Int)] w fun e w' => e = .returned (.int .u64 (V8 fun j => D (8 * S b + j))) ∧ Below w.heap.size w w' := by
  have hs := h.s b (by omega)
  have hle := h.le (b + 1) (by omega)
  have hn := h.hn
  have hk := h.hk
  have hp := h.p
  obtain ⟨a, ha⟩ : ∃ a, a = 8 * S b := ⟨_, rfl⟩
  have HC : Hid (∀ q, Calls Yba.prog 14 #[.agg #[], .slice (some ⟨gd, a, none⟩) 8 (n - a)] (w.drewN q) fun e w' => e = .returned (.int .u64 (V8 fun j => D (a + j))) ∧ Below w.heap.size w w') := by
    intro q
    refine (u64_walk gd a 8 (n - a) _ (w.drewN q) (by omega) ((h.d.from a 8 (by omega)).below (below_drewN (Below.refl _ _) q))).mono ?_
    intro e w' ⟨he, hb⟩
    exact ⟨he, (below_drewN (Below.refl _ _) q).trans hb⟩
  rw [← ha]
  have hai : (8 * (S b : Int)) = (a : Int) := by omega
  have han : a + 8 ≤ n := by omega
  clear h hle hlt ha
  have hA : (if n = a then some (⟨gd, 0, none⟩ : Addr) else some ⟨gd, a, none⟩) = some ⟨gd, a, none⟩ := if_neg (by omega)
  obtain ⟨c, hcd⟩ : ∃ c, c = a + 8 := ⟨_, rfl⟩
  have hw8 : IntKind.i64.wrap ((a : Int) + 8) = (c : Int) := by rw [IntKind.wrap_i64]; omega
  have hca : c - a = 8 := by omega
  have hac : a ≤ c := by omega
  have hcn : c ≤ n := by omega
  clear hcd han
  go_enter Yba.func13, Yba.ntmps13
  go_wp2_with fail
  go_region_held3 (fun w' => w'.cell? ⟨sp, 0, none⟩ = some (.slice (some ⟨gd, 0, none⟩) n n)) (go_keep)
    (first
      | (go_at_call 14; refine (HC.out _).mono ?_; rintro e w' ⟨rfl, hbl⟩; have hpp := below_keep hbl hp)
      | fail)
  go_wp2_with fail
  go_ret
  exact ⟨rfl, hbl⟩

/-- the mark of block b -/
def mk (S : Nat → Nat) (D : Nat → Int) (b : Nat) : Int := if S b = S (b + 1) then 0 else V8 fun j => D (8 * S b + j)

set_option maxRecDepth 100000 in
set_option maxHeartbeats 3200000 in
theorem mark_walk (sp gs gd k n b : Nat) (S : Nat → Nat) (D : Nat → Int) (w : World) (h : Built w sp gs gd k n S D) (hb : b < k) :
    Calls Yba.prog 11 #[.pointer (some ⟨sp, 0, none⟩), .slice (some ⟨gs, 0, none⟩) (k + 1) (k + 1), .int .u64 (b : Int)] w fun e w' => e = .returned (.int .u64 (mk S D b)) ∧ Below w.heap.size w w' := by
  have hs := h.s b (by omega)
  have hs1 := h.s (b + 1) (by omega)
  have hk := h.hk
  have HC : Hid (S b ≠ S (b + 1) → ∀ q, Calls Yba.prog 13 #[.pointer (some ⟨sp, 0, none⟩), .slice (some ⟨gs, 0, none⟩) (k + 1) (k + 1), .int .u64 (b : Int)] (w.drewN q) fun e w' => e = .returned (.int .u64 (mk S D b)) ∧ Below w.heap.size w w') := by
    intro hne q
    refine (held_walk sp gs gd k n b S D (w.drewN q) (h.below (below_drewN (Below.refl _ _) q)) hb (by have := h.mono b hb; omega)).mono ?_
    intro e w' ⟨he, hb⟩
    exact ⟨he.trans (by rw [mk, if_neg hne]), (below_drewN (Below.refl _ _) q).trans hb⟩
  have hm : Hid (S b = S (b + 1) → mk S D b = 0) := fun h => if_pos h
  clear h
  generalize mk S D b = mb at HC hm ⊢
  by_cases heq : S b = S (b + 1)
  · have hz := hm.out heq
    subst hz
    generalize S (b + 1) = s1 at *
    subst heq
    go_enter Yba.func11, Yba.ntmps11
    go_wp2_with fail
    go_quiet (fail)
    go_wp2_with fail
    go_ret
    exact ⟨rfl, below_drewN (Below.refl _ _) _⟩
  · have H2 : Hid (∀ q, Calls Yba.prog 13 #[.pointer (some ⟨sp, 0, none⟩), .slice (some ⟨gs, 0, none⟩) (k + 1) (k + 1), .int .u64 (b : Int)] (w.drewN q) fun e w' => e = .returned (.int .u64 mb) ∧ Below w.heap.size w w') := HC.out heq
    clear hm HC
    generalize S (b + 1) = s1 at *
    generalize S b = s0 at *
    have hne : ((s0 : Int) == (s1 : Int)) = false := beq_false_of_ne (by omega)
    go_enter Yba.func11, Yba.ntmps11
    go_wp2_with fail
    go_quiet (fail)
    go_wp2_with (go_at_call 13; refine (H2.out _).mono ?_; rintro e w' ⟨rfl, hbl⟩)
    go_ret
    exact ⟨rfl, hbl⟩

set_option maxRecDepth 100000 in
set_option maxHeartbeats 3200000 in
theorem region_walk (sp gs gd k n b : Nat) (S : Nat → Nat) (D : Nat → Int) (w : World) (h : Built w sp gs gd k n S D) (hb : b < k) :
    Calls Yba.prog 12 #[.pointer (some ⟨sp, 0, none⟩), .slice (some ⟨gs, 0, none⟩) (k + 1) (k + 1), .int .u64 (b : Int)] w fun e w' => e = .returned (.slice (if n = 8 * S b then some ⟨gd, 0, none⟩ else some ⟨gd, 8 * S b, none⟩) (8 * S (b + 1) - 8 * S b) (n - 8 * S b)) ∧ Below w.heap.size w w' := by
  have hs := h.s b (by omega)
  have hs1 := h.s (b + 1) (by omega)
  have hp := h.p
  have hn := h.hn
  have hk := h.hk
  have hle := h.le (b + 1) (by omega)
  have hle' := h.mono b hb
  clear h
  obtain ⟨a, ha⟩ : ∃ a, a = 8 * S b := ⟨_, rfl⟩
  obtain ⟨c, hc⟩ : ∃ c, c = 8 * S (b + 1) := ⟨_, rfl⟩
  rw [← ha, ← hc]
  have hai : (8 * (S b : Int)) = (a : Int) := by omega
  have hci : (8 * (S (b + 1) : Int)) = (c : Int) := by omega
  have hac : a ≤ c := by omega
  have hcn : c ≤ n := by omega
  generalize S (b + 1) = s1 at *
  generalize S b = s0 at *
  clear ha hc hle hle'
  go_enter Yba.func12, Yba.ntmps12
  go_wp2_with fail
  go_quiet (fail)
  go_wp2_with fail
  all_goals
    go_ret
    exact ⟨rfl, below_drewN (Below.refl _ _) _⟩
end Go.Proofs.Ybulkadro.WB
