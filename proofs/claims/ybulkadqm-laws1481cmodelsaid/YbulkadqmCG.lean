import Derived.Test.YbulkadqmCF
namespace Go.Proofs.Ybulkadqm.CM
open Go.RowKit
attribute [local go_sem] Go.wp_at_zero Go.wp_at_succ

theorem qcells_at (T : Nat → Int) (L VB : Nat → Nat) : ∀ (k i : Nat), i < k → ∀ j, j < 4 → (qcells T L VB k)[i * 4 + j]? = (qcell T L VB i)[j]?
  | 0, i, h, _, _ => by omega
  | k + 1, i, h, j, hj => by
    have hlen : ∀ k, (qcells T L VB k).length = k * 4 := by
      intro k
      induction k with
      | zero => rfl
      | succ k ih => show (qcells T L VB k ++ qcell T L VB k).length = _; rw [List.length_append, ih]; simp [qcell]; omega
    show (qcells T L VB k ++ qcell T L VB k)[i * 4 + j]? = _
    by_cases e : i = k
    · subst e
      rw [List.getElem?_append_right (by rw [hlen]; omega), hlen]
      congr 1; omega
    · rw [List.getElem?_append_left (by rw [hlen]; omega)]
      exact qcells_at T L VB k i (by omega) j hj

theorem owns_cells {w : World} {base len cp : Nat} {io : Option Addr} {T : Nat → Int} {L VB : Nat → Nat} (h : w.ownsRow base 96 4 (.slice io len cp) len (qcells T L VB len)) (i : Nat) (hi : i < len) :
    ∃ ib, io = some ⟨ib, 0, none⟩ ∧ w.cell? ⟨ib, 0 + i * 4, none⟩ = some (.int .i64 (T i)) ∧ w.cell? ⟨ib, 0 + i * 4 + 1, none⟩ = some (.slice (some ⟨VB i, 0, none⟩) (L i) (L i)) ∧ w.cell? ⟨ib, 0 + i * 4 + 2, none⟩ = some (.slice none 0 0) := by
  rcases h.2 with ⟨h1, h2⟩ | ⟨g, cap, cur, hv, _, hh, hn, _, hs, ht⟩
  · omega
  · cases hv
    refine ⟨g, rfl, ?_⟩
    have hc : ∀ j, j < 4 → w.cell? ⟨g, 0 + i * 4 + j, none⟩ = (qcell T L VB i)[j]? := fun j hj => by
      rw [cell_of_row w g _ cur 96 (0, 0) hh, ← qcells_at T L VB len i hi j hj, ← ht, List.getElem?_take, if_pos (by omega)]
      simp
    exact ⟨hc 0 (by omega), hc 1 (by omega), hc 2 (by omega)⟩

/-- is inner set i met? -/
def innR (S : List Int) (T : Nat → Int) (Z : Nat → List Int) (i : Nat) : Bool := metB (T i) (cnt S (Z i)) 0 (fun _ => false)

theorem setAt_keep {w w' : World} {sb : Nat} {S : List Int} (h : SetAt w sb S) (hk : ∀ j, w'.cell? ⟨sb, j, none⟩ = w.cell? ⟨sb, j, none⟩) : SetAt w' sb S := fun j hj => ⟨(hk j).trans (h j hj).1, (h j hj).2⟩

/-- 'q.met(s)' of what was built -/
theorem met_built (qb : Nat) (th : Int) (vb len0 : Nat) (z0 : List Int) (io : Option Addr) (len cp base : Nat) (T : Nat → Int) (L VB : Nat → Nat) (Z : Nat → List Int) (sb : Nat) (S : List Int) (w : World)
    (hc0 : w.cell? ⟨qb, 0, none⟩ = some (.int .i64 th)) (hc1 : w.cell? ⟨qb, 1, none⟩ = some (.slice (some ⟨vb, 0, none⟩) len0 len0)) (hc2 : w.cell? ⟨qb, 2, none⟩ = some (.slice io len cp))
    (hr0 : Row .i64 w (some ⟨vb, 0, none⟩) len0 z0) (hb0 : ∀ i, i < z0.length → 0 ≤ z0.getD i 0 ∧ z0.getD i 0 < 256) (hl0 : len0 ≤ 1024) (hl : len ≤ 1024) (hs : SetAt w sb S) (ht1 : -128 ≤ th) (ht2 : th ≤ 127)
    (hown : w.ownsRow base 96 4 (.slice io len cp) len (qcells T L VB len)) (hrow : ∀ i, i < len → Row .i64 w (some ⟨VB i, 0, none⟩) (L i) (Z i)) (hsm : ∀ i, i < len → ∀ j, j < (Z i).length → 0 ≤ (Z i).getD j 0 ∧ (Z i).getD j 0 < 256)
    (hL : ∀ i, i < len → L i ≤ 1024) (hT : ∀ i, i < len → -128 ≤ T i ∧ T i ≤ 127) :
    Calls Yba.prog 18 #[.pointer (some ⟨qb, 0, none⟩), .slice (some ⟨sb, 0, none⟩) 4 4] w fun e w' => e = .returned (.bool (metB th (cnt S z0) len (innR S T Z))) ∧ ∃ m, w' = w.drewN m := by
  refine met_core qb 0 th _ len0 len0 z0 io len cp (innR S T Z) sb S w hc0 hc1 hc2 hr0 hb0 hs hl0 hl ht1 ht2 fun i hi => ?_
  obtain ⟨ib, rfl, d0, d1, d2⟩ := owns_cells hown i hi
  refine ⟨ib, 0, rfl, fun q => ?_⟩
  have := met_core ib (0 + i * 4) (T i) _ (L i) (L i) (Z i) none 0 0 (fun _ => false) sb S (w.drewN q) d0 d1 d2 ((hrow i hi).keep (by simp)) (hsm i hi) (setAt_keep hs (by simp)) (hL i hi) (by omega) (hT i hi).1 (hT i hi).2 (fun j hj => by omega)
  refine this.mono fun e w' h => ⟨h.1, ?_⟩
  obtain ⟨m, rfl⟩ := h.2
  exact ⟨q + m, by simp⟩
end Go.Proofs.Ybulkadqm.CM
