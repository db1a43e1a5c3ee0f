import Derived.Test.YbulkadqmK16
namespace Go.Proofs.Ybulkadqm.AK
open Go.RowKit

/-- the greater ballot -/
def gt (x y : Bl) : Prop := y.c < x.c ∨ (y.c = x.c ∧ y.v < x.v)
def ge (x y : Bl) : Prop := y.c < x.c ∨ (y.c = x.c ∧ y.v ≤ x.v)
def same (x y : Bl) : Prop := x.c = y.c ∧ x.v = y.v
theorem ceq_iff {x y : Bl} : ceq x y = true ↔ same x y := by
  unfold ceq same
  rw [beq_iff_eq, cmpB_zero]
  omega
theorem ceq_not {x y : Bl} (h : ceq x y = false) : ¬ same x y := fun e => by rw [ceq_iff.2 e] at h; cases h
theorem ge_of_not {x y : Bl} (h : ¬ cmpB x.c x.v y.c y.v < 0) : ge x y := by
  rw [cmpB_neg] at h
  unfold ge
  omega
theorem mem_cpt {D : Nat → Bl} {n : Nat} {x : Bl} (h : x ∈ cpt D n) : ∃ i, i < n ∧ x = D i := by
  unfold cpt at h
  simp only [List.mem_map, List.mem_filter, List.mem_range] at h
  obtain ⟨i, ⟨hi, _⟩, rfl⟩ := h
  exact ⟨i, hi, rfl⟩
theorem cpt_mem {D : Nat → Bl} {n i : Nat} (hi : i < n) (hk : keepsB D i = true) : D i ∈ cpt D n := by
  unfold cpt
  simp only [List.mem_map, List.mem_filter, List.mem_range]
  exact ⟨i, ⟨hi, hk⟩, rfl⟩
theorem cpt_has {D : Nat → Bl} {n : Nat} : ∀ i, i < n → ∃ x ∈ cpt D n, same x (D i)
  | 0, h => ⟨D 0, cpt_mem h rfl, rfl, rfl⟩
  | i + 1, h => by
    by_cases hk : keepsB D (i + 1) = true
    · exact ⟨D (i + 1), cpt_mem h hk, rfl, rfl⟩
    · obtain ⟨x, hx, h1, h2⟩ := cpt_has (D := D) (n := n) i (by omega)
      have : ceq (D (i + 1)) (D i) = true := by simpa [keepsB] using hk
      obtain ⟨e1, e2⟩ := ceq_iff.1 this
      exact ⟨x, hx, by omega, by omega⟩
theorem cpt_falls {D : Nat → Bl} : ∀ n, (∀ i j, i < j → j < n → ge (D i) (D j)) → (cpt D n).Pairwise gt
  | 0, _ => by simp [cpt]
  | n + 1, h => by
    rw [cpt_succ]
    have ih := cpt_falls n (fun i j hij hj => h i j hij (by omega))
    by_cases hk : keepsB D n = true
    · rw [if_pos hk, List.pairwise_append]
      refine ⟨ih, by simp, fun x hx y hy => ?_⟩
      obtain rfl : y = D n := by simpa using hy
      obtain ⟨i, hi, rfl⟩ := mem_cpt hx
      have hn0 : n ≠ 0 := by omega
      have h1 : ge (D (n - 1)) (D n) := h (n - 1) n (by omega) (by omega)
      have h2 : ¬ same (D n) (D (n - 1)) := ceq_not (by simpa [keepsB, hn0] using hk)
      have h3 : ge (D i) (D (n - 1)) := by
        by_cases e : i = n - 1
        · rw [e]; unfold ge; omega
        · exact h i (n - 1) (by omega) (by omega)
      unfold ge same at *
      unfold gt
      omega
    · rw [if_neg hk]
      simpa using ih

/-- what prepareCandidates hands back: the ballots of xs whose counter is not 0, the greatest first, each once -/
structure Cands (w0 : World) (xs : List Bl) (p : Option Addr) (L : List Bl) (w' : World) : Prop where
  below : Below w0.heap.size w0 w'
  row : ∀ i x, L[i]? = some x → ∃ rb, p = some ⟨rb, 0, none⟩ ∧ w0.heap.size ≤ rb ∧ w'.cell? ⟨rb, i * 2, none⟩ = some (.int .u32 x.c) ∧ w'.cell? ⟨rb, i * 2 + 1, none⟩ = some (.slice (some ⟨x.g, 0, none⟩) x.n x.n)
  val : ∀ x ∈ L, VAt w' x.g x.n x.v
  falls : L.Pairwise gt
  from_ : ∀ x ∈ L, ∃ y ∈ xs, 0 < y.c ∧ same x y
  has : ∀ y ∈ xs, 0 < y.c → ∃ x ∈ L, same x y
  len : L.length ≤ 100

def adds (xs : List Bl) : List Bl := xs.filter fun x => decide (0 < x.c)
theorem adds_snoc (xs : List Bl) (x : Bl) : (if 0 < x.c then adds xs ++ [x] else adds xs) = adds (xs ++ [x]) := by
  unfold adds
  rw [List.filter_append]
  by_cases h : 0 < x.c <;> simp [h]
theorem flat_get (l : List Bl) : ∀ i x, l[i]? = some x → (flat l)[i * 2]? = some (.int .u32 x.c) ∧ (flat l)[i * 2 + 1]? = some (.slice (some ⟨x.g, 0, none⟩) x.n x.n) := by
  induction l with
  | nil => intro i x h; simp at h
  | cons y r ih =>
    intro i x h
    match i, h with
    | 0, h => simp at h; subst h; exact ⟨rfl, rfl⟩
    | i + 1, h =>
      have := ih i x (by simpa using h)
      show ((.int .u32 y.c) :: (.slice (some ⟨y.g, 0, none⟩) y.n y.n) :: flat r)[(i + 1) * 2]? = _ ∧ ((.int .u32 y.c) :: (.slice (some ⟨y.g, 0, none⟩) y.n y.n) :: flat r)[(i + 1) * 2 + 1]? = _
      rw [show (i + 1) * 2 = i * 2 + 1 + 1 by omega, show i * 2 + 1 + 1 + 1 = (i * 2 + 1) + 1 + 1 by omega]
      simpa using this
def nthB (l : List Bl) (i : Nat) : Bl := l[i]?.getD ⟨0, 0, 0, 0⟩
theorem row_of_owns {w : World} {base g cap : Nat} {l : List Bl} (h : w.ownsRow base 75 2 (.slice (some ⟨g, 0, none⟩) l.length cap) l.length (flat l)) : RowB w g l.length (nthB l) := fun i hi => by
  have e : l[i]? = some (nthB l i) := by simp [nthB, hi]
  obtain ⟨h0, h1⟩ := flat_get l i _ e
  exact ⟨(h.cellAt (i * 2) (by omega)).trans h0, (h.cellAt (i * 2 + 1) (by omega)).trans h1, h.frozenAt _, h.frozenAt _⟩
theorem VAt.lt {w : World} {g n v : Nat} (h : VAt w g n v) : n = 0 ∨ g < w.heap.size := by
  rcases h with h | ⟨_, _, h⟩ | ⟨_, _, h⟩
  · exact .inl h.2
  · exact .inr (World.block_lt_of_cell? w _ h)
  · exact .inr (World.block_lt_of_cell? w _ h)

set_option maxRecDepth 100000 in
set_option maxHeartbeats 800000 in
theorem compact_nil (f : Value) (w : World) : Calls Yba.prog 36 #[.slice none 0 0, f] w fun e w' => e = .returned (.slice none 0 0) ∧ w' = w := by
  go_enter Yba.func36, Yba.ntmps36
  go_wp2_with fail
  go_ret
  exact ⟨rfl, rfl⟩

theorem tail_walk {w0 wT w : World} {xs : List Bl} (hT : Below w0.heap.size w0 wT) (hN : w0.heap.size < wT.heap.size) (hv : ∀ x ∈ xs, VAt w0 x.g x.n x.v) (hl : xs.length ≤ 12) (hA : AInv wT w0.heap.size w (adds xs)) :
    ∃ v, w.cell? ⟨w0.heap.size, 0, none⟩ = some v ∧ Hid (Calls Yba.prog 34 #[v, .func (.func 35) #[] #[]] w fun e w1 => e = .returned (.tuple #[]) ∧ w1.cell? ⟨w0.heap.size, 0, none⟩ = some v ∧
      Hid (Calls Yba.prog 36 #[v, .func (.func 37) #[] #[]] w1 fun e w2 => ∃ p cap L, e = .returned (.slice p L.length cap) ∧ Cands w0 xs p L w2)) := by
  obtain ⟨hfr, v, hv0, hown⟩ := hA
  have hc : w.cell? ⟨w0.heap.size, 0, none⟩ = some v := by rw [cell_of_row _ _ _ _ _ _ hv0]; rfl
  have hB : Below w0.heap.size w0 w := hfr.below hT (Nat.le_refl _) (by omega)
  have hmem : ∀ x, x ∈ adds xs ↔ x ∈ xs ∧ 0 < x.c := fun x => by simp [adds]
  refine ⟨v, hc, ?_⟩
  rcases hown.2 with ⟨rfl, h0⟩ | ⟨g, cap, cur, rfl, hg, hcur, hncap, hmax, _, _⟩
  · refine (sort_nil _ w).mono ?_
    rintro e w1 ⟨rfl, rfl⟩
    refine ⟨rfl, hc, ?_⟩
    refine (compact_nil _ w1).mono ?_
    rintro e w2 ⟨rfl, rfl⟩
    have he : adds xs = [] := List.eq_nil_of_length_eq_zero h0
    exact ⟨none, 0, [], rfl, hB, by simp, by simp, by simp, by simp, fun y hy hc => by have := (hmem y).2 ⟨hy, hc⟩; rw [he] at this; simp at this, by simp⟩
  · have hlen : (adds xs).length ≤ 12 := Nat.le_trans (List.length_filter_le _ _) hl
    have hR := row_of_owns hown
    have hglt : g < w.heap.size := (Array.getElem?_eq_some_iff.1 hcur).1
    have hVx : ∀ x ∈ xs, VAt w x.g x.n x.v ∧ (x.n = 0 ∨ x.g ≠ g) := fun x hx => ⟨(hv x hx).below hB, by
      rcases (hv x hx).lt with h | h
      · exact .inl h
      · right; omega⟩
    have hnth : ∀ i, i < (adds xs).length → nthB (adds xs) i ∈ adds xs := fun i hi => by
      have : (adds xs)[i]? = some (nthB (adds xs) i) := by simp [nthB, hi]
      exact List.mem_of_getElem? this
    refine (sort_walk g (adds xs).length cap (nthB (adds xs)) w hR hlen hglt (fun i hi => hVx _ ((hmem _).1 (hnth i hi)).1)).mono ?_
    rintro e w1 ⟨rfl, E, hE, hsorted, hE1, hE2, hch⟩
    refine ⟨rfl, hch.cell (by show w0.heap.size ≠ g; omega) hc, ?_⟩
    have hEx : ∀ i, i < (adds xs).length → E i ∈ adds xs := fun i hi => by
      obtain ⟨j, hj, e⟩ := hE1 i hi
      rw [e]; exact hnth j hj
    have hel : El2 w1 g (adds xs).length E := fun i hi => by
      have := hVx _ ((hmem _).1 (hEx i hi)).1
      exact ⟨hch.val this.2 this.1, this.2⟩
    refine (compact_walk g (adds xs).length cap E w1 hE hel (by omega) hncap).mono ?_
    rintro e w2 ⟨k, F, rfl, hk, hF, hRF, hch2⟩
    have hfall := cpt_falls (D := E) (adds xs).length (fun i j hij hj => ge_of_not (hsorted i j hij hj))
    refine ⟨some ⟨g, 0, none⟩, cap, cpt E (adds xs).length, by rw [hk], ?_, ?_, ?_, hfall, ?_, ?_, ?_⟩
    · exact hch2.below (hch.below hB (by omega) (by have := hB.size; omega)) (by omega) (by have := hB.size; have := hch.size; omega)
    · intro i x hx
      have hi : i < k := by rw [hk]; exact (List.getElem?_eq_some_iff.1 hx).1
      have := hF i hi
      rw [hx] at this
      obtain rfl : x = F i := by simpa using this
      obtain ⟨c0, c1, _, _⟩ := hRF i hi
      exact ⟨g, rfl, by omega, c0, c1⟩
    · intro x hx
      obtain ⟨i, hi, rfl⟩ := mem_cpt hx
      exact hch2.val (hel i hi).2 (hel i hi).1
    · intro x hx
      obtain ⟨i, hi, rfl⟩ := mem_cpt hx
      have := (hmem _).1 (hEx i hi)
      exact ⟨E i, this.1, this.2, rfl, rfl⟩
    · intro y hy hyc
      obtain ⟨j, hj⟩ := List.getElem?_of_mem ((hmem y).2 ⟨hy, hyc⟩)
      have hj' : j < (adds xs).length := (List.getElem?_eq_some_iff.1 hj).1
      obtain ⟨i, hi, e⟩ := hE2 j hj'
      have e2 : nthB (adds xs) j = y := by simp [nthB, hj]
      obtain ⟨x, hx, hs⟩ := cpt_has (D := E) (n := (adds xs).length) i hi
      rw [← e, e2] at hs
      exact ⟨x, hx, hs⟩
    · have : (cpt E (adds xs).length).length ≤ (adds xs).length := by
        unfold cpt
        rw [List.length_map]
        exact Nat.le_trans (List.length_filter_le _ _) (by simp)
      omega
end Go.Proofs.Ybulkadqm.AK
