import Derived.Test.YbulkadqmK30
namespace Go.Proofs.Ybulkadqm.AK
open Go.RowKit

/-- does the law's own search take the candidate -/
def okE (hasH : Bool) (hc : Int) (hv : Nat) (ok : Bl → Bool) (x : Bl) : Bool := !(hasH && decide (cmpB x.c x.v hc hv ≤ 0)) && ok x
/-- the best so far -/
def bstep (ok : Bl → Bool) (o : Option Bl) (x : Bl) : Option Bl :=
  if ok x then (match o with
    | none => some x
    | some b => if 0 < cmpB x.c x.v b.c b.v then some x else some b) else o
def best (ok : Bl → Bool) (C : List Bl) : Option Bl := C.foldl (bstep ok) none
theorem best_snoc (ok : Bl → Bool) (C : List Bl) (x : Bl) : best ok (C ++ [x]) = bstep ok (best ok C) x := by simp [best]

theorem cmpB_pos {c v c' v' : Int} : 0 < cmpB c v c' v' ↔ c' < c ∨ (c = c' ∧ v' < v) := by
  unfold cmpB cmp3
  by_cases h1 : c < c'
  · simp [h1]; omega
  · by_cases h2 : c' < c
    · simp [h1, h2]
    · by_cases h3 : v < v'
      · simp [h1, h2, h3]; omega
      · by_cases h4 : v' < v
        · simp [h1, h2, h3, h4]; try omega
        · simp [h1, h2, h3, h4]; try omega
theorem best_spec (ok : Bl → Bool) : ∀ (n : Nat) (C : List Bl), C.length = n →
    (best ok C = none ∧ ∀ x ∈ C, ok x = false) ∨ (∃ b, best ok C = some b ∧ b ∈ C ∧ ok b = true ∧ ∀ y ∈ C, ok y = true → ge b y) := by
  intro n
  induction n with
  | zero =>
    intro C hC
    obtain rfl : C = [] := List.eq_nil_of_length_eq_zero hC
    left; exact ⟨rfl, by simp⟩
  | succ n ihn =>
    intro C' hC'
    obtain ⟨C, x, rfl⟩ : ∃ C x, C' = C ++ [x] := by
      rcases List.eq_nil_or_concat C' with h | ⟨L, b, h⟩
      · rw [h] at hC'; cases hC'
      · exact ⟨L, b, by simpa using h⟩
    have ih := ihn C (by simpa using hC')
    rw [best_snoc]
    unfold bstep
    by_cases hx : ok x = true
    · rw [if_pos hx]
      rcases ih with ⟨h, hn⟩ | ⟨b, h, hb, hbo, hmax⟩
      · rw [h]
        right
        refine ⟨x, rfl, by simp, hx, fun y hy ho => ?_⟩
        rcases List.mem_append.1 hy with h1 | h1
        · rw [hn y h1] at ho; cases ho
        · obtain rfl : y = x := by simpa using h1
          unfold ge; omega
      · rw [h]
        by_cases hc : 0 < cmpB x.c x.v b.c b.v
        · right
          refine ⟨x, by simp [hc], by simp, hx, fun y hy ho => ?_⟩
          rcases List.mem_append.1 hy with h1 | h1
          · have := hmax y h1 ho
            rw [cmpB_pos] at hc
            unfold ge at *
            omega
          · obtain rfl : y = x := by simpa using h1
            unfold ge; omega
        · right
          refine ⟨b, by simp [hc], by simp [hb], hbo, fun y hy ho => ?_⟩
          rcases List.mem_append.1 hy with h1 | h1
          · exact hmax y h1 ho
          · obtain rfl : y = x := by simpa using h1
            rw [cmpB_pos] at hc
            unfold ge
            omega
    · rw [if_neg hx]
      have hx' : ok x = false := by simpa using hx
      rcases ih with ⟨h, hn⟩ | ⟨b, h, hb, hbo, hmax⟩
      · left
        refine ⟨h, fun y hy => ?_⟩
        rcases List.mem_append.1 hy with h1 | h1
        · exact hn y h1
        · obtain rfl : y = x := by simpa using h1
          exact hx'
      · right
        refine ⟨b, h, by simp [hb], hbo, fun y hy ho => ?_⟩
        rcases List.mem_append.1 hy with h1 | h1
        · exact hmax y h1 ho
        · obtain rfl : y = x := by simpa using h1
          rw [hx'] at ho; cases ho
theorem pick_spec {hasH : Bool} {hc : Int} {hv : Nat} {ok : Bl → Bool} : ∀ (L : List Bl), L.Pairwise gt →
    (pick hasH hc hv ok L = none ∧ ∀ x ∈ L, okE hasH hc hv ok x = false) ∨ (∃ x, pick hasH hc hv ok L = some x ∧ x ∈ L ∧ okE hasH hc hv ok x = true ∧ ∀ y ∈ L, okE hasH hc hv ok y = true → ge x y)
  | [], _ => .inl ⟨rfl, by simp⟩
  | x :: r, h => by
    have hr := List.pairwise_cons.1 h
    unfold pick
    by_cases h1 : (hasH && decide (cmpB x.c x.v hc hv ≤ 0)) = true
    · rw [if_pos h1]
      left
      refine ⟨rfl, fun y hy => ?_⟩
      have hh : hasH = true := by simp at h1; exact h1.1
      have h2 : cmpB x.c x.v hc hv ≤ 0 := by simp at h1; exact h1.2
      have h3 : cmpB y.c y.v hc hv ≤ 0 := by
        have h2' : ¬ 0 < cmpB x.c x.v hc hv := by omega
        rw [cmpB_pos] at h2'
        have : ¬ 0 < cmpB y.c y.v hc hv := by
          rw [cmpB_pos]
          rcases List.mem_cons.1 hy with rfl | hy
          · exact h2'
          · have := hr.1 y hy
            unfold gt at this
            omega
        omega
      simp [okE, hh, h3]
    · rw [if_neg h1]
      have h1' : (hasH && decide (cmpB x.c x.v hc hv ≤ 0)) = false := by simpa using h1
      by_cases h2 : ok x = true
      · rw [if_pos h2]
        right
        refine ⟨x, rfl, List.mem_cons_self .., by simp only [okE, h1', h2]; rfl, fun y hy ho => ?_⟩
        rcases List.mem_cons.1 hy with rfl | hy
        · unfold ge; omega
        · have := hr.1 y hy
          unfold gt at this
          unfold ge
          omega
      · rw [if_neg h2]
        have hx : okE hasH hc hv ok x = false := by
          have : ok x = false := by simpa using h2
          simp [okE, this]
        rcases pick_spec r hr.2 with ⟨h3, h4⟩ | ⟨z, h3, h4, h5, h6⟩
        · exact .inl ⟨h3, fun y hy => by
            rcases List.mem_cons.1 hy with rfl | hy
            · exact hx
            · exact h4 y hy⟩
        · exact .inr ⟨z, h3, List.mem_cons_of_mem _ h4, h5, fun y hy ho => by
            rcases List.mem_cons.1 hy with rfl | hy
            · rw [hx] at ho; cases ho
            · exact h6 y hy ho⟩
/-- two searches over the same ballots come to the same -/
theorem same_best {hasH : Bool} {hc : Int} {hv : Nat} {ok : Bl → Bool} (hk : ∀ x y, same x y → ok x = ok y) {L C : List Bl} (hL : L.Pairwise gt) (h1 : ∀ x ∈ L, ∃ y ∈ C, same x y) (h2 : ∀ y ∈ C, ∃ x ∈ L, same x y) :
    (pick hasH hc hv ok L = none ∧ best (okE hasH hc hv ok) C = none) ∨ (∃ x b, pick hasH hc hv ok L = some x ∧ best (okE hasH hc hv ok) C = some b ∧ same x b ∧ b ∈ C) := by
  have hkE : ∀ x y, same x y → okE hasH hc hv ok x = okE hasH hc hv ok y := fun x y h => by
    unfold okE
    rw [hk x y h, h.1, h.2]
  rcases pick_spec (hasH := hasH) (hc := hc) (hv := hv) (ok := ok) L hL with ⟨hp, hn⟩ | ⟨x, hp, hx, hxo, hmax⟩
  · rcases best_spec (okE hasH hc hv ok) C.length C rfl with ⟨hb, _⟩ | ⟨b, hb, hbC, hbo, _⟩
    · exact .inl ⟨hp, hb⟩
    · obtain ⟨y, hy, hs⟩ := h2 b hbC
      have := hn y hy
      rw [hkE y b hs, hbo] at this
      cases this
  · obtain ⟨y, hy, hs⟩ := h1 x hx
    have hyo : okE hasH hc hv ok y = true := by rw [← hkE x y hs]; exact hxo
    rcases best_spec (okE hasH hc hv ok) C.length C rfl with ⟨_, hn⟩ | ⟨b, hb, hbC, hbo, hbm⟩
    · rw [hn y hy] at hyo; cases hyo
    · refine .inr ⟨x, b, hp, hb, ?_, hbC⟩
      obtain ⟨z, hz, hzs⟩ := h2 b hbC
      have hz1 := hmax z hz (by rw [hkE z b hzs]; exact hbo)
      have hz2 := hbm y hy hyo
      unfold same ge at *
      omega
end Go.Proofs.Ybulkadqm.AK
