import Derived.Test.YbulkadqmFmtL
namespace Go.Proofs.YbulkadqmFmt.WB
open Go.RowKit

/-- one value, encoded -/
def enc1 (z : List Int) : List Int := by4 z.length ++ z ++ List.replicate (padN z.length) 0
/-- the count, and the first i values, encoded -/
def encTo (len : Nat) (Z : Nat → List Int) : Nat → List Int
  | 0 => by4 len
  | i + 1 => encTo len Z i ++ enc1 (Z i)

theorem by4_len (x : Int) : (by4 x).length = 4 := rfl
theorem enc1_len (z : List Int) : (enc1 z).length = 4 + z.length + padN z.length := by simp [enc1, by4_len]; omega
theorem by4_bytes (x : Int) (h0 : 0 ≤ x) (h1 : x < 4294967296) : Bytes (by4 x) := fun i hi => by
  match i, hi with
  | 0, _ => simp [by4]; omega
  | 1, _ => simp [by4]; omega
  | 2, _ => simp [by4]; omega
  | 3, _ => simp [by4]; omega
theorem Bytes.append {xs ys : List Int} (h : Bytes xs) (k : Bytes ys) : Bytes (xs ++ ys) := fun i hi => by
  rw [List.getD_eq_getElem?_getD]
  by_cases e : i < xs.length
  · rw [List.getElem?_append_left e, ← List.getD_eq_getElem?_getD]; exact h i e
  · rw [List.getElem?_append_right (by omega), ← List.getD_eq_getElem?_getD]; exact k _ (by rw [List.length_append] at hi; omega)
theorem enc1_bytes {z : List Int} (h : Bytes z) (hl : z.length < 4294967296) : Bytes (enc1 z) := ((by4_bytes _ (by omega) (by omega)).append h).append (zeros_bytes _)
theorem encTo_bytes (len : Nat) (hlen : len < 4294967296) (Z : Nat → List Int) : ∀ i, (∀ j, j < i → Bytes (Z j) ∧ (Z j).length < 4294967296) → Bytes (encTo len Z i)
  | 0, _ => by4_bytes _ (by omega) (by omega)
  | i + 1, h => (encTo_bytes len hlen Z i (fun j hj => h j (by omega))).append (enc1_bytes (h i (by omega)).1 (h i (by omega)).2)
theorem encTo_len_le (len : Nat) (Z : Nat → List Int) : ∀ i, (∀ j, j < i → (Z j).length ≤ 1024) → (encTo len Z i).length ≤ 4 + i * 1031
  | 0, _ => by simp [encTo, by4_len]
  | i + 1, h => by
    have h1 := encTo_len_le len Z i (fun j hj => h j (by omega))
    have h2 := h i (by omega)
    have h3 := padN_le (Z i).length
    show (encTo len Z i ++ enc1 (Z i)).length ≤ _
    rw [List.length_append, enc1_len]; omega
theorem encTo_len_ge (len : Nat) (Z : Nat → List Int) : ∀ i, 4 + i * 4 ≤ (encTo len Z i).length
  | 0 => by simp [encTo, by4_len]
  | i + 1 => by
    have h1 := encTo_len_ge len Z i
    show _ ≤ (encTo len Z i ++ enc1 (Z i)).length
    rw [List.length_append, enc1_len]; omega
/-- the whole starts with each of its parts -/
theorem encTo_split (len : Nat) (Z : Nat → List Int) (i : Nat) : ∀ n, i ≤ n → ∃ post, encTo len Z n = encTo len Z i ++ post
  | 0, h => by obtain rfl : i = 0 := by omega
               exact ⟨[], by simp⟩
  | n + 1, h => by
    by_cases e : i = n + 1
    · subst e; exact ⟨[], by simp⟩
    · obtain ⟨post, hp⟩ := encTo_split len Z i n (by omega)
      exact ⟨post ++ enc1 (Z n), by show encTo len Z n ++ _ = _; rw [hp, List.append_assoc]⟩

theorem be32_by4 (x : Int) : be32 (x / 16777216) (x / 65536 % 256) (x / 256 % 256) (x % 256) = x := by unfold be32; omega

theorem getD_mid (pre mid post : List Int) (i : Nat) (hi : i < mid.length) : (pre ++ mid ++ post).getD (pre.length + i) 0 = mid.getD i 0 := by
  rw [List.getD_eq_getElem?_getD, List.getD_eq_getElem?_getD, List.append_assoc, List.getElem?_append_right (by omega), List.getElem?_append_left (by omega)]
  congr 2; omega

theorem u32At_by4 (pre post : List Int) (x : Int) : u32At (pre ++ by4 x ++ post) pre.length = x := by
  unfold u32At
  rw [show pre.length = pre.length + 0 from rfl, getD_mid pre (by4 x) post 0 (by simp [by4_len]), Nat.add_zero, getD_mid pre (by4 x) post 1 (by simp [by4_len]), getD_mid pre (by4 x) post 2 (by simp [by4_len]), getD_mid pre (by4 x) post 3 (by simp [by4_len])]
  exact be32_by4 x

theorem cut_mid (pre mid post : List Int) : cut (pre ++ mid ++ post) pre.length mid.length = mid := by
  unfold cut
  rw [List.append_assoc, List.drop_left, List.take_left]

/-- one encoded value decodes to itself -/
theorem opq_enc1 (pre z post : List Int)  : opq (pre ++ enc1 z ++ post) pre.length = (some z, pre.length + (enc1 z).length, false) := by
  have hu : u32At (pre ++ enc1 z ++ post) pre.length = (z.length : Int) := by
    have : pre ++ enc1 z ++ post = pre ++ by4 z.length ++ (z ++ List.replicate (padN z.length) 0 ++ post) := by simp [enc1]
    rw [this, u32At_by4 _ _ _]
  have hut : (u32At (pre ++ enc1 z ++ post) pre.length).toNat = z.length := by rw [hu]; omega
  have hL : (pre ++ enc1 z ++ post).length = pre.length + (4 + z.length + padN z.length) + post.length := by rw [List.length_append, List.length_append, enc1_len]
  have hc1 : cut (pre ++ enc1 z ++ post) (pre.length + 4) z.length = z := by
    have : pre ++ enc1 z ++ post = (pre ++ by4 z.length) ++ z ++ (List.replicate (padN z.length) 0 ++ post) := by simp [enc1]
    rw [this, show pre.length + 4 = (pre ++ by4 z.length).length from by simp [by4_len], cut_mid]
  have hc2 : cut (pre ++ enc1 z ++ post) (pre.length + 4 + z.length) (padN z.length) = List.replicate (padN z.length) 0 := by
    have : pre ++ enc1 z ++ post = (pre ++ by4 z.length ++ z) ++ List.replicate (padN z.length) 0 ++ post := by simp [enc1]
    have h2 := cut_mid (pre ++ by4 z.length ++ z) (List.replicate (padN z.length) 0) post
    rw [← this] at h2
    have e : (pre ++ by4 z.length ++ z).length = pre.length + 4 + z.length := by simp [by4_len]; omega
    rw [e, List.length_replicate] at h2
    exact h2
  unfold opq
  rw [hut, if_neg (by omega), if_neg (by omega), if_neg (by omega), hc2, if_pos rfl, hc1, enc1_len]
  simp; omega

theorem dec_enc (len : Nat) (Z : Nat → List Int) (n : Nat) :
    u32At (encTo len Z n) 0 = (len : Int) ∧ (∀ i, i ≤ n → stAt (encTo len Z n) i = ((encTo len Z i).length, false)) ∧ ∀ i, i < n → vAt (encTo len Z n) i = some (Z i) := by
  have h0 : u32At (encTo len Z n) 0 = (len : Int) := by
    obtain ⟨post, hp⟩ := encTo_split len Z 0 n (by omega)
    rw [hp]
    exact u32At_by4 [] post len
  have hst : ∀ i, i < n → opq (encTo len Z n) (encTo len Z i).length = (some (Z i), (encTo len Z (i + 1)).length, false) := by
    intro i hi
    obtain ⟨post, hp⟩ := encTo_split len Z (i + 1) n (by omega)
    have : encTo len Z n = encTo len Z i ++ enc1 (Z i) ++ post := hp
    rw [this, opq_enc1 _ _ _]
    show _ = (some (Z i), (encTo len Z i ++ enc1 (Z i)).length, false)
    rw [List.length_append]
  have hstAt : ∀ i, i ≤ n → stAt (encTo len Z n) i = ((encTo len Z i).length, false) := by
    intro i
    induction i with
    | zero => intro _; rfl
    | succ i ih =>
      intro hi
      show (stp _ (stAt _ i)).2 = _
      rw [ih (by omega)]
      show (opq _ _).2 = _
      rw [hst i (by omega)]
  refine ⟨h0, hstAt, fun i hi => ?_⟩
  show (stp _ (stAt _ i)).1 = _
  rw [hstAt i (by omega)]
  show (opq _ _).1 = _
  rw [hst i hi]
end Go.Proofs.YbulkadqmFmt.WB
