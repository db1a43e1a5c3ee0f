import Derived.Test.YbulkadroE
import Derived.OpenShut
import Derived.ShutString
import Derived.ChangeOld
import Derived.Laws.IdiomArrays
namespace Go.Proofs.Ybulkadro.WA
open Go.ChangeShapes Go.WideShapes Go.ChangeAt Go.RowKit

theorem own : ownKnob Yba.prog.godebug = none := by kernel_rfl
theorem laidOut : laidOutB Yba.prog = true := by kernel_rfl

theorem X_word {x0 x1 x2 x3 : Int} (h0 : Word x0) (h1 : Word x1) (h2 : Word x2) (h3 : Word x3) (n : Nat) : Word (X x0 x1 x2 x3 n) := by
  unfold X; split <;> assumption

theorem turned_eq (x0 x1 x2 x3 m : Int) (n : Nat) (h0 : Word x0) (h1 : Word x1) (h2 : Word x2) (h3 : Word x3) :
    turned x0 x1 x2 x3 n m = ((bits .andNot .u64 (X x0 x1 x2 x3 n) m == 0) && (X x0 x1 x2 x3 ((n + 1) % 4) == 0) && (X x0 x1 x2 x3 ((n + 2) % 4) == 0) && (X x0 x1 x2 x3 ((n + 3) % 4) == 0)) := by
  unfold turned
  rw [or_zero _ _ (bits_word ..) (X_word h0 h1 h2 h3 _), or_zero _ _ (bits_word ..) (X_word h0 h1 h2 h3 _), or_zero _ _ (bits_word ..) (X_word h0 h1 h2 h3 _)]

theorem turned_on (x0 x1 x2 x3 : Int) (s n : Nat) (hs : s < 64) (hn : n < 4) (h0 : Word x0) (h1 : Word x1) (h2 : Word x2) (h3 : Word x3) (hb : bitAt (X x0 x1 x2 x3 n) s = false) :
    turned x0 x1 x2 x3 n ((2 ^ s : Nat) : Int) = (zero4 x0 x1 x2 x3 || want x0 x1 x2 x3 (bits .or .u64 (X x0 x1 x2 x3 n) ((2 ^ s : Nat) : Int)) n) := by
  have hw : want x0 x1 x2 x3 (bits .or .u64 (X x0 x1 x2 x3 n) ((2 ^ s : Nat) : Int)) n = false := by
    have hne := or_pow_ne (X x0 x1 x2 x3 n) s (X_word h0 h1 h2 h3 n) hs
    have hwo := bits_word .or (X x0 x1 x2 x3 n) ((2 ^ s : Nat) : Int)
    generalize bits .or .u64 (X x0 x1 x2 x3 n) ((2 ^ s : Nat) : Int) = y at hwo hne ⊢
    unfold want
    match n, hn with
    | 0, _ | 1, _ | 2, _ | 3, _ =>
      simp (decide := true) only [↓reduceIte]
      rw [zero4_eq _ _ _ _ (by assumption) (by assumption) (by assumption) (by assumption), hne]
      simp
  rw [turned_eq _ _ _ _ _ _ h0 h1 h2 h3, hw, Bool.or_false, andNot_clear _ s (X_word h0 h1 h2 h3 n) hs hb, zero4_eq _ _ _ _ h0 h1 h2 h3]
  match n, hn with
  | 0, _ | 1, _ | 2, _ | 3, _ =>
    simp only [X] <;> generalize (x0 == 0) = b0 <;> generalize (x1 == 0) = b1 <;> generalize (x2 == 0) = b2 <;> generalize (x3 == 0) = b3 <;>
      cases b0 <;> cases b1 <;> cases b2 <;> cases b3 <;> rfl

theorem turned_off (x0 x1 x2 x3 : Int) (s n : Nat) (hn : n < 4) (h0 : Word x0) (h1 : Word x1) (h2 : Word x2) (h3 : Word x3) (hb : bitAt (X x0 x1 x2 x3 n) s = true) :
    turned x0 x1 x2 x3 n ((2 ^ s : Nat) : Int) = (zero4 x0 x1 x2 x3 || want x0 x1 x2 x3 (bits .andNot .u64 (X x0 x1 x2 x3 n) ((2 ^ s : Nat) : Int)) n) := by
  have hne := set_ne _ s hb
  have hz : zero4 x0 x1 x2 x3 = false := by
    rw [zero4_eq _ _ _ _ h0 h1 h2 h3]
    match n, hn with
    | 0, _ | 1, _ | 2, _ | 3, _ =>
      simp only [X] at hne
      rw [hne]; simp
  have hwo := bits_word .andNot (X x0 x1 x2 x3 n) ((2 ^ s : Nat) : Int)
  rw [turned_eq _ _ _ _ _ _ h0 h1 h2 h3, hz, Bool.false_or]
  generalize bits .andNot .u64 (X x0 x1 x2 x3 n) ((2 ^ s : Nat) : Int) = y at hwo ⊢
  unfold want
  match n, hn with
  | 0, _ | 1, _ | 2, _ | 3, _ =>
    simp (decide := true) only [↓reduceIte]
    rw [zero4_eq _ _ _ _ (by assumption) (by assumption) (by assumption) (by assumption)]
    simp only [X] <;> generalize (x0 == 0) = b0 <;> generalize (x1 == 0) = b1 <;> generalize (x2 == 0) = b2 <;> generalize (x3 == 0) = b3 <;> generalize (y == 0) = b4 <;>
      cases b0 <;> cases b1 <;> cases b2 <;> cases b3 <;> cases b4 <;> rfl

theorem law_walk (x0 x1 x2 x3 rd wt i : Int) (on : Bool) (w : World) (h0 : Word x0) (h1 : Word x1) (h2 : Word x2) (h3 : Word x3) (hi0 : 0 ≤ i) (hi1 : i < 18446744073709551616) :
    Calls Yba.prog 3 #[.agg #[.int .u64 x0, .int .u64 x1, .int .u64 x2, .int .u64 x3], .int .u64 rd, .int .u64 wt, .int .u64 i, .bool on] w fun e w' => e = .returned (.bool true) ∧ Below w.heap.size w w' := by
  obtain ⟨s, hs, hsi, hm⟩ := wrap_pow i
  have hst : (i % 64).toNat = s := by omega
  obtain ⟨n, hn, hn4⟩ : ∃ n : Nat, i / 64 % 4 = (n : Int) ∧ n < 4 := ⟨(i / 64 % 4).toNat, by omega, by omega⟩
  have hX := X_word h0 h1 h2 h3 n
  have hand := and_pow (X x0 x1 x2 x3 n) s hX hs
  have hshr : (bits .and .u64 (X x0 x1 x2 x3 n / 2 ^ (i % 64).toNat) 1 == 1) = bitAt (X x0 x1 x2 x3 n) s := by
    rw [hst, ← shr_and (X x0 x1 x2 x3 n) s hX, Int.natCast_pow]; rfl
  cases hb : bitAt (X x0 x1 x2 x3 n) s with
  | true =>
    rw [hb] at hand hshr
    cases on with
    | true => exact law_same x0 x1 x2 x3 rd wt i _ true n w hi0 hi1 hm hn (by omega) (by omega) hand hshr
    | false => exact law_off x0 x1 x2 x3 rd wt i _ _ n _ w hi0 hi1 hm hn (by omega) (by omega) hand hshr (xor_set _ s hX hs hb) rfl rfl (turned_off x0 x1 x2 x3 s n hn4 h0 h1 h2 h3 hb)
  | false =>
    rw [hb] at hand hshr
    cases on with
    | true => exact law_on x0 x1 x2 x3 rd wt i _ _ n _ w hi0 hi1 hm hn (by omega) (by omega) hand hshr (xor_clear _ s hX hs hb) rfl rfl (turned_on x0 x1 x2 x3 s n hs hn4 h0 h1 h2 h3 hb)
    | false => exact law_same x0 x1 x2 x3 rd wt i _ false n w hi0 hi1 hm hn (by omega) (by omega) hand hshr

/-- an array of four words that came in by value -/
theorem open_words {H : Type} {enc : TypeId × Value → H} {W : World} {base b0 : Nat} {r : Reach} {spare : Nat → Bool} {held : Bool} {v : Value} {d : DataW H} {p : List MemPlace}
    (hv : Value.okWide Yba.prog W r b0 23 v) (h : DataW.Trod enc Yba.prog W base spare held 23 v d p) :
    ∃ x0 x1 x2 x3 : Int, v = .agg #[.int .u64 x0, .int .u64 x1, .int .u64 x2, .int .u64 x3] ∧ Word x0 ∧ Word x1 ∧ Word x2 ∧ Word x3 := by
  simp only [Value.okWide, Yba.underlying23] at hv
  obtain ⟨cs, rfl, hsz, _⟩ := hv
  rw [show Yba.prog.cellsOf 23 = 4 from by kernel_rfl] at hsz
  obtain ⟨fuel, hf⟩ := h
  obtain ⟨l⟩ := cs
  match l, hsz with
  | [c0, c1, c2, c3], _ =>
    simp only [Value.cells] at hf
    obtain ⟨y0, y1, y2, y3, n, _, t0, t1, t2, t3⟩ := trod_array4 Yba.underlying23 (by kernel_rfl) hf
    obtain ⟨x0, e0, _, w0⟩ := DataW.trod_int Yba.underlying22 t0
    obtain ⟨x1, e1, _, w1⟩ := DataW.trod_int Yba.underlying22 t1
    obtain ⟨x2, e2, _, w2⟩ := DataW.trod_int Yba.underlying22 t2
    obtain ⟨x3, e3, _, w3⟩ := DataW.trod_int Yba.underlying22 t3
    simp at e0 e1 e2 e3
    subst e0 e1 e2 e3
    have b0 := bounds_u64 w0
    have b1 := bounds_u64 w1
    have b2 := bounds_u64 w2
    have b3 := bounds_u64 w3
    exact ⟨x0, x1, x2, x3, rfl, by omega, by omega, by omega, by omega⟩

set_option maxRecDepth 100000 in
theorem lifted (os : Os) (started : os.Started) (H : Type) (enc : TypeId × Value → H) :
    ReturnsInHanded {} Yba.checked os 3 .any (Rows.lawS1483AEffectSpec.pre6 enc Yba.prog Yba.f3 Rows.lawS1483AEffectRow.domain false) (Rows.lawS1483AEffectSpec.post enc Yba.prog Yba.f3 false true false false) := by
  refine returnsInHanded_of_change (C := Yba.checked) own started (by kernel_rfl) Yba.func3
    (ChangeSpec.witness6 (enc := enc) (C := Yba.checked) false ⟨#[], #[.agg #[.int .u64 0, .int .u64 0, .int .u64 0, .int .u64 0], .int .u64 0, .int .u64 0, .int .u64 0, .bool false], []⟩ 8 (by kernel_rfl) (by kernel_rfl) (by kernel_rfl) (by kernel_rfl)) ?_
  intro W base args ds gs before hval0 hW hcnd _
  have hval : ∀ (j : Nat) t v, Yba.f3.params[j]? = some t → args[j]? = some v → Value.okWide Yba.prog W .any base t v := hval0
  have hW' := hW
  obtain ⟨p, q, hA0, hV, rfl, hfz, hnd⟩ := hW
  have hA : DataW.TrodAll enc Yba.prog W 0 (fun _ => true) true Yba.f3.params.toList args.toList ds p := hA0
  rw [Yba.params3] at hA hval
  obtain ⟨v0, vs0, d0, ds0, p0, q0, hargs, rfl, rfl, h0, r0⟩ := trodAll_cons hA
  obtain ⟨v1, vs1, d1, ds1, p1, q1, rfl, rfl, rfl, h1, r1⟩ := trodAll_cons r0
  obtain ⟨v2, vs2, d2, ds2, p2, q2, rfl, rfl, rfl, h2, r2⟩ := trodAll_cons r1
  obtain ⟨v3, vs3, d3, ds3, p3, q3, rfl, rfl, rfl, h3, r3⟩ := trodAll_cons r2
  obtain ⟨v4, vs4, d4, ds4, p4, q4, rfl, rfl, rfl, h4, r4⟩ := trodAll_cons r3
  obtain ⟨rfl, rfl, rfl⟩ := trodAll_nil r4
  obtain rfl : args = #[v0, v1, v2, v3, v4] := by cases args; simp_all
  obtain ⟨rfl, rfl⟩ := trodVars_none hV
  have k0 := h0
  have lt0 : ∀ x ∈ p0, x.block < W.heap.size := by obtain ⟨m, hm⟩ := k0; exact DataW.trod_lt m _ _ _ hm
  obtain ⟨x0, x1, x2, x3, rfl, w0, w1, w2, w3⟩ := open_words (hval 0 23 v0 rfl rfl) h0
  obtain ⟨rd, rfl, rfl, rfl, wrd⟩ := open_int Yba.underlying22 (hval 1 22 v1 rfl rfl) h1
  obtain ⟨wt, rfl, rfl, rfl, wwt⟩ := open_int Yba.underlying22 (hval 2 22 v2 rfl rfl) h2
  obtain ⟨i, rfl, rfl, rfl, wi⟩ := open_int Yba.underlying24 (hval 3 24 v3 rfl rfl) h3
  obtain ⟨on, rfl, rfl, rfl⟩ := open_bool Yba.underlying4 (hval 4 4 v4 rfl rfl) h4
  clear hA0 hval0
  have bi := bounds_u64 wi
  refine (law_walk x0 x1 x2 x3 rd wt i on W w0 w1 w2 w3 (by omega) (by omega)).mono fun e W' ⟨he, bel⟩ => ?_
  subst he
  exact ⟨_, rfl, _, _, _, [], _, [], hW', trodAll_mk1 (shut_bool Yba.underlying4 _), (trodAll_cons_mk (Below.trod laidOut (by kernel_rfl) (of_decide_eq_true (by kernel_rfl)) k0 bel lt0) (trodAll_cons_mk (shut_int Yba.underlying22 wrd) (trodAll_cons_mk (shut_int Yba.underlying22 wwt) (trodAll_cons_mk (shut_int Yba.underlying24 wi) (trodAll_cons_mk (shut_bool Yba.underlying4 _) trodAll_mk0))))), rfl, bel.frame _, fun h => by cases h⟩

theorem over : Rows.lawS1483AEffectRow.holds Yba.pinned (OpenSpec.ofChange Rows.lawS1483AEffectSpec) :=
  OpenClaim.holds_of_wide 3 Yba.f3 rfl rfl rfl rfl rfl rfl rfl ⟨rfl, rfl, rfl, rfl, rfl⟩ rfl rfl rfl rfl rfl (by kernel_rfl) Yba.func3 (by kernel_rfl)
    (of_decide_eq_true (by kernel_rfl)) (by unfold Func.isWrapper; first | (rw [if_pos (by decide +kernel)]; kernel_rfl) | (rw [if_neg (by decide +kernel)]; exact ⟨rfl, rfl⟩))
    (fun os started H enc _ => lifted os started H enc)
end Go.Proofs.Ybulkadro.WA
namespace Go.Proofs.Ybulkadro
theorem lawS1483AEffect_proved : Rows.LawS1483AEffectSaid := WA.over
end Go.Proofs.Ybulkadro
