import Derived.Test.YbulkadqmK29
import Derived.Test.YbulkadqmK26
namespace Go.Proofs.Ybulkadqm.AK
open Go.RowKit

/-- does the statement that build lays accept (c, v) prepared -/
def accK (I : In) (kind : Int) (c : Int) (v : Nat) : Bool :=
  if kind = 0 then accP I.f5 I.f6 (I.f7 % 3).toNat I.f8 I.f9 (I.f4 % 3).toNat c v
  else if kind = 1 then cov true (max I.f6 I.f9) (I.f4 % 3).toNat c v else decide (v = (I.f4 % 3).toNat)
theorem acc_of {w : World} {lo : Nat} {I : In} {kind : Int} {pl : Value} (h : PlAt w lo I kind pl) (w' : World) (xb : Nat) (c : Int) (g n v : Nat) (hb : Below w.heap.size w w') (hx : BAt w' xb c g n v) :
    Calls Yba.prog 27 #[stv pl, .pointer (some ⟨xb, 0, none⟩)] w' fun e w'' => e = .returned (.bool (accK I kind c v)) ∧ Below w'.heap.size w' w'' := by
  rcases h with ⟨rfl, sg, sn, pp, rfl, hs, hp⟩ | ⟨rfl, sg, sn, rfl, hs⟩ | ⟨rfl, sg, sn, rfl, hs⟩
  · exact pre_walk I.f3 I.f8 I.f9 0 sg sn _ pp lo _ _ _ xb c g n v w' hx (hs.below hb) (hp.below hb)
  · exact com_walk I.f3 I.f6 I.f9 0 sg sn _ xb c g n v w' hx (hs.below hb)
  · exact ext_walk I.f3 I.f9 sg sn _ xb c g n v w' hx (hs.below hb)
theorem pl_one {w : World} {lo : Nat} {I : In} {kind : Int} {pl : Value} (h : PlAt w lo I kind pl) : pl.oneCell' = true := by
  rcases h with ⟨_, _, _, _, rfl, _⟩ | ⟨_, _, _, rfl, _⟩ | ⟨_, _, _, rfl, _⟩ <;> rfl

/-- the candidates of a PREPARE -/
def ks (I : In) : List (Int × Nat) := (I.f3, (I.f4 % 3).toNat) :: ((if I.f5 then [(I.f6, (I.f7 % 3).toNat)] else []) ++ [(I.f9, (I.f4 % 3).toNat)])
theorem cands_of {w : World} {sb eb mb kb zb lo : Nat} {pl : Value} {idx ph : Int} {pB pP pPP pH : Option Addr} {stopped : Bool} {I : In} {kind : Int} (S : SlotAt w sb eb mb kb zb pl idx ph pB pP pPP pH stopped) (hB : PAt w lo I.f10 I.f11 (I.f12 % 3).toNat pB) (h : PlAt w lo I kind pl)
    (h3 : 0 ≤ I.f3) (h6 : 0 ≤ I.f6) (h9 : 0 ≤ I.f9) (h11 : 0 ≤ I.f11) :
    ∃ xs, (kind = 0 → xs.map key = ks I) ∧ Calls Yba.prog 21 #[.pointer (some ⟨sb, 0, none⟩)] w fun e w' => ∃ p cap L, e = .returned (.slice p L.length cap) ∧ Cands w xs p L w' := by
  rcases h with ⟨rfl, sg, sn, pp, rfl, hs, hp⟩ | ⟨rfl, sg, sn, rfl, hs⟩ | ⟨rfl, sg, sn, rfl, hs⟩
  · rcases hp with ⟨h5, rfl⟩ | ⟨h5, b, g, n, rfl, hb, _⟩
    · exact ⟨_, fun _ => by simp [ks, key, h5], cands_P0 sb mb I.f3 I.f8 I.f9 0 sg sn _ pB w S.bl S.m S.b hs h3 h9⟩
    · exact ⟨_, fun _ => by simp [ks, key, h5], cands_P sb mb I.f3 I.f8 I.f9 0 sg sn _ b g n I.f6 _ pB w S.bl S.m S.b hb hs h3 h6 h9⟩
  · rcases hB with ⟨_, rfl⟩ | ⟨_, b, g, n, rfl, hb, _⟩
    · exact ⟨_, fun h => (by omega), cands_C0 sb mb I.f3 I.f6 I.f9 0 sg sn _ w S.bl S.m S.b hs h3 h6 h9⟩
    · exact ⟨_, fun h => (by omega), cands_C1 sb mb I.f3 I.f6 I.f9 0 sg sn _ b g n I.f11 _ w S.bl S.m S.b hb hs h3 h6 h11 h9⟩
  · rcases hB with ⟨_, rfl⟩ | ⟨_, b, g, n, rfl, hb, _⟩
    · exact ⟨_, fun h => (by omega), cands_E0 sb mb I.f3 I.f9 sg sn _ w S.bl S.m S.b hs h3 h9⟩
    · exact ⟨_, fun h => (by omega), cands_E1 sb mb I.f3 I.f9 sg sn _ b g n I.f11 _ w S.bl S.m S.b hb hs h3 h11 h9⟩

/-- is the candidate confirmed -/
def okx (I : In) (kind : Int) (x : Bl) : Bool := (cov I.f13 I.f14 (I.f15 % 3).toNat x.c x.v || cov I.f16 I.f17 (I.f18 % 3).toNat x.c x.v) && accK I kind x.c x.v
def keepx (I : In) (x : Bl) : Bool := I.f10 && !decide (cmpB I.f11 (I.f12 % 3).toNat x.c x.v < 0)
theorem conf_of {w : World} {sb eb mb kb zb lo : Nat} {pl : Value} {idx : Int} {pB pP pPP pH : Option Addr} {stopped : Bool} {I : In} {kind : Int} (S : SlotAt w sb eb mb kb zb pl idx 0 pB pP pPP pH stopped) (hB : PAt w lo I.f10 I.f11 (I.f12 % 3).toNat pB) (hP : PAt w lo I.f13 I.f14 (I.f15 % 3).toNat pP) (hPP : PAt w lo I.f16 I.f17 (I.f18 % 3).toNat pPP) (hH : PAt w lo I.f19 I.f20 (I.f21 % 3).toNat pH) (h : PlAt w lo I kind pl)
    (h3 : 0 ≤ I.f3) (h6 : 0 ≤ I.f6) (h9 : 0 ≤ I.f9) (h11 : 0 ≤ I.f11) :
    ∃ xs, (kind = 0 → xs.map key = ks I) ∧ Calls Yba.prog 8 #[.pointer (some ⟨sb, 0, none⟩)] w fun e w' => ConfP w xs (pick I.f19 I.f20 (I.f21 % 3).toNat (okx I kind)) sb eb idx stopped pB (keepx I) e w' := by
  obtain ⟨xs, hx, hC⟩ := cands_of S hB h h3 h6 h9 h11
  exact ⟨xs, hx, confirm_walk sb eb mb kb zb pl (pl_one h) idx pB pP pPP pH _ _ _ _ _ _ _ _ _ _ _ _ stopped (accK I kind) xs w S (hB.lo (Nat.zero_le _)) (hP.lo (Nat.zero_le _)) (hPP.lo (Nat.zero_le _)) (hH.lo (Nat.zero_le _)) (fun w' xb c g n v hb hx => acc_of h w' xb c g n v hb hx) hC⟩
/-- what is known of the picked ballot -/
theorem pick_some {hasH : Bool} {hc : Int} {hv : Nat} {ok : Bl → Bool} : ∀ {L : List Bl} {x : Bl}, pick hasH hc hv ok L = some x → x ∈ L ∧ ok x = true ∧ (hasH && decide (cmpB x.c x.v hc hv ≤ 0)) = false
  | [], x, h => by simp [pick] at h
  | y :: r, x, h => by
    unfold pick at h
    by_cases h1 : (hasH && decide (cmpB y.c y.v hc hv ≤ 0)) = true
    · rw [if_pos h1] at h; cases h
    · rw [if_neg h1] at h
      by_cases h2 : ok y = true
      · rw [if_pos h2] at h
        obtain rfl : y = x := by simpa using h
        exact ⟨List.mem_cons_self .., h2, by simpa using h1⟩
      · rw [if_neg h2] at h
        obtain ⟨a, b, c⟩ := pick_some h
        exact ⟨List.mem_cons_of_mem _ a, b, c⟩
end Go.Proofs.Ybulkadqm.AK
