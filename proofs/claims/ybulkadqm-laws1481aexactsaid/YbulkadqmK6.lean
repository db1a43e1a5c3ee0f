import Derived.Test.YbulkadqmK5
namespace Go.Proofs.Ybulkadqm.AK
open Go.RowKit

/-- does the ballot (cp, vp), where there is one, cover (c, v) -/
def cov (has : Bool) (cp : Int) (vp : Nat) (c : Int) (v : Nat) : Bool := has && (decide (vp = v) && decide (c ≤ cp))
theorem cov_any (p : Option Addr) (lo : Nat) (has : Bool) (cp : Int) (vp : Nat) (c : Int) (g n v : Nat) (w : World) (hp : PAt w lo has cp vp p) (hv : VAt w g n v) :
    Calls Yba.prog 23 #[.pointer p, .agg #[.int .u32 c, .slice (some ⟨g, 0, none⟩) n n]] w fun e w' => e = .returned (.bool (cov has cp vp c v)) ∧ Below w.heap.size w w' := by
  rcases hp with ⟨rfl, rfl⟩ | ⟨rfl, b, gq, nq, rfl, hb, _⟩
  · exact (covers_nil c g n w).mono fun e w' h => ⟨h.1.trans (by simp [cov]), h.2⟩
  · exact (covers_some b cp gq nq vp c g n v w hb hv).mono fun e w' h => ⟨h.1.trans (by simp [cov]), h.2⟩
theorem acov_any (p : Option Addr) (lo : Nat) (has : Bool) (cp : Int) (vp : Nat) (c : Int) (g n v : Nat) (w : World) (hp : PAt w lo has cp vp p) (hv : VAt w g n v) :
    Calls Yba.prog 10 #[.pointer p, .agg #[.int .u32 c, .slice (some ⟨g, 0, none⟩) n n]] w fun e w' => e = .returned (.bool (cov has cp vp c v)) ∧ Below w.heap.size w w' := by
  rcases hp with ⟨rfl, rfl⟩ | ⟨rfl, b, gq, nq, rfl, hb, _⟩
  · exact (acov_nil c g n w).mono fun e w' h => ⟨h.1.trans (by simp [cov]), h.2⟩
  · exact (acov_some b cp gq nq vp c g n v w hb hv).mono fun e w' h => ⟨h.1.trans (by simp [cov]), h.2⟩

/-- the statement that build lays: the node's id, no hash, the pledges pl -/
def stv (pl : Value) : Value := .agg #[.int .u8 1, .int .u8 0, .int .u8 0, .int .u8 0, .int .u8 0, .int .u8 0, .int .u8 0, .int .u8 0, .int .u8 0, .int .u8 0, .int .u8 0, .int .u8 0, .int .u8 0, .int .u8 0, .int .u8 0, .int .u8 0, .int .u8 0, .int .u8 0, .int .u8 0, .int .u8 0, .int .u8 0, .int .u8 0, .int .u8 0, .int .u8 0, .int .u8 0, .int .u8 0, .int .u8 0, .int .u8 0, .int .u8 0, .int .u8 0, .int .u8 0, .int .u8 0, .int .u64 0, .int .u8 0, .int .u8 0, .int .u8 0, .int .u8 0, .int .u8 0, .int .u8 0, .int .u8 0, .int .u8 0, .int .u8 0, .int .u8 0, .int .u8 0, .int .u8 0, .int .u8 0, .int .u8 0, .int .u8 0, .int .u8 0, .int .u8 0, .int .u8 0, .int .u8 0, .int .u8 0, .int .u8 0, .int .u8 0, .int .u8 0, .int .u8 0, .int .u8 0, .int .u8 0, .int .u8 0, .int .u8 0, .int .u8 0, .int .u8 0, .int .u8 0, .int .u8 0, pl]

set_option maxRecDepth 100000 in
set_option maxHeartbeats 1600000 in
theorem accepts_walk (c : Int) (g n : Nat) (w : World) :
    Calls Yba.prog 11 #[.agg #[.int .u32 c, .slice (some ⟨g, 0, none⟩) n n]] w fun e w' => e = .returned (.func (.func 27) #[] #[.pointer (some ⟨w.heap.size, 0, none⟩)]) ∧ w' = boxed w c g n := by
  go_enter Yba.func11, Yba.ntmps11
  go_wp2_with fail
  go_ret
  exact ⟨rfl, rfl⟩

theorem ta109 (x : Value) (w : World) : (Instr.typeAssert (.iface 109 x) 50 109 true).run Yba.prog w = .ok (.tuple #[x, .bool true]) w := by kernel_rfl
theorem ta111 (x : Value) (w : World) : (Instr.typeAssert (.iface 111 x) 50 111 true).run Yba.prog w = .ok (.tuple #[x, .bool true]) w := by kernel_rfl
theorem ta113 (x : Value) (w : World) : (Instr.typeAssert (.iface 113 x) 50 113 true).run Yba.prog w = .ok (.tuple #[x, .bool true]) w := by kernel_rfl
theorem tb1 (x : Value) (w : World) : (Instr.typeAssert (.iface 111 x) 50 109 true).run Yba.prog w = .ok (.tuple #[.agg #[.int .u32 0, .slice none 0 0, .pointer none, .int .u32 0, .int .u32 0, .int .u32 0], .bool false]) w := by kernel_rfl
theorem tb2 (x : Value) (w : World) : (Instr.typeAssert (.iface 113 x) 50 109 true).run Yba.prog w = .ok (.tuple #[.agg #[.int .u32 0, .slice none 0 0, .pointer none, .int .u32 0, .int .u32 0, .int .u32 0], .bool false]) w := by kernel_rfl
theorem tb3 (x : Value) (w : World) : (Instr.typeAssert (.iface 113 x) 50 111 true).run Yba.prog w = .ok (.tuple #[.agg #[.int .u32 0, .slice none 0 0, .int .u32 0, .int .u32 0, .int .u32 0], .bool false]) w := by kernel_rfl

set_option maxRecDepth 100000 in
set_option maxHeartbeats 3200000 in
theorem ext_walk (sc hc : Int) (sg sn sv : Nat) (xb : Nat) (c : Int) (g n v : Nat) (w : World) (hx : BAt w xb c g n v) (hs : VAt w sg sn sv) :
    Calls Yba.prog 27 #[stv (.iface 113 (.agg #[.int .u32 sc, .slice (some ⟨sg, 0, none⟩) sn sn, .int .u32 hc])), .pointer (some ⟨xb, 0, none⟩)] w fun e w' => e = .returned (.bool (decide (v = sv))) ∧ Below w.heap.size w w' := by
  unfold stv
  obtain ⟨x0, x1, xv⟩ := hx
  have hxl : xb < w.heap.size := World.block_lt_of_cell? w _ x0
  have HK : Hid (∀ w', Below w.heap.size w w' → Calls Yba.prog 28 #[.agg #[.int .u32 c, .slice (some ⟨g, 0, none⟩) n n], .agg #[.int .u32 sc, .slice (some ⟨sg, 0, none⟩) sn sn]] w' fun e w'' => e = .returned (.bool (decide (v = sv))) ∧ Below w.heap.size w w'') := by
    intro w' hb
    refine (compatible_walk c sc g n v sg sn sv w' (xv.below hb) (hs.below hb)).mono ?_
    rintro e w'' ⟨he, rfl⟩
    exact ⟨he, hb.trans ((boxed2_below ..).mono hb.size)⟩
  clear xv hs
  have e2 := tb2
  have e3 := tb3
  have e4 := ta113
  go_enter Yba.func27, Yba.ntmps27
  go_wp2_with (go_at_call 28; refine (HK.out _ (((Below.refl _ _).alloc (Nat.le_refl _) _).alloc (by simp [go_sem]) _)).mono ?_; rintro e w' ⟨rfl, hbl⟩)
  go_ret
  exact ⟨rfl, hbl⟩
end Go.Proofs.Ybulkadqm.AK
