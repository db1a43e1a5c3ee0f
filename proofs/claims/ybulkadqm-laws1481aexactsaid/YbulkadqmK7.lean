import Derived.Test.YbulkadqmK6
namespace Go.Proofs.Ybulkadqm.AK
open Go.RowKit

theorem cov_boxed {w : World} {c : Int} {g n v sg sn sv : Nat} (xv : VAt w g n v) (hs : VAt w sg sn sv) (w' : World) (m : Int) (b : Nat) (hbq : b = w'.heap.size) (hb : Below w.heap.size w w') :
    Calls Yba.prog 23 #[.pointer (some ⟨b, 0, none⟩), .agg #[.int .u32 c, .slice (some ⟨g, 0, none⟩) n n]] (w'.alloc (.cells #[.int .u32 m, .slice (some ⟨sg, 0, none⟩) sn sn] 75)) fun e w'' => e = .returned (.bool (cov true m sv c v)) ∧ Below w.heap.size w w'' := by
  subst hbq
  have hb2 := hb.trans ((boxed_below w' m sg sn).mono hb.size)
  refine (cov_any (some ⟨w'.heap.size, 0, none⟩) 0 true m sv c g n v _ (.inr ⟨rfl, _, sg, sn, rfl, ⟨(boxed_at w' m sg sn).1, (boxed_at w' m sg sn).2, hs.below hb2⟩, Nat.zero_le _⟩) (xv.below hb2)).mono ?_
  rintro e w'' ⟨he, h2⟩
  exact ⟨he, hb2.trans (h2.mono hb2.size)⟩
theorem below2 (w : World) (o o' : Obj) : Below w.heap.size w ((w.alloc o).alloc o') := ((Below.refl _ _).alloc (Nat.le_refl _) _).alloc (by simp [go_sem]) _

set_option maxRecDepth 100000 in
set_option maxHeartbeats 3200000 in
theorem com_walk (sc pc hc cc : Int) (sg sn sv : Nat) (xb : Nat) (c : Int) (g n v : Nat) (w : World) (hx : BAt w xb c g n v) (hs : VAt w sg sn sv) :
    Calls Yba.prog 27 #[stv (.iface 111 (.agg #[.int .u32 sc, .slice (some ⟨sg, 0, none⟩) sn sn, .int .u32 pc, .int .u32 hc, .int .u32 cc])), .pointer (some ⟨xb, 0, none⟩)] w fun e w' => e = .returned (.bool (cov true (max pc hc) sv c v)) ∧ Below w.heap.size w w' := by
  unfold stv
  obtain ⟨x0, x1, xv⟩ := hx
  have hxl : xb < w.heap.size := World.block_lt_of_cell? w _ x0
  have HK : Hid (∀ (w' : World) (m : Int) (b : Nat), b = w'.heap.size → Below w.heap.size w w' → Calls Yba.prog 23 #[.pointer (some ⟨b, 0, none⟩), .agg #[.int .u32 c, .slice (some ⟨g, 0, none⟩) n n]] (w'.alloc (.cells #[.int .u32 m, .slice (some ⟨sg, 0, none⟩) sn sn] 75)) fun e w'' => e = .returned (.bool (cov true m sv c v)) ∧ Below w.heap.size w w'') := cov_boxed xv hs
  clear xv hs
  have hx1 : xb < w.heap.size + 1 := by omega
  have hx2 : xb < w.heap.size + 1 + 1 := by omega
  have e2 := tb1
  have e4 := ta111
  by_cases hm : pc < hc
  · rw [show max pc hc = hc by omega]
    have hm2 : pc ≤ hc := by omega
    go_enter Yba.func27, Yba.ntmps27
    go_wp2_with (go_at_call 23; refine (HK.out _ _ _ (by simp [go_sem]) (below2 _ _ _)).mono ?_; rintro e w' ⟨rfl, hbl⟩)
    go_ret
    exact ⟨rfl, hbl⟩
  · rw [show max pc hc = pc by omega]
    have hm2 : hc ≤ pc := by omega
    go_enter Yba.func27, Yba.ntmps27
    go_wp2_with (go_at_call 23; refine (HK.out _ _ _ (by simp [go_sem]) (below2 _ _ _)).mono ?_; rintro e w' ⟨rfl, hbl⟩)
    go_ret
    exact ⟨rfl, hbl⟩
end Go.Proofs.Ybulkadqm.AK
