import Derived.Test.YbulkadqmK22
namespace Go.Proofs.Ybulkadqm.AK
open Go.RowKit
set_option linter.unusedSimpArgs false

set_option maxRecDepth 100000 in
set_option maxHeartbeats 3200000 in
theorem cands_E0 (sb mb : Nat) (sc hc : Int) (sg sn sv : Nat) (w0 : World)
    (h4 : w0.cell? ⟨sb, 4, none⟩ = some (.map (some mb))) (hm : w0.heap[mb]? = some (.map #[⟨k1, .agg (stL (plE sc sg sn hc)).toArray, 0⟩] 1))
    (h16 : w0.cell? ⟨sb, 16, none⟩ = some (.pointer none)) (hs : VAt w0 sg sn sv) (hsc : 0 ≤ sc) (hhc : 0 ≤ hc) :
    Calls Yba.prog 21 #[.pointer (some ⟨sb, 0, none⟩)] w0 fun e w' => ∃ p cap L, e = .returned (.slice p L.length cap) ∧ Cands w0 [⟨sc, sg, sn, sv⟩, ⟨hc, sg, sn, sv⟩] p L w' := by
  have hz1 := all_one (plE sc sg sn hc) rfl
  have hm0 : mb < w0.heap.size := (Array.getElem?_eq_some_iff.1 hm).1
  have hs0 : sb < w0.heap.size := World.block_lt_of_cell? _ _ h4
  have h65 : (stL (plE sc sg sn hc))[65]? = some (plE sc sg sn hc) := rfl
  have hta := ta113
  have htb := tb2
  have htc := tb3
  go_enter Yba.func21, Yba.ntmps21
  go_wp2_with fail
  rw [range_map Yba.underlying31 (heap_old _ hm)]
  simp only [Result.andThen]
  rw [Oper.upon_value]
  go_wp2_with fail
  generalize hW : World.alloc _ (Obj.mapIter (some mb) 1 #[] 1) = W
  have f1 : W.heap[mb]? = some (.map #[⟨k1, .agg (stL (plE sc sg sn hc)).toArray, 0⟩] 1) := by rw [← hW]; exact heap_old _ (heap_old _ hm)
  have f2 : W.heap[w0.heap.size]? = some (.cells #[.slice none 0 0] 85 (0, 0)) := by rw [← hW]; exact heap_old _ (heap_at _ rfl)
  have f3 : W.heap[w0.heap.size + 1]? = some (.mapIter (some mb) 1 #[] 1) := by rw [← hW]; exact heap_at _ (by simp [go_sem])
  have HW : Hid (Below w0.heap.size w0 W) := by rw [← hW]; exact ((Below.refl _ w0).alloc (Nat.le_refl _) _).alloc (by simp [go_sem]) _
  clear hW hm
  refine wp_loop_rounds 2 ?_
  rw [rounds_succ]
  go_wp2_with fail
  obtain ⟨W1, hn, O1, f3'⟩ := next_one (ty := 0) f3 f1
  rw [hn]
  simp only [Result.andThen]
  rw [Oper.upon_value]
  replace f1 := O1.obj (by omega) f1
  replace f2 := O1.obj (by omega) f2
  have HW1 : Hid (Below w0.heap.size w0 W1) := O1.below HW.out (by omega)
  clear hn O1 HW f3
  have hen := entry_one f3' f1
  go_wp2_with (first | refine wpList_store_new rfl 52 _ _ rfl _ _ (stL (plE sc sg sn hc)).toArray rfl rfl rfl (by kernel_rfl) (by kernel_rfl) hz1 ?_ | fail)
  obtain ⟨wT, EW⟩ : ∃ wT, Hid (wT = (W1.alloc (.cells (stL (plE sc sg sn hc)).toArray 52)).alloc (.cells #[.int .u32 sc, .slice (some ⟨sg, 0, none⟩) sn sn, .int .u32 hc] 113)) := ⟨_, rfl⟩
  rw [← EW.out]
  have HT : Hid (Below W1.heap.size W1 wT) := by rw [EW.out]; exact below2 _ _ _
  have HT0 : Hid (Below w0.heap.size w0 wT) := HW1.out.trans (HT.out.mono HW1.out.size)
  have p0 : wT.cell? ⟨W1.heap.size + 1, 0, none⟩ = some (.int .u32 sc) := by rw [EW.out]; simp [go_sem]
  have p1 : wT.cell? ⟨W1.heap.size + 1, 1, none⟩ = some (.slice (some ⟨sg, 0, none⟩) sn sn) := by rw [EW.out]; simp [go_sem]
  have p4 : wT.cell? ⟨W1.heap.size + 1, 2, none⟩ = some (.int .u32 hc) := by rw [EW.out]; simp [go_sem]
  have hNW : w0.heap.size + 1 < W1.heap.size := (Array.getElem?_eq_some_iff.1 f3').1
  have hN : w0.heap.size < wT.heap.size := by have := HT.out.size; omega
  have A0 : Hid (AInv wT w0.heap.size wT (adds [])) := ainv_start (below_obj HT.out f2)
  have HS : Hid (∀ (c : Int) (g n v : Nat), 0 ≤ c → ∀ xs : List Bl, xs.length ≤ 12 → ∀ w, AInv wT w0.heap.size w (adds xs) → Calls Yba.prog 33 #[.int .u32 c, .slice (some ⟨g, 0, none⟩) n n, .pointer (some ⟨w0.heap.size, 0, none⟩)] w fun e w' => e = .returned (.tuple #[]) ∧ AInv wT w0.heap.size w' (adds (xs ++ [⟨c, g, n, v⟩]))) := fun c g n v h0 xs hl w h => add_step hN c g n v h0 xs hl w h
  clear EW hen hz1 h65 hta htb htc
  go_at_call 33
  refine (HS.out sc sg sn sv hsc [] (by simp) wT A0.out).mono ?_
  rintro e w1 ⟨rfl, A1⟩
  have p1' := A1.fr.cell (by show W1.heap.size + 1 ≠ _; omega) p1
  have p4' := A1.fr.cell (by show W1.heap.size + 1 ≠ _; omega) p4
  have hb1 := World.block_lt_of_cell? _ _ p1'
  have HA1 : Hid (AInv wT w0.heap.size w1 (adds [⟨sc, sg, sn, sv⟩])) := A1
  clear A1 A0
  go_wp2_with fail
  go_at_call 33
  refine (HS.out hc sg sn sv hhc _ (by simp) _ HA1.out).mono ?_
  rintro e w3 ⟨rfl, A3⟩
  have s1 := A3.fr.cell (by show W1.heap.size + 1 ≠ _; omega) p1
  have hb3 := World.block_lt_of_cell? _ _ s1
  have HA3 : Hid (AInv wT w0.heap.size w3 (adds [⟨sc, sg, sn, sv⟩, ⟨hc, sg, sn, sv⟩])) := A3
  clear A3 HA1 p1' p4' hb1
  obtain ⟨i0, hi0, hz0, hz2, hz3⟩ := info_parts info34
  go_wp2_with (at_builtin; refine wpList_append_lies _ rfl _ _ _ rfl w3.heap.size 34 i0 _ 1 24 Yba.underlying35 hi0 hz0 hz2 hz3 rfl (by omega) (.slice none 0 0) 0 [] rfl (World.ownsRow_nil _ _ _ _) ⟨w3.heap.size, 0, none⟩ 1 1 [.slice (some ⟨sg, 0, none⟩) sn sn] rfl rfl (World.news_of_block (cs := #[.slice (some ⟨sg, 0, none⟩) sn sn]) (t := 34) (fr := (0, 0)) (heap_at _ rfl)) (by simp [Value.oneCell']) (by omega) (by unfold maxLen; omega) (by omega) (by simp [go_sem]) (w3.heap.size + 1) (by simp [go_sem]) ?_; intro gg cap3 w4 hown4 hgrow4 hat4 hlt4)
  have B4 : Below w3.heap.size w3 w4 := grown_none hgrow4
  have HA4 : Hid (AInv wT w0.heap.size w4 (adds [⟨sc, sg, sn, sv⟩, ⟨hc, sg, sn, sv⟩])) := HA3.out.later B4
  have k0 : w4.cell? ⟨gg, 0, none⟩ = some (.slice (some ⟨sg, 0, none⟩) sn sn) := (hown4.cellAt 0 (by omega)).trans rfl
  have g1 := HA4.out.fr.obj (by omega) (below_obj HT.out f1)
  have g3 := HA4.out.fr.obj (by omega) (below_obj HT.out f3')
  have g16 := HA4.out.fr.cell (by show sb ≠ _; omega) (below_keep HT0.out h16)
  have hsb : sb < w4.heap.size := World.block_lt_of_cell? _ _ g16
  clear HA3 hown4 hgrow4 hat4 hlt4 B4 s1 hb3 p0 p1 p4 f1 f2 f3' hi0 hz0 hz2 hz3
  obtain ⟨v, hv, HV⟩ := tail_walk HT0.out hN (xs := [⟨sc, sg, sn, sv⟩, ⟨hc, sg, sn, sv⟩]) (List.forall_mem_cons.2 ⟨hs, List.forall_mem_cons.2 ⟨hs, fun _ h => nomatch h⟩⟩) (by simp) HA4.out
  have hN3 := World.block_lt_of_cell? _ _ hv
  clear HA4 HS
  rw [rounds_succ]
  go_wp2_with fail
  rw [next_done g3 g1]
  simp only [Result.andThen]
  rw [Oper.upon_value]
  go_wp2_with (first | (go_at_call 34; refine HV.out.mono ?_; rintro e w6 ⟨rfl, hv6, HV6⟩; have hN6 : w0.heap.size < w6.heap.size := World.block_lt_of_cell? _ _ hv6; clear HV) | (go_at_call 36; refine HV6.out.mono ?_; rintro e w7 ⟨p, cap, L, rfl, HL⟩) | fail)
  go_ret
  exact ⟨p, cap, L, rfl, HL⟩
end Go.Proofs.Ybulkadqm.AK
