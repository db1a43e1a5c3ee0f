import Derived.Test.YbulkadqmK13
namespace Go.Proofs.Ybulkadqm.AK
open Go.RowKit Go.Shelf Go.Lib Go.Sort

/-- one block may be another, and there may be more blocks -/
structure Chg (r : Nat) (w w' : World) : Prop where
  os : w'.os = w.os
  tape : w'.tape = w.tape
  output : w'.output = w.output
  size : w.heap.size ≤ w'.heap.size
  block : ∀ k, k < w.heap.size → k ≠ r → w'.heap[k]? = w.heap[k]?
theorem Chg.refl (r : Nat) (w : World) : Chg r w w := ⟨rfl, rfl, rfl, Nat.le_refl _, fun _ _ _ => rfl⟩
theorem Chg.trans {r : Nat} {a b c : World} (h : Chg r a b) (k : Chg r b c) : Chg r a c :=
  ⟨k.os.trans h.os, k.tape.trans h.tape, k.output.trans h.output, Nat.le_trans h.size k.size, fun i hi hr => (k.block i (Nat.lt_of_lt_of_le hi h.size) hr).trans (h.block i hi hr)⟩
theorem Chg.of_below {r : Nat} {w w' : World} (h : Below w.heap.size w w') : Chg r w w' := ⟨h.os, h.tape, h.output, h.size, fun k hk _ => h.block k hk⟩
theorem Chg.of_only {r : Nat} {w w' : World} (h : Only r w w') : Chg r w w' := ⟨h.os, h.tape, h.output, Nat.le_of_eq h.size.symm, fun k _ hr => h.block k hr⟩
theorem Chg.below {r B : Nat} {a w w' : World} (h : Chg r w w') (hb : Below B a w) (hr : B ≤ r) (hs : B ≤ w.heap.size) : Below B a w' :=
  hb.trans ⟨h.os, h.tape, h.output, h.size, fun k hk => h.block k (by omega) (by omega)⟩
theorem Chg.cell {r : Nat} {w w' : World} (h : Chg r w w') {p : Addr} {v : Value} (hp : p.block ≠ r) (hv : w.cell? p = some v) : w'.cell? p = some v :=
  (World.cell?_of_block (w := w) (h.block p.block (World.block_lt_of_cell? w _ hv) hp)).trans hv
theorem Chg.obj {r : Nat} {w w' : World} (h : Chg r w w') {b : Nat} {o : Obj} (hp : b ≠ r) (hv : w.heap[b]? = some o) : w'.heap[b]? = some o := (h.block b (Array.getElem?_eq_some_iff.1 hv).1 hp).trans hv
theorem Chg.val {r : Nat} {w w' : World} (h : Chg r w w') {g n v : Nat} (hp : n = 0 ∨ g ≠ r) (hv : VAt w g n v) : VAt w' g n v := by
  rcases hv with h0 | ⟨h1, h2, h3⟩ | ⟨h1, h2, h3⟩
  · exact .inl h0
  · exact .inr (.inl ⟨h1, h2, h.cell (by rcases hp with h | h; · omega
                                         · exact h) h3⟩)
  · exact .inr (.inr ⟨h1, h2, h.cell (by rcases hp with h | h; · omega
                                         · exact h) h3⟩)
theorem chg_sorted {w : World} {blk n : Nat} {os : Array Obj} (d : Array (El w blk)) : Chg blk w (sortWorldK El.enc 2 w blk 0 n d os) := by
  refine ⟨rfl, rfl, rfl, size_sortWorldK_c El.enc 2 w blk 0 n d os, fun k hk hr => ?_⟩
  unfold sortWorldK putRowK putRow grow mapBlock Sort.ahead
  simp only []
  rw [Array.getElem?_append_left (by simpa using hk), Array.getElem?_modify, if_neg (fun h => hr h.symm)]

theorem perm_get {α : Type} [Inhabited α] {n : Nat} {d d' : Array α} (h : (d'.extract 0 n).toList.Perm (d.extract 0 n).toList) (hs : d'.size = n) (hd : d.size = n) (i : Nat) (hi : i < n) : ∃ j, j < n ∧ d'[i]! = d[j]! := by
  subst hd
  have e1 : d'.extract 0 d.size = d' := by rw [← hs]; simp
  rw [e1, Array.extract_size] at h
  have hm : d'[i]! ∈ d'.toList := by rw [getElem!_pos d' i (by omega)]; simp
  obtain ⟨j, hj, he⟩ := List.getElem_of_mem (h.mem_iff.1 hm)
  have hj' : j < d.size := by simpa using hj
  exact ⟨j, hj', by rw [getElem!_pos d j hj', ← he]; simp⟩
set_option maxRecDepth 100000 in
set_option maxHeartbeats 1600000 in
theorem sort_nil_46 (f : Value) (w : World) : Calls Yba.prog 46 #[.slice none 0 0, .int .i64 0, .int .i64 0, f] w fun e w' => e = .returned (.tuple #[]) ∧ w' = w := by
  go_enter Yba.func46, Yba.ntmps46
  go_wp2_with fail
  refine wp_loop_rounds 1 ?_
  rw [rounds_succ]
  go_wp2_with fail
  go_end0
  exact ⟨rfl, rfl⟩
set_option maxRecDepth 100000 in
set_option maxHeartbeats 1600000 in
theorem sort_nil_41 (f : Value) (l : Int) (w : World) : Calls Yba.prog 41 #[.slice none 0 0, .int .i64 0, .int .i64 0, .int .i64 l, f] w fun e w' => e = .returned (.tuple #[]) ∧ w' = w := by
  have HI : Hid (Calls Yba.prog 46 #[.slice none 0 0, .int .i64 0, .int .i64 0, f] w fun e w' => e = .returned (.tuple #[]) ∧ w' = w) := sort_nil_46 f w
  go_enter Yba.func41, Yba.ntmps41
  go_wp2_with fail
  refine wp_loop_rounds 1 ?_
  rw [rounds_succ]
  go_wp2_with (go_at_call 46; refine HI.out.mono ?_; rintro e w' ⟨rfl, rfl⟩)
  (try simp only [Exit.inBlock, Exit.then])
  refine bodyPost_ret (results_none rfl _ _ _) rfl ?_
  exact ⟨rfl, rfl⟩
set_option maxRecDepth 100000 in
set_option maxHeartbeats 1600000 in
theorem sort_nil (f : Value) (w : World) : Calls Yba.prog 34 #[.slice none 0 0, f] w fun e w' => e = .returned (.tuple #[]) ∧ w' = w := by
  have HI : Hid (∀ l, Calls Yba.prog 41 #[.slice none 0 0, .int .i64 0, .int .i64 0, .int .i64 l, f] w fun e w' => e = .returned (.tuple #[]) ∧ w' = w) := fun l => sort_nil_41 f l w
  have HL : Hid (Calls Yba.prog 42 #[.int .u64 0] w fun e w' => (∃ l : Int, e = .returned (.int .i64 l)) ∧ w' = w) := hlenB 0 w (by omega)
  go_enter Yba.func34, Yba.ntmps34
  go_wp2_with (first | (go_at_call 42; refine HL.out.mono ?_; rintro e w' ⟨⟨l, rfl⟩, rfl⟩) | (go_at_call 41; refine (HI.out _).mono ?_; rintro e w' ⟨rfl, rfl⟩))
  go_end0
  exact ⟨rfl, rfl⟩

theorem sort_walk (b n cap : Nat) (D : Nat → Bl) (w : World) (h : RowB w b n D) (hn : n ≤ 12) (hb : b < w.heap.size) (hv : ∀ i, i < n → VAt w (D i).g (D i).n (D i).v ∧ ((D i).n = 0 ∨ (D i).g ≠ b)) :
    Calls Yba.prog 34 #[.slice (some ⟨b, 0, none⟩) n cap, .func (.func 35) #[] #[]] w fun e w' => e = .returned (.tuple #[]) ∧ ∃ E : Nat → Bl, RowB w' b n E ∧ (∀ i j, i < j → j < n → ¬ cmpB (E i).c (E i).v (E j).c (E j).v < 0) ∧ (∀ i, i < n → ∃ j, j < n ∧ E i = D j) ∧ (∀ i, i < n → ∃ j, j < n ∧ D i = E j) ∧ Chg b w w' := by
  let d : Array (El w b) := Array.ofFn (n := n) fun i => ⟨D i.1, (hv i.1 i.2).1, (hv i.1 i.2).2⟩
  have hd : d.size = n := by simp [d]
  have hg : ∀ i, i < n → d[i]!.x = D i := fun i hi => by
    rw [getElem!_pos d i (by omega)]; simp [d]
  have hH : HoldsK El.enc 2 w b 0 d := holds_of_row (by
    rw [hd]; intro i hi; simp only [hg i hi]; exact h i hi)
  have eg : ∀ args w, (callFunc 35 args).run Yba.prog w = .ok (.enter 35 args) w := enters_of Yba.func35 (by kernel_rfl) rfl
  have hcon := AnyQ.slices_SortFunc_small_sorted sortBl 2 Yba.isAgg75 Yba.sizeOf75 El.enc (fun _ => rfl) (fun x v hv => by simp [El.enc, Bl.enc] at hv; rcases hv with rfl | rfl <;> rfl) cfB 35 #[] (swoB w b) b 0 cap d w eg (cmpLays35 b d.size w) hH hb (by omega) hlenB
  rw [hd] at hcon
  refine hcon.mono ?_
  rintro e w' ⟨he, d', m, os, hp, hs, hw⟩
  subst hw
  have hsz : d'.size = n := hp.1.trans hd
  refine ⟨he, fun i => d'[i]!.x, ?_, ?_, ?_, ?_, chg_sorted d'⟩
  · have hr := row_of_holds (holdsK_sortWorldK_c El.enc 2 w b 0 d d' m os hH hb hp.1)
    rwa [hp.1, hd] at hr
  · intro i j hij hj hlt
    have := hs i j (Nat.zero_le _) hij hj
    simp only [ltOf, cfB] at this
    exact of_decide_eq_false this hlt
  · intro i hi
    obtain ⟨j, hj, he⟩ := perm_get hp.2.2 hsz hd i hi
    exact ⟨j, hj, by show d'[i]!.x = _; rw [← hg j hj, he]⟩
  · intro i hi
    obtain ⟨j, hj, he⟩ := perm_get hp.2.2.symm hd hsz i hi
    exact ⟨j, hj, by rw [← hg i hi, he]⟩
end Go.Proofs.Ybulkadqm.AK
