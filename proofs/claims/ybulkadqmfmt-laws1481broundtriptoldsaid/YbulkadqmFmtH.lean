import Derived.Test.YbulkadqmFmtG
import Derived.Deep.RegionHeld3
import Derived.Deep.DrawnRows
namespace Go.Proofs.YbulkadqmFmt.WB
open Go.RowKit Go.Extern.Stop Go.Stop Go.Extern
attribute [local go_sem] Go.wp_at_zero Go.wp_at_succ

/-- a decoder at block db over the bytes D in block bb; p the offset, ev the error -/
structure Dec (w : World) (db bb blen bcap : Nat) (D : List Int) (p : Nat) (ev : Value) : Prop where
  c0 : w.cell? ⟨db, 0, none⟩ = some (.slice (some ⟨bb, 0, none⟩) blen bcap)
  c1 : w.cell? ⟨db, 1, none⟩ = some (.int .i64 p)
  c2 : w.cell? ⟨db, 2, none⟩ = some ev
  f1 : w.frozen? ⟨db, 1, none⟩ = false
  f2 : w.frozen? ⟨db, 2, none⟩ = false
  row : ∀ i, i < blen → w.cell? ⟨bb, i, none⟩ = some (.int .u8 (D.getD i 0))
  len : blen = D.length
  ne : bb ≠ db
  lb : blen ≤ bcap
  cb : bcap ≤ 9223372036854775807
  small : blen ≤ 4294967295
  bytes : Bytes D
  at_ : p ≤ blen

set_option maxHeartbeats 400000 in
theorem left_any (db bb blen bcap p : Nat) (w : World) (c0 : w.cell? ⟨db, 0, none⟩ = some (.slice (some ⟨bb, 0, none⟩) blen bcap)) (c1 : w.cell? ⟨db, 1, none⟩ = some (.int .i64 p)) (h1 : p ≤ blen) (h2 : blen ≤ 4294967295) :
    Calls Ybaf.prog 14 #[.pointer (some ⟨db, 0, none⟩)] w fun e w' => e = .returned (.int .i64 (blen - p)) ∧ ∃ n, w' = w.drewN n := by
  go_enter Ybaf.func14, Ybaf.ntmps14
  go_wp2
  go_quiet (fail)
  go_wp2
  go_ret
  exact ⟨rfl, nq, rfl⟩

set_option maxHeartbeats 400000 in
theorem next_err (db : Nat) (q : Addr) (n : Int) (w : World) (c2 : w.cell? ⟨db, 2, none⟩ = some (.iface 61 (.pointer (some q)))) :
    Calls Ybaf.prog 17 #[.pointer (some ⟨db, 0, none⟩), .int .i64 n] w fun e w' => e = .returned (.slice none 0 0) ∧ w' = w := by
  go_enter Ybaf.func17, Ybaf.ntmps17
  go_wp2_with fail
  go_ret
  exact ⟨rfl, rfl⟩

set_option maxHeartbeats 800000 in
theorem next_ok (db bb blen bcap p n : Nat) (w : World) (c0 : w.cell? ⟨db, 0, none⟩ = some (.slice (some ⟨bb, 0, none⟩) blen bcap)) (c1 : w.cell? ⟨db, 1, none⟩ = some (.int .i64 p)) (c2 : w.cell? ⟨db, 2, none⟩ = some .nilIface)
    (f1 : w.frozen? ⟨db, 1, none⟩ = false) (h1 : p + n ≤ blen) (h2 : blen ≤ 4294967295) (h3 : blen ≤ bcap) :
    Calls Ybaf.prog 17 #[.pointer (some ⟨db, 0, none⟩), .int .i64 n] w fun e w' => (∃ a c, e = .returned (.slice (some a) n c) ∧ (0 < n → a = ⟨bb, p, none⟩)) ∧ ∃ m, w' = (w.setCell ⟨db, 1, none⟩ (.int .i64 ((p + n : Nat) : Int))).drewN m := by
  obtain ⟨A, hA, hA2⟩ : ∃ A, (if bcap = p then some (⟨bb, 0, none⟩ : Addr) else some ⟨bb, p, none⟩) = some A ∧ (0 < n → A = ⟨bb, p, none⟩) := by
    by_cases h : bcap = p
    · exact ⟨_, if_pos h, fun hn => by omega⟩
    · exact ⟨_, if_neg h, fun _ => rfl⟩
  have HA : Hid (0 < n → A = ⟨bb, p, none⟩) := hA2
  clear hA2
  have hnn : p + n - p = n := by omega
  go_enter Ybaf.func17, Ybaf.ntmps17
  go_wp2_with (go_at_call 14; refine (left_any db bb blen bcap p _ c0 c1 (by omega) h2).mono ?_; rintro e w' ⟨rfl, m, rfl⟩)
  go_quiet (fail)
  go_wp2_with fail
  go_ret
  refine ⟨⟨A, bcap - p, ?_, HA.out⟩, m + nq, ?_⟩
  · show Ending.returned (.slice (some A) (p + n - p) (bcap - p)) = _
    rw [hnn]
  · rw [show ((p : Int) + (n : Int)) = ((p + n : Nat) : Int) from by omega]; rfl

theorem FailW.block {db : Nat} {w w' : World} (h : FailW db w w') {k : Nat} (hk : k < w.heap.size) (hne : k ≠ db) : w'.heap[k]? = w.heap[k]? := by
  obtain ⟨p, o1, o2, rfl⟩ := h
  show (((w.setCell ⟨db, 2, none⟩ (.iface 61 (.pointer (some p)))).alloc o1).alloc o2).heap[k]? = _
  rw [Below.heap_alloc _ _ _ (by simp; omega), Below.heap_alloc _ _ _ (by simpa using hk), Below.heap_setCell _ _ _ _ hne]
theorem FailW.cell {db : Nat} {w w' : World} (h : FailW db w w') (hdb : db < w.heap.size) {j : Nat} (hj : j ≠ 2) : w'.cell? ⟨db, j, none⟩ = w.cell? ⟨db, j, none⟩ := by
  obtain ⟨p, o1, o2, rfl⟩ := h
  show (((w.setCell ⟨db, 2, none⟩ (.iface 61 (.pointer (some p)))).alloc o1).alloc o2).cell? ⟨db, j, none⟩ = _
  rw [World.cell?_alloc_past _ _ _ (by simp; omega), World.cell?_alloc_past _ _ _ (by simpa using hdb), World.cell?_setCell_other _ _ _ _ (fun e => hj (by cases e; rfl))]
theorem FailW.err {db : Nat} {w w' : World} (h : FailW db w w') {u : Value} (hc : w.cell? ⟨db, 2, none⟩ = some u) : ∃ p, w'.cell? ⟨db, 2, none⟩ = some (.iface 61 (.pointer (some p))) := by
  have hdb : db < w.heap.size := World.block_lt_of_cell? w _ hc
  obtain ⟨p, o1, o2, rfl⟩ := h
  refine ⟨p, ?_⟩
  show (((w.setCell ⟨db, 2, none⟩ (.iface 61 (.pointer (some p)))).alloc o1).alloc o2).cell? ⟨db, 2, none⟩ = _
  rw [World.cell?_alloc_past _ _ _ (by simp; omega), World.cell?_alloc_past _ _ _ (by simpa using hdb)]
  exact World.cell?_setCell_same _ _ _ hc
theorem FailW.frozen {db : Nat} {w w' : World} (h : FailW db w w') {k : Nat} (hk : k < w.heap.size) (j : Nat) : w'.frozen? ⟨k, j, none⟩ = w.frozen? ⟨k, j, none⟩ := by
  obtain ⟨p, o1, o2, rfl⟩ := h
  show (((w.setCell ⟨db, 2, none⟩ (.iface 61 (.pointer (some p)))).alloc o1).alloc o2).frozen? ⟨k, j, none⟩ = _
  rw [World.frozen?_alloc_past _ _ _ (by simp; omega), World.frozen?_alloc_past _ _ _ (by simpa using hk), World.frozen?_setCell]
theorem FailW.grown {db : Nat} {w w' : World} (h : FailW db w w') : w.grownBy w' (some db) := by
  have h' := h
  obtain ⟨p, o1, o2, rfl⟩ := h'
  exact ⟨rfl, rfl, rfl, by simp; omega, fun k hk hne => h.block hk (fun e => hne (by rw [e]))⟩

set_option maxRecDepth 100000 in
set_option maxHeartbeats 1600000 in
theorem next_short (F : Interp) (db bb blen bcap p : Nat) (n : Int) (w : World) (hF : F.answers w.tape) (c0 : w.cell? ⟨db, 0, none⟩ = some (.slice (some ⟨bb, 0, none⟩) blen bcap)) (c1 : w.cell? ⟨db, 1, none⟩ = some (.int .i64 p)) (c2 : w.cell? ⟨db, 2, none⟩ = some .nilIface)
    (f2 : w.frozen? ⟨db, 2, none⟩ = false) (h0 : p ≤ blen) (h1 : (blen : Int) < p + n) (h2 : blen ≤ 4294967295) :
    Calls Ybaf.prog 17 #[.pointer (some ⟨db, 0, none⟩), .int .i64 n] w fun e w' => e = .returned (.slice none 0 0) ∧ ∃ w1, Below w.heap.size w w1 ∧ FailW db w1 w' := by
  have hdb : db < w.heap.size := World.block_lt_of_cell? w _ c2
  have hlt : (blen : Int) - p < n := by omega
  go_enter Ybaf.func17, Ybaf.ntmps17
  go_wp2_with (go_at_call 14; refine (left_any db bb blen bcap p _ c0 c1 (by omega) h2).mono ?_; rintro e w' ⟨rfl, m, rfl⟩)
  go_region_held3 (fun w' => w'.cell? ⟨db, 1, none⟩ = some (.int .i64 p) ∧ w'.cell? ⟨db, 0, none⟩ = some (.slice (some ⟨bb, 0, none⟩) blen bcap)) (go_keep)
    (first
      | (go_at_call 14; refine (left_any db bb blen bcap p _ ?_ ?_ (by omega) h2).mono ?_; (simp [*]); (simp [*]); rintro e w' ⟨rfl, m2, rfl⟩)
      | (go_at_call 15; refine (failA F db w.heap.size p (blen - p) n _ (by exact hF) ?_ ?_ ?_ ?_).mono ?_; (exact (World.cell?_alloc_past _ _ _ hdb).trans c2); (exact (World.frozen?_alloc_past _ _ _ hdb).trans f2); (exact (World.cell?_alloc_at _ _ _ _ rfl).trans rfl); (exact (World.cell?_alloc_at _ _ _ _ rfl).trans rfl); rintro e w3 ⟨rfl, hfw⟩; have k1 : w3.cell? ⟨db, 1, none⟩ = some (.int .i64 p) := (hfw.cell (by simp; omega) (by decide)).trans ((World.cell?_alloc_past _ _ _ hdb).trans c1); have k0 : w3.cell? ⟨db, 0, none⟩ = some (.slice (some ⟨bb, 0, none⟩) blen bcap) := (hfw.cell (by simp; omega) (by decide)).trans ((World.cell?_alloc_past _ _ _ hdb).trans c0))
      | fail)
  all_goals
    go_wp2_with fail
    go_ret
    exact ⟨rfl, _, (below_drewN (Below.refl _ _) _).alloc (Nat.le_refl _) _, hfw⟩
end Go.Proofs.YbulkadqmFmt.WB
