import Derived.Test.YbulkadqmProg
import Derived.WalkKit
import Derived.WalkSpells
import Derived.WalkLawsBesides
import Derived.WalkSmall
import Derived.Deep.QuietTactic
import Derived.BigQuiet
import Derived.KernelRfl
import Derived.Outline
import Derived.Below
import Derived.Laws.Externs
import Derived.Lib.BytesEntry
import Derived.Laws.BytesArg
namespace Go.Proofs.Ybulkadqm.AK
open Go.RowKit

theorem ret_bool {a b : Bool} (h : a = b) : Ending.returned (.bool a) = .returned (.bool b) := by rw [h]
theorem ret_int {k : IntKind} {a b : Int} (h : a = b) : Ending.returned (.int k a) = .returned (.int k b) := by rw [h]
theorem below_keep {w w' : World} {p : Addr} {v : Value} (hb : Below w.heap.size w w') (h : w.cell? p = some v) : w'.cell? p = some v := (hb.cell (World.block_lt_of_cell? w _ h)).trans h
theorem alloc_keep {w : World} (o : Obj) {p : Addr} {v : Value} (h : w.cell? p = some v) : (w.alloc o).cell? p = some v :=
  below_keep ((Below.refl _ w).alloc (Nat.le_refl _) o) h

/-- the value of code v (0: empty, 1: a, 2: b), as a slice over block g of length n -/
def VAt (w : World) (g n v : Nat) : Prop :=
  (v = 0 ∧ n = 0) ∨ (v = 1 ∧ n = 1 ∧ w.cell? ⟨g, 0, none⟩ = some (.int .u8 97)) ∨ (v = 2 ∧ n = 1 ∧ w.cell? ⟨g, 0, none⟩ = some (.int .u8 98))
theorem VAt.below {w w' : World} {g n v : Nat} (h : VAt w g n v) (hb : Below w.heap.size w w') : VAt w' g n v := by
  rcases h with h | ⟨h1, h2, h3⟩ | ⟨h1, h2, h3⟩
  · exact .inl h
  · exact .inr (.inl ⟨h1, h2, below_keep hb h3⟩)
  · exact .inr (.inr ⟨h1, h2, below_keep hb h3⟩)
/-- how two numbers compare -/
def cmp3 (a b : Int) : Int := if a < b then -1 else if b < a then 1 else 0
def str : Nat → List Int
  | 0 => [] | 1 => [97] | _ => [98]

theorem load_val {w : World} {g n v : Nat} (h : VAt w g n v) : (Extern.Bytes.bytesOf (.slice (some ⟨g, 0, none⟩) n n)).run Yba.prog w = .ok ⟨(Lib.bytesOf (str v)).toArray⟩ w := by
  have key : ∀ (xs : List Int), xs.length = n → (∀ j x, xs[j]? = some x → w.cell? ⟨g, j, none⟩ = some (.int .u8 x)) → (Extern.Bytes.bytesOf (.slice (some ⟨g, 0, none⟩) n n)).run Yba.prog w = .ok ⟨(Lib.bytesOf xs).toArray⟩ w := by
    intro xs hl hc
    subst hl
    have := Lib.run_loadBytesX (P := Yba.prog) w xs ⟨g, 0, none⟩ .empty (fun j x hj => by
      have e : (⟨g, 0, none⟩ : Addr).add j = ⟨g, j, none⟩ := by unfold Addr.add; split <;> simp_all
      rw [e]; exact hc j x hj)
    simpa [Extern.Bytes.bytesOf] using this
  rcases h with ⟨rfl, rfl⟩ | ⟨rfl, rfl, hc⟩ | ⟨rfl, rfl, hc⟩
  · exact key [] rfl (fun j x hj => by simp at hj)
  · refine key [97] rfl (fun j x hj => ?_)
    match j, hj with
    | 0, hj => simp at hj; subst hj; exact hc
  · refine key [98] rfl (fun j x hj => ?_)
    match j, hj with
    | 0, hj => simp at hj; subst hj; exact hc

theorem run_compare {w : World} {g n v g' n' v' : Nat} (h : VAt w g n v) (h' : VAt w g' n' v') :
    (Extern.BytealgCompare.compare #[.slice (some ⟨g, 0, none⟩) n n, .slice (some ⟨g', 0, none⟩) n' n']).run Yba.prog w = .ok (.int .i64 (cmp3 v v')) w := by
  have e : (Extern.BytealgCompare.compare #[.slice (some ⟨g, 0, none⟩) n n, .slice (some ⟨g', 0, none⟩) n' n']).run Yba.prog w = .ok (.int .i64 (Extern.BytealgCompare.cmp ⟨(Lib.bytesOf (str v)).toArray⟩ ⟨(Lib.bytesOf (str v')).toArray⟩)) w := by
    show ((do pure (goInt (Extern.BytealgCompare.cmp (← Extern.Bytes.bytesOf (.slice (some ⟨g, 0, none⟩) n n)) (← Extern.Bytes.bytesOf (.slice (some ⟨g', 0, none⟩) n' n')))) : Sem Value)).run Yba.prog w = _
    simp only [Sem.run_bind, load_val h, load_val h', Result.andThen]
    rfl
  rw [e]
  congr 2
  have hv : v = 0 ∨ v = 1 ∨ v = 2 := by rcases h with h | h | h <;> simp [h.1]
  have hv' : v' = 0 ∨ v' = 1 ∨ v' = 2 := by rcases h' with h | h | h <;> simp [h.1]
  rcases hv with rfl | rfl | rfl <;> rcases hv' with rfl | rfl | rfl <;> decide

set_option maxRecDepth 100000 in
set_option maxHeartbeats 1600000 in
theorem bcompare_walk (g n v g' n' v' : Nat) (w : World) (h : VAt w g n v) (h' : VAt w g' n' v') :
    Calls Yba.prog 26 #[.slice (some ⟨g, 0, none⟩) n n, .slice (some ⟨g', 0, none⟩) n' n'] w fun e w' => e = .returned (.int .i64 (cmp3 v v')) ∧ w' = w := by
  have HC : Hid _ := run_compare h h'
  clear h h'
  go_enter Yba.func26, Yba.ntmps26
  go_wp2_with fail
  rw [run_callFunc_extern Yba.func40 (by kernel_rfl) (by kernel_rfl) (by kernel_rfl) (e := Extern.BytealgCompare.compare) (by kernel_rfl), HC.out]
  simp only [Result.andThen]
  rw [Oper.upon_value]
  go_wp2_with fail
  go_ret
  exact ⟨rfl, rfl⟩

theorem one_cell {w : World} {g : Nat} {x : Int} (hc : w.cell? ⟨g, 0, none⟩ = some (.int .u8 x)) (i : Nat) (hi : i < 1) : w.cell? ⟨g, 0 + i, none⟩ = some (.int .u8 ([x].getD i 0)) := by
  obtain rfl : i = 0 := by omega
  exact hc
theorem conv_val {w : World} {g n v : Nat} (h : VAt w g n v) : (convert 33 9 (.slice (some ⟨g, 0, none⟩) n n)).run Yba.prog w = .ok (.string (strOfNums (str v))) w := by
  rcases h with ⟨rfl, rfl⟩ | ⟨rfl, rfl, hc⟩ | ⟨rfl, rfl, hc⟩
  · rw [run_convert_bytes_string w 33 9 5 _ 0 0 Yba.underlying33 Yba.underlying5 Yba.underlying9]
    simp [Conv.bytesToString]; rfl
  · exact run_convert_bytes_arg (P := Yba.prog) w 33 5 Yba.underlying33 Yba.underlying5 g 0 1 1 [97] rfl (one_cell hc) 9 Yba.underlying9
  · exact run_convert_bytes_arg (P := Yba.prog) w 33 5 Yba.underlying33 Yba.underlying5 g 0 1 1 [98] rfl (one_cell hc) 9 Yba.underlying9
set_option maxHeartbeats 400000 in
theorem equal_core (a b : Option Addr) (n m c d : Nat) (s t : ByteArray) (w : World) (h1 : (convert 33 9 (.slice a n c)).run Yba.prog w = .ok (.string s) w) (h2 : (convert 33 9 (.slice b m d)).run Yba.prog w = .ok (.string t) w) :
    Calls Yba.prog 14 #[.slice a n c, .slice b m d] w fun e w' => e = .returned (.bool (s.toList == t.toList)) ∧ w' = w := by
  go_enter Yba.func14, Yba.ntmps14
  go_wp2
  go_ret
  exact ⟨rfl, rfl⟩
theorem equal_walk (g n v g' n' v' : Nat) (w : World) (h : VAt w g n v) (h' : VAt w g' n' v') :
    Calls Yba.prog 14 #[.slice (some ⟨g, 0, none⟩) n n, .slice (some ⟨g', 0, none⟩) n' n'] w fun e w' => e = .returned (.bool (decide (v = v'))) ∧ w' = w := by
  refine (equal_core _ _ _ _ _ _ _ _ w (conv_val h) (conv_val h')).mono fun e w' he => ⟨he.1.trans (ret_bool ?_), he.2⟩
  have hv : v = 0 ∨ v = 1 ∨ v = 2 := by rcases h with h | h | h <;> simp [h.1]
  have hv' : v' = 0 ∨ v' = 1 ∨ v' = 2 := by rcases h' with h | h | h <;> simp [h.1]
  rw [Go.ByteArray.toList_eq, Go.ByteArray.toList_eq, strOfNums_data, strOfNums_data]
  rcases hv with rfl | rfl | rfl <;> rcases hv' with rfl | rfl | rfl <;> decide
end Go.Proofs.Ybulkadqm.AK
