import Derived.Test.YbulkadqmK25
namespace Go.Proofs.Ybulkadqm.AK
open Go.RowKit
set_option linter.unusedSimpArgs false

set_option maxRecDepth 100000 in
set_option maxHeartbeats 1600000 in
theorem confirm_other (sb : Nat) (ph : Int) (w : World) (h15 : w.cell? ⟨sb, 15, none⟩ = some (.int .i64 ph)) (hph : ph ≠ 0) :
    Calls Yba.prog 8 #[.pointer (some ⟨sb, 0, none⟩)] w fun e w' => e = .returned (.bool false) ∧ w' = w := by
  have h1 : (ph != 0) = true := by simpa using hph
  go_enter Yba.func8, Yba.ntmps8
  go_wp2_with fail
  go_ret
  exact ⟨rfl, rfl⟩

/-- a slot as newSlot lays it -/
def slL (eb : Nat) (idx : Int) (a b c : Nat) : List Value := [.pointer (some ⟨eb, 0, none⟩), .int .u64 idx, .bool false, .map (some a), .map (some b), .bool false, .int .u32 0, .map none, .slice none 0 0, .slice none 0 0, .slice none 0 0, .slice none 0 0, .slice none 0 0, .int .u32 0, .bool false, .int .i64 0, .pointer none, .pointer none, .pointer none, .pointer none, .pointer none, .int .u32 0, .int .u32 0, .pointer none, .pointer none, .int .u64 0, .map (some c)]
set_option maxRecDepth 100000 in
set_option maxHeartbeats 1600000 in
theorem new_walk (eb : Nat) (idx : Int) (w : World) :
    Calls Yba.prog 20 #[.pointer (some ⟨eb, 0, none⟩), .int .u64 idx] w fun e w' => ∃ sb a mb c, e = .returned (.pointer (some ⟨sb, 0, none⟩)) ∧ w'.heap[sb]? = some (.cells (slL eb idx a mb c).toArray 45 (0, 0)) ∧ w'.heap[mb]? = some (.map #[] 0) ∧ w.heap.size ≤ sb ∧ w.heap.size ≤ mb ∧ Below w.heap.size w w' := by
  have hm1 : ∀ w, (Instr.makeMap 31 none).run Yba.prog w = .ok (.map (some w.heap.size)) (w.alloc (.map #[] 0)) := fun w => rfl
  have hm2 : ∀ w, (Instr.makeMap 43 none).run Yba.prog w = .ok (.map (some w.heap.size)) (w.alloc (.map #[] 0)) := fun w => rfl
  go_enter Yba.func20, Yba.ntmps20
  go_wp2_with fail
  go_ret
  refine ⟨w.heap.size + 1 + 1 + 1, w.heap.size, w.heap.size + 1, w.heap.size + 1 + 1, rfl, heap_at _ (by simp [go_sem]), heap_old _ (heap_old _ (heap_at _ (by simp [go_sem]))), by omega, by omega, ?_⟩
  exact ((((Below.refl _ w).alloc (Nat.le_refl _) _).alloc (by simp [go_sem]) _).alloc (by simp [go_sem]; omega) _).alloc (by simp [go_sem]; omega) _

/-- the engine's cells -/
def enL (kb : Nat) : List Value := k1L ++ ([.slice none 0 0, .int .u32 0, .slice none 0 0, .slice none 0 0] ++ (h0L ++ [.nilIface, .map (some kb), .int .i64 0, .map none, .map none, .slice none 0 0, .map none, .map none, .int .u64 0, .bool false, .slice none 0 0, .slice none 0 0, .slice none 0 0, .slice none 0 0]))

/-- the law's parameter -/
structure In where
  f0 : Int
  f1 : Int
  f2 : Int
  f3 : Int
  f4 : Int
  f5 : Bool
  f6 : Int
  f7 : Int
  f8 : Int
  f9 : Int
  f10 : Bool
  f11 : Int
  f12 : Int
  f13 : Bool
  f14 : Int
  f15 : Int
  f16 : Bool
  f17 : Int
  f18 : Int
  f19 : Bool
  f20 : Int
  f21 : Int
  f22 : Bool
def In.cells (I : In) : List Value := [.int .u8 I.f0, .int .u8 I.f1, .int .u64 I.f2, .int .u32 I.f3, .int .u8 I.f4, .bool I.f5, .int .u32 I.f6, .int .u8 I.f7, .int .u32 I.f8, .int .u32 I.f9, .bool I.f10, .int .u32 I.f11, .int .u8 I.f12, .bool I.f13, .int .u32 I.f14, .int .u8 I.f15, .bool I.f16, .int .u32 I.f17, .int .u8 I.f18, .bool I.f19, .int .u32 I.f20, .int .u8 I.f21, .bool I.f22]
end Go.Proofs.Ybulkadqm.AK
