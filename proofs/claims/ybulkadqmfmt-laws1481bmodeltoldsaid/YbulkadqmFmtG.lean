import Derived.Test.YbulkadqmFmtF
namespace Go.Proofs.YbulkadqmFmt.WB
open Go.RowKit Go.Extern.Stop Go.Stop Go.Extern
attribute [local go_sem] call22 call20 fguard fmtAp fmtAr fmtBp fmtBr fmtCp fmtCr fmtDp fmtDr fmtEp fmtEr act3 act25 op3 op3w op9w ptr61 elem61 isError61 shape25_is

/-- what 'failAt' makes of the world of a decoder that has no error yet -/
def FailW (db : Nat) (w w' : World) : Prop := ∃ p o1 o2, w' = (((w.setCell ⟨db, 2, none⟩ (.iface 61 (.pointer (some p)))).alloc o1).alloc o2).drew.drew

set_option maxHeartbeats 1000000 in
theorem failA (F : Interp) (db ab : Nat) (at_ x y : Int) (w : World) (hF : F.answers w.tape) (hc2 : w.cell? ⟨db, 2, none⟩ = some .nilIface) (hf2 : w.frozen? ⟨db, 2, none⟩ = false) (ha0 : w.cell? ⟨ab, 0, none⟩ = some (.iface 3 (.int .i64 x))) (ha1 : w.cell? ⟨ab, 1, none⟩ = some (.iface 3 (.int .i64 y))) :
    Calls Ybaf.prog 15 #[.pointer (some ⟨db, 0, none⟩), .int .i64 at_, .string ⟨#[100, 97, 116, 97, 32, 101, 110, 100, 115, 32, 37, 100, 32, 98, 121, 116, 101, 115, 32, 105, 110, 44, 32, 119, 104, 101, 114, 101, 32, 37, 100, 32, 97, 114, 101, 32, 110, 101, 101, 100, 101, 100]⟩, .slice (some ⟨ab, 0, none⟩) 2 2] w fun e w' => e = .returned (.tuple #[]) ∧ FailW db w w' := by
  have hF' := answers_open hF
  have hdb : db < w.heap.size := World.block_lt_of_cell? w _ hc2
  have hab : ab < w.heap.size := World.block_lt_of_cell? w _ ha0
  go_enter Ybaf.func15, Ybaf.ntmps15
  go_wp2
  apply rows_value nextTurns
  case hr =>
    go_simp
    exact ⟨rfl, rfl⟩
  case h =>
    go_wp2
    go_end0
    exact ⟨rfl, _, _, _, rfl⟩

set_option maxHeartbeats 1000000 in
theorem failB (F : Interp) (db ab : Nat) (at_ x y : Int) (w : World) (hF : F.answers w.tape) (hc2 : w.cell? ⟨db, 2, none⟩ = some .nilIface) (hf2 : w.frozen? ⟨db, 2, none⟩ = false) (ha0 : w.cell? ⟨ab, 0, none⟩ = some (.iface 25 (.int .u32 x))) (ha1 : w.cell? ⟨ab, 1, none⟩ = some (.iface 3 (.int .i64 y))) :
    Calls Ybaf.prog 15 #[.pointer (some ⟨db, 0, none⟩), .int .i64 at_, .string ⟨#[108, 101, 110, 103, 116, 104, 32, 37, 100, 44, 32, 98, 117, 116, 32, 100, 97, 116, 97, 32, 101, 110, 100, 115, 32, 37, 100, 32, 98, 121, 116, 101, 115, 32, 111, 110]⟩, .slice (some ⟨ab, 0, none⟩) 2 2] w fun e w' => e = .returned (.tuple #[]) ∧ FailW db w w' := by
  have hF' := answers_open hF
  have hdb : db < w.heap.size := World.block_lt_of_cell? w _ hc2
  have hab : ab < w.heap.size := World.block_lt_of_cell? w _ ha0
  go_enter Ybaf.func15, Ybaf.ntmps15
  go_wp2
  apply rows_value nextTurns
  case hr =>
    go_simp
    exact ⟨rfl, rfl⟩
  case h =>
    go_wp2
    go_end0
    exact ⟨rfl, _, _, _, rfl⟩

set_option maxHeartbeats 1000000 in
theorem failC (F : Interp) (db ab : Nat) (at_ x y z : Int) (w : World) (hF : F.answers w.tape) (hc2 : w.cell? ⟨db, 2, none⟩ = some .nilIface) (hf2 : w.frozen? ⟨db, 2, none⟩ = false) (ha0 : w.cell? ⟨ab, 0, none⟩ = some (.iface 25 (.int .u32 x))) (ha1 : w.cell? ⟨ab, 1, none⟩ = some (.iface 3 (.int .i64 y))) (ha2 : w.cell? ⟨ab, 2, none⟩ = some (.iface 3 (.int .i64 z))) :
    Calls Ybaf.prog 15 #[.pointer (some ⟨db, 0, none⟩), .int .i64 at_, .string ⟨#[37, 100, 32, 101, 108, 101, 109, 101, 110, 116, 115, 32, 111, 102, 32, 97, 116, 32, 108, 101, 97, 115, 116, 32, 37, 100, 32, 98, 121, 116, 101, 115, 44, 32, 98, 117, 116, 32, 100, 97, 116, 97, 32, 101, 110, 100, 115, 32, 37, 100, 32, 98, 121, 116, 101, 115, 32, 111, 110]⟩, .slice (some ⟨ab, 0, none⟩) 3 3] w fun e w' => e = .returned (.tuple #[]) ∧ FailW db w w' := by
  have hF' := answers_open hF
  have hdb : db < w.heap.size := World.block_lt_of_cell? w _ hc2
  have hab : ab < w.heap.size := World.block_lt_of_cell? w _ ha0
  go_enter Ybaf.func15, Ybaf.ntmps15
  go_wp2
  apply rows_value nextTurns
  case hr =>
    go_simp
    exact ⟨rfl, rfl⟩
  case h =>
    go_wp2
    go_end0
    exact ⟨rfl, _, _, _, rfl⟩

set_option maxHeartbeats 1000000 in
theorem failD (F : Interp) (db : Nat) (at_ : Int) (w : World) (hF : F.answers w.tape) (hc2 : w.cell? ⟨db, 2, none⟩ = some .nilIface) (hf2 : w.frozen? ⟨db, 2, none⟩ = false) :
    Calls Ybaf.prog 15 #[.pointer (some ⟨db, 0, none⟩), .int .i64 at_, .string ⟨#[112, 97, 100, 100, 105, 110, 103, 32, 105, 115, 32, 110, 111, 116, 32, 122, 101, 114, 111]⟩, .slice none 0 0] w fun e w' => e = .returned (.tuple #[]) ∧ FailW db w w' := by
  have hF' := answers_open hF
  have hdb : db < w.heap.size := World.block_lt_of_cell? w _ hc2

  go_enter Ybaf.func15, Ybaf.ntmps15
  go_wp2
  apply rows_value nextTurns
  case hr =>
    go_simp
    exact ⟨rfl, rfl⟩
  case h =>
    go_wp2
    go_end0
    exact ⟨rfl, _, _, _, rfl⟩
end Go.Proofs.YbulkadqmFmt.WB
