import Derived.Test.YbulkadqmFmtA
import Derived.Stop.CallBack
import Derived.Stop.IfaceNil
import GoSem.ClaimData
namespace Go.Proofs.YbulkadqmFmt.WB
open Go.RowKit Go.Extern.Stop Go.Stop Go.Extern

/-! closed facts for a walk over fmt's stopped fronts -/
theorem call22 (args : Array Value) (w : World) : (callFunc 22 args).run Ybaf.prog w = ((FmtStop.errorf #[9, 56] #[31] args).run Ybaf.prog w).andThen fun v w' => .ok (.value v) w' :=
  run_callFunc_extern Ybaf.func22 (by kernel_rfl) (by kernel_rfl) (by kernel_rfl) (by kernel_rfl) args w
theorem call20 (args : Array Value) (w : World) : (callFunc 20 args).run Ybaf.prog w = (FmtCalls.sprintf #[9, 56] #[9] args).run Ybaf.prog w :=
  run_callFunc_next Ybaf.func20 (by kernel_rfl) (by kernel_rfl) (by kernel_rfl) args w
theorem fguard (name : String) (w : World) : (FmtStop.guard name).run Ybaf.prog w = .ok () w := by kernel_rfl
theorem nextTurns : Extern.next FmtCalls.turnsRow = some (FmtCalls.begun #[] #[]) := by kernel_rfl

/-- data ends d bytes in, where d are needed -/
def fmtA : Array UInt8 := #[100, 97, 116, 97, 32, 101, 110, 100, 115, 32, 37, 100, 32, 98, 121, 116, 101, 115, 32, 105, 110, 44, 32, 119, 104, 101, 114, 101, 32, 37, 100, 32, 97, 114, 101, 32, 110, 101, 101, 100, 101, 100]
theorem fmtAp : FmtStop.printed? ⟨#[100, 97, 116, 97, 32, 101, 110, 100, 115, 32, 37, 100, 32, 98, 121, 116, 101, 115, 32, 105, 110, 44, 32, 119, 104, 101, 114, 101, 32, 37, 100, 32, 97, 114, 101, 32, 110, 101, 101, 100, 101, 100]⟩ 2 = some [(0, 100, false), (1, 100, false)] := by kernel_rfl
theorem fmtAr (w : World) : (FmtDoors.printed ⟨#[100, 97, 116, 97, 32, 101, 110, 100, 115, 32, 37, 100, 32, 98, 121, 116, 101, 115, 32, 105, 110, 44, 32, 119, 104, 101, 114, 101, 32, 37, 100, 32, 97, 114, 101, 32, 110, 101, 101, 100, 101, 100]⟩ 2).run Ybaf.prog w = .ok [(0, 100, false), (1, 100, false)] w := by kernel_rfl
/-- length d, but data ends d bytes on -/
def fmtB : Array UInt8 := #[108, 101, 110, 103, 116, 104, 32, 37, 100, 44, 32, 98, 117, 116, 32, 100, 97, 116, 97, 32, 101, 110, 100, 115, 32, 37, 100, 32, 98, 121, 116, 101, 115, 32, 111, 110]
theorem fmtBp : FmtStop.printed? ⟨#[108, 101, 110, 103, 116, 104, 32, 37, 100, 44, 32, 98, 117, 116, 32, 100, 97, 116, 97, 32, 101, 110, 100, 115, 32, 37, 100, 32, 98, 121, 116, 101, 115, 32, 111, 110]⟩ 2 = some [(0, 100, false), (1, 100, false)] := by kernel_rfl
theorem fmtBr (w : World) : (FmtDoors.printed ⟨#[108, 101, 110, 103, 116, 104, 32, 37, 100, 44, 32, 98, 117, 116, 32, 100, 97, 116, 97, 32, 101, 110, 100, 115, 32, 37, 100, 32, 98, 121, 116, 101, 115, 32, 111, 110]⟩ 2).run Ybaf.prog w = .ok [(0, 100, false), (1, 100, false)] w := by kernel_rfl
/-- d elements of at least d bytes, but data ends d bytes on -/
def fmtC : Array UInt8 := #[37, 100, 32, 101, 108, 101, 109, 101, 110, 116, 115, 32, 111, 102, 32, 97, 116, 32, 108, 101, 97, 115, 116, 32, 37, 100, 32, 98, 121, 116, 101, 115, 44, 32, 98, 117, 116, 32, 100, 97, 116, 97, 32, 101, 110, 100, 115, 32, 37, 100, 32, 98, 121, 116, 101, 115, 32, 111, 110]
theorem fmtCp : FmtStop.printed? ⟨#[37, 100, 32, 101, 108, 101, 109, 101, 110, 116, 115, 32, 111, 102, 32, 97, 116, 32, 108, 101, 97, 115, 116, 32, 37, 100, 32, 98, 121, 116, 101, 115, 44, 32, 98, 117, 116, 32, 100, 97, 116, 97, 32, 101, 110, 100, 115, 32, 37, 100, 32, 98, 121, 116, 101, 115, 32, 111, 110]⟩ 3 = some [(0, 100, false), (1, 100, false), (2, 100, false)] := by kernel_rfl
theorem fmtCr (w : World) : (FmtDoors.printed ⟨#[37, 100, 32, 101, 108, 101, 109, 101, 110, 116, 115, 32, 111, 102, 32, 97, 116, 32, 108, 101, 97, 115, 116, 32, 37, 100, 32, 98, 121, 116, 101, 115, 44, 32, 98, 117, 116, 32, 100, 97, 116, 97, 32, 101, 110, 100, 115, 32, 37, 100, 32, 98, 121, 116, 101, 115, 32, 111, 110]⟩ 3).run Ybaf.prog w = .ok [(0, 100, false), (1, 100, false), (2, 100, false)] w := by kernel_rfl
/-- padding is not zero -/
def fmtD : Array UInt8 := #[112, 97, 100, 100, 105, 110, 103, 32, 105, 115, 32, 110, 111, 116, 32, 122, 101, 114, 111]
theorem fmtDp : FmtStop.printed? ⟨#[112, 97, 100, 100, 105, 110, 103, 32, 105, 115, 32, 110, 111, 116, 32, 122, 101, 114, 111]⟩ 0 = some [] := by kernel_rfl
theorem fmtDr (w : World) : (FmtDoors.printed ⟨#[112, 97, 100, 100, 105, 110, 103, 32, 105, 115, 32, 110, 111, 116, 32, 122, 101, 114, 111]⟩ 0).run Ybaf.prog w = .ok [] w := by kernel_rfl
/-- xdr: byte d: s -/
def fmtE : Array UInt8 := #[120, 100, 114, 58, 32, 98, 121, 116, 101, 32, 37, 100, 58, 32, 37, 115]
theorem fmtEp : FmtStop.printed? ⟨#[120, 100, 114, 58, 32, 98, 121, 116, 101, 32, 37, 100, 58, 32, 37, 115]⟩ 2 = some [(0, 100, false), (1, 115, false)] := by kernel_rfl
theorem fmtEr (w : World) : (FmtDoors.printed ⟨#[120, 100, 114, 58, 32, 98, 121, 116, 101, 32, 37, 100, 58, 32, 37, 115]⟩ 2).run Ybaf.prog w = .ok [(0, 100, false), (1, 115, false)] w := by kernel_rfl
def shape3 : List UInt8 := [5, 3, 0, 0, 0, 0, 0, 0, 0, 105, 110, 116]
def shape9 : List UInt8 := [12, 6, 0, 0, 0, 0, 0, 0, 0, 115, 116, 114, 105, 110, 103]
def shape25 : List UInt8 := [8, 6, 0, 0, 0, 0, 0, 0, 0, 117, 105, 110, 116, 51, 50]
theorem act3 (name : String) (x : Value) (w : World) : (FmtCalls.act name false 100 false (.iface 3 x)).run Ybaf.prog w = .ok (.closed false) w := by kernel_rfl
theorem act25 (name : String) (x : Value) (w : World) : (FmtCalls.act name false 100 false (.iface 25 x)).run Ybaf.prog w = .ok (.closed false) w := by kernel_rfl
theorem op3 (name : String) (x : Int) (w : World) : (FmtStop.operand name false 100 false (.iface 3 (.int .i64 x))).run Ybaf.prog w = .ok (shape3, Go.Extern.Stop.digits 8 (x % 2 ^ 64).toNat) w := by kernel_rfl
theorem op3w (name : String) (x : Int) (w : World) : (FmtStop.operand name true 100 false (.iface 3 (.int .i64 x))).run Ybaf.prog w = .ok (shape3, Go.Extern.Stop.digits 8 (x % 2 ^ 64).toNat) w := by kernel_rfl
theorem op9w (name : String) (x : ByteArray) (w : World) : (FmtStop.operand name true 115 false (.iface 9 (.string x))).run Ybaf.prog w = .ok (shape9, FmtStop.pack x.data.toList) w := by kernel_rfl
theorem ptr61 (w : World) : (FmtStop.ptrTo "errors.errorString").run Ybaf.prog w = .ok 61 w := by kernel_rfl
theorem elem61 (w : World) : (elemOf 61).run Ybaf.prog w = .ok 63 w := by kernel_rfl
theorem isError61 (w : World) : (FmtDoors.textMethod 61 "Error").run Ybaf.prog w = .ok true w := by kernel_rfl
theorem shape25_is : ∀ (name : String) (x : Int) (w : World), (FmtStop.operand name false 100 false (.iface 25 (.int .u32 x))).run Ybaf.prog w = .ok (shape25, Go.Extern.Stop.digits 8 (x % 2 ^ 64).toNat) w := fun name x w => by kernel_rfl
end Go.Proofs.YbulkadqmFmt.WB
