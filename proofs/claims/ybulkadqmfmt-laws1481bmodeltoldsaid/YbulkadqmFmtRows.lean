/-
  No cell of these rows narrows 'for every input' (looked for: loops, veiled, ifaces, maps, wideKeys, modest, calm, conditions, laid).
  DERIVED. THE GIVEN ROWS OF THIS SEAT. 2 by the template 'for every input the law returns true; each argument reads behind the call as it read before'; 0 by the template 'total and deterministic' (their statements: YbulkadqmFmtTotals.lean).
  GIVEN WITH THE SEED: the statements are not yours to turn. If you find one false, say at which input.
  Laid BY PROGRAM, IN A SANDBOX (cutbox-rows.mjs): the forced cells as the released guide's own fill.sh prints them over the translation 0e5700365ff653b5… (all of the seat's roots in one cut). By AI agents, Wed Nov 11 2026. No macro, syntax, notation, axiom, sorry.
-/
import Derived.Test.YbulkadqmFmtChecked
import GoSem.Claim
import GoSem.ClaimJoined
import GoSem.ClaimMapViews
import Derived.JoinedTies
import Derived.KernelRfl
namespace Go.Proofs.YbulkadqmFmt
/- THE CELL 'sum', in the pinned program and in every row, IS THE sha256 OF THE DUMP (.gsa) THAT YbulkadqmFmtProg.lean LOADS. Nothing in Lean hashes anything: it is a label: what it is worth is what the hold of that sum in a sandbox is worth. -/
noncomputable def Ybaf.pinned : Pinned := { name := "ybulkadqmfmt", sum := "0e5700365ff653b57a48fd06534c2fda46e2a0cf3baf881c5b8168e535b5afc7", checked := Ybaf.checked }
namespace Rows
def none {H : Type} : Left H := { results := [], args := [] }

/-- 'wire.LawS1481BRoundTrip': WHATEVER THE INPUT: true; the input reads as it did. -/
def lawS1481BRoundTripSpec : ChangeSpec := { name := "lawS1481BRoundTrip", fn := fun _ => fun
  | [d] => { results := [.lit (.bool true)], args := [d] }
  | _ => none }
def lawS1481BRoundTripRow : OpenClaim := { program := "ybulkadqmfmt", sum := "0e5700365ff653b57a48fd06534c2fda46e2a0cf3baf881c5b8168e535b5afc7", func := "example.com/interslice/interslice/wire.LawS1481BRoundTrip", spec := "lawS1481BRoundTrip", stops := ["fmt.Sprintf, its operands' methods called", "fmt.errorf"], inPlace := ["fmt.Sprintf", "fmt.errorf"], unfollowed := true, recurses := true, named := ["encoding/binary.BigEndian"], apart := false }
/-- NO THEOREM (fmt's text is open here; it may be false): for the released tool's asking of the row's closed facts alone. THE STATEMENT IS 'LawS1481BRoundTripToldSaid' (YbulkadqmFmtCards.lean). -/
def LawS1481BRoundTripFormAsk : Prop := lawS1481BRoundTripRow.holds Ybaf.pinned (OpenSpec.ofChange lawS1481BRoundTripSpec)

/-- ITS FALSE NEIGHBOUR: 'it returns false'. Refute it at one input. -/
def lawS1481BRoundTripWrong : ChangeSpec := { name := "lawS1481BRoundTrip", fn := fun _ => fun
  | [d] => { results := [.lit (.bool false)], args := [d] }
  | _ => none }
def LawS1481BRoundTripWrongFormAsk : Prop := lawS1481BRoundTripRow.holds Ybaf.pinned (OpenSpec.ofChange lawS1481BRoundTripWrong)

/-- 'wire.LawS1481BModel': WHATEVER THE INPUT: true; the input reads as it did. -/
def lawS1481BModelSpec : ChangeSpec := { name := "lawS1481BModel", fn := fun _ => fun
  | [d1, d2] => { results := [.lit (.bool true)], args := [d1, d2] }
  | _ => none }
def lawS1481BModelRow : OpenClaim := { program := "ybulkadqmfmt", sum := "0e5700365ff653b57a48fd06534c2fda46e2a0cf3baf881c5b8168e535b5afc7", func := "example.com/interslice/interslice/wire.LawS1481BModel", spec := "lawS1481BModel", stops := ["fmt.Sprintf, its operands' methods called", "fmt.errorf"], inPlace := ["fmt.Sprintf", "fmt.errorf"], unfollowed := true, recurses := true, named := ["encoding/binary.BigEndian"], apart := false }
/-- NO THEOREM (fmt's text is open here; it may be false): for the released tool's asking of the row's closed facts alone. THE STATEMENT IS 'LawS1481BModelToldSaid' (YbulkadqmFmtCards.lean). -/
def LawS1481BModelFormAsk : Prop := lawS1481BModelRow.holds Ybaf.pinned (OpenSpec.ofChange lawS1481BModelSpec)

/-- ITS FALSE NEIGHBOUR: 'it returns false'. Refute it at one input. -/
def lawS1481BModelWrong : ChangeSpec := { name := "lawS1481BModel", fn := fun _ => fun
  | [d1, d2] => { results := [.lit (.bool false)], args := [d1, d2] }
  | _ => none }
def LawS1481BModelWrongFormAsk : Prop := lawS1481BModelRow.holds Ybaf.pinned (OpenSpec.ofChange lawS1481BModelWrong)

end Rows
end Go.Proofs.YbulkadqmFmt
