/-
  No cell of these rows narrows 'for every input' (looked for: loops, veiled, ifaces, maps, wideKeys, modest, calm, conditions, laid).
  DERIVED. THE GIVEN ROWS OF THIS SEAT. 4 by the template 'for every input the law returns true; each argument reads behind the call as it read before'; 0 by the template 'total and deterministic' (their statements: YbulkadroTotals.lean).
  GIVEN WITH THE SEED: the statements are not yours to turn. If you find one false, say at which input.
  Laid BY PROGRAM, IN A SANDBOX (cutbox-rows.mjs): the forced cells as the released guide's own fill.sh prints them over the translation 8d89ca505a2dd8ac… (all of the seat's roots in one cut). By AI agents, Wed Nov 11 2026. No macro, syntax, notation, axiom, sorry.
-/
import Derived.Test.YbulkadroChecked
import GoSem.Claim
import GoSem.ClaimJoined
import GoSem.ClaimMapViews
import Derived.JoinedTies
import Derived.KernelRfl
namespace Go.Proofs.Ybulkadro
/- THE CELL 'sum', in the pinned program and in every row, IS THE sha256 OF THE DUMP (.gsa) THAT YbulkadroProg.lean LOADS. Nothing in Lean hashes anything: it is a label: what it is worth is what the hold of that sum in a sandbox is worth. -/
noncomputable def Yba.pinned : Pinned := { name := "ybulkadro", sum := "8d89ca505a2dd8ac9ee41e49f88c0af2237f3fd1dcb27fd6b2897725436faa48", checked := Yba.checked }
namespace Rows
def none {H : Type} : Left H := { results := [], args := [] }

/-- 'tallyroot.LawS1483AEffect': WHATEVER THE INPUT: true; the input reads as it did. -/
def lawS1483AEffectSpec : ChangeSpec := { name := "lawS1483AEffect", fn := fun _ => fun
  | [d1, d2, d3, d4, d5] => { results := [.lit (.bool true)], args := [d1, d2, d3, d4, d5] }
  | _ => none }
def lawS1483AEffectRow : OpenClaim := { program := "ybulkadro", sum := "8d89ca505a2dd8ac9ee41e49f88c0af2237f3fd1dcb27fd6b2897725436faa48", func := "example.com/tallyroot/tallyroot.LawS1483AEffect", spec := "lawS1483AEffect", apart := false }
def LawS1483AEffectSaid : Prop := lawS1483AEffectRow.holds Yba.pinned (OpenSpec.ofChange lawS1483AEffectSpec)

/-- ITS FALSE NEIGHBOUR: 'it returns false'. Refute it at one input. -/
def lawS1483AEffectWrong : ChangeSpec := { name := "lawS1483AEffect", fn := fun _ => fun
  | [d1, d2, d3, d4, d5] => { results := [.lit (.bool false)], args := [d1, d2, d3, d4, d5] }
  | _ => none }
def LawS1483AEffectWrongFalsely : Prop := lawS1483AEffectRow.holds Yba.pinned (OpenSpec.ofChange lawS1483AEffectWrong)

/-- 'tallyroot.LawS1483AIdem': WHATEVER THE INPUT: true; the input reads as it did. -/
def lawS1483AIdemSpec : ChangeSpec := { name := "lawS1483AIdem", fn := fun _ => fun
  | [d1, d2, d3] => { results := [.lit (.bool true)], args := [d1, d2, d3] }
  | _ => none }
def lawS1483AIdemRow : OpenClaim := { program := "ybulkadro", sum := "8d89ca505a2dd8ac9ee41e49f88c0af2237f3fd1dcb27fd6b2897725436faa48", func := "example.com/tallyroot/tallyroot.LawS1483AIdem", spec := "lawS1483AIdem", apart := false }
def LawS1483AIdemSaid : Prop := lawS1483AIdemRow.holds Yba.pinned (OpenSpec.ofChange lawS1483AIdemSpec)

/-- ITS FALSE NEIGHBOUR: 'it returns false'. Refute it at one input. -/
def lawS1483AIdemWrong : ChangeSpec := { name := "lawS1483AIdem", fn := fun _ => fun
  | [d1, d2, d3] => { results := [.lit (.bool false)], args := [d1, d2, d3] }
  | _ => none }
def LawS1483AIdemWrongFalsely : Prop := lawS1483AIdemRow.holds Yba.pinned (OpenSpec.ofChange lawS1483AIdemWrong)

/-- 'tallyroot.LawS1483BExact': WHATEVER THE INPUT: true; the input reads as it did. -/
def lawS1483BExactSpec : ChangeSpec := { name := "lawS1483BExact", fn := fun _ => fun
  | [d1, d2] => { results := [.lit (.bool true)], args := [d1, d2] }
  | _ => none }
def lawS1483BExactRow : OpenClaim := { program := "ybulkadro", sum := "8d89ca505a2dd8ac9ee41e49f88c0af2237f3fd1dcb27fd6b2897725436faa48", func := "example.com/tallyroot/tallyroot.LawS1483BExact", spec := "lawS1483BExact", named := ["encoding/binary.LittleEndian"], apart := false }
def LawS1483BExactSaid : Prop := lawS1483BExactRow.holds Yba.pinned (OpenSpec.ofChange lawS1483BExactSpec)

/-- ITS FALSE NEIGHBOUR: 'it returns false'. Refute it at one input. -/
def lawS1483BExactWrong : ChangeSpec := { name := "lawS1483BExact", fn := fun _ => fun
  | [d1, d2] => { results := [.lit (.bool false)], args := [d1, d2] }
  | _ => none }
def LawS1483BExactWrongFalsely : Prop := lawS1483BExactRow.holds Yba.pinned (OpenSpec.ofChange lawS1483BExactWrong)

/-- 'tallyroot.LawS1483BRegion': WHATEVER THE INPUT: true; the input reads as it did. -/
def lawS1483BRegionSpec : ChangeSpec := { name := "lawS1483BRegion", fn := fun _ => fun
  | [d1, d2, d3] => { results := [.lit (.bool true)], args := [d1, d2, d3] }
  | _ => none }
def lawS1483BRegionRow : OpenClaim := { program := "ybulkadro", sum := "8d89ca505a2dd8ac9ee41e49f88c0af2237f3fd1dcb27fd6b2897725436faa48", func := "example.com/tallyroot/tallyroot.LawS1483BRegion", spec := "lawS1483BRegion", named := ["encoding/binary.LittleEndian"], apart := false }
def LawS1483BRegionSaid : Prop := lawS1483BRegionRow.holds Yba.pinned (OpenSpec.ofChange lawS1483BRegionSpec)

/-- ITS FALSE NEIGHBOUR: 'it returns false'. Refute it at one input. -/
def lawS1483BRegionWrong : ChangeSpec := { name := "lawS1483BRegion", fn := fun _ => fun
  | [d1, d2, d3] => { results := [.lit (.bool false)], args := [d1, d2, d3] }
  | _ => none }
def LawS1483BRegionWrongFalsely : Prop := lawS1483BRegionRow.holds Yba.pinned (OpenSpec.ofChange lawS1483BRegionWrong)

end Rows
end Go.Proofs.Ybulkadro
