/-
  No cell of these rows narrows 'for every input' (looked for: loops, veiled, ifaces, maps, wideKeys, modest, calm, conditions, laid).
  DERIVED. THE GIVEN ROWS OF THIS SEAT. 4 by the template 'for every input the law returns true; each argument reads behind the call as it read before'; 0 by the template 'total and deterministic' (their statements: YbulkadqmTotals.lean).
  GIVEN WITH THE SEED: the statements are not yours to turn. If you find one false, say at which input.
  Laid BY PROGRAM, IN A SANDBOX (cutbox-rows.mjs): the forced cells as the released guide's own fill.sh prints them over the translation 371a080658b36b3d… (all of the seat's roots in one cut). By AI agents, Wed Nov 11 2026. No macro, syntax, notation, axiom, sorry.
-/
import Derived.Test.YbulkadqmChecked
import GoSem.Claim
import GoSem.ClaimJoined
import GoSem.ClaimMapViews
import Derived.JoinedTies
import Derived.KernelRfl
namespace Go.Proofs.Ybulkadqm
/- THE CELL 'sum', in the pinned program and in every row, IS THE sha256 OF THE DUMP (.gsa) THAT YbulkadqmProg.lean LOADS. Nothing in Lean hashes anything: it is a label: what it is worth is what the hold of that sum in a sandbox is worth. -/
noncomputable def Yba.pinned : Pinned := { name := "ybulkadqm", sum := "371a080658b36b3d6f86b6d1d4e0f163138e8af4a2372f3275f3c659781558a1", checked := Yba.checked }
namespace Rows
def none {H : Type} : Left H := { results := [], args := [] }

/-- 'interslice.LawS1481AKeeps': WHATEVER THE INPUT: true; the input reads as it did. -/
def lawS1481AKeepsSpec : ChangeSpec := { name := "lawS1481AKeeps", fn := fun _ => fun
  | [d] => { results := [.lit (.bool true)], args := [d] }
  | _ => none }
def lawS1481AKeepsRow : OpenClaim := { program := "ybulkadqm", sum := "371a080658b36b3d6f86b6d1d4e0f163138e8af4a2372f3275f3c659781558a1", func := "example.com/interslice/interslice.LawS1481AKeeps", spec := "lawS1481AKeeps", inPlace := ["internal/bytealg.Compare"], unfollowed := true, recurses := true, plainKeys := false, apart := false }
def LawS1481AKeepsSaid : Prop := lawS1481AKeepsRow.holds Yba.pinned (OpenSpec.ofChange lawS1481AKeepsSpec)

/-- ITS FALSE NEIGHBOUR: 'it returns false'. Refute it at one input. -/
def lawS1481AKeepsWrong : ChangeSpec := { name := "lawS1481AKeeps", fn := fun _ => fun
  | [d] => { results := [.lit (.bool false)], args := [d] }
  | _ => none }
def LawS1481AKeepsWrongFalsely : Prop := lawS1481AKeepsRow.holds Yba.pinned (OpenSpec.ofChange lawS1481AKeepsWrong)

/-- 'interslice.LawS1481AExact': WHATEVER THE INPUT: true; the input reads as it did. -/
def lawS1481AExactSpec : ChangeSpec := { name := "lawS1481AExact", fn := fun _ => fun
  | [d] => { results := [.lit (.bool true)], args := [d] }
  | _ => none }
def lawS1481AExactRow : OpenClaim := { program := "ybulkadqm", sum := "371a080658b36b3d6f86b6d1d4e0f163138e8af4a2372f3275f3c659781558a1", func := "example.com/interslice/interslice.LawS1481AExact", spec := "lawS1481AExact", inPlace := ["internal/bytealg.Compare"], unfollowed := true, recurses := true, plainKeys := false, apart := false }
def LawS1481AExactSaid : Prop := lawS1481AExactRow.holds Yba.pinned (OpenSpec.ofChange lawS1481AExactSpec)

/-- ITS FALSE NEIGHBOUR: 'it returns false'. Refute it at one input. -/
def lawS1481AExactWrong : ChangeSpec := { name := "lawS1481AExact", fn := fun _ => fun
  | [d] => { results := [.lit (.bool false)], args := [d] }
  | _ => none }
def LawS1481AExactWrongFalsely : Prop := lawS1481AExactRow.holds Yba.pinned (OpenSpec.ofChange lawS1481AExactWrong)

/-- 'analysis.LawS1481CModel': WHATEVER THE INPUT: true; the input reads as it did. -/
def lawS1481CModelSpec : ChangeSpec := { name := "lawS1481CModel", fn := fun _ => fun
  | [d1, d2, d3, d4] => { results := [.lit (.bool true)], args := [d1, d2, d3, d4] }
  | _ => none }
def lawS1481CModelRow : OpenClaim := { program := "ybulkadqm", sum := "371a080658b36b3d6f86b6d1d4e0f163138e8af4a2372f3275f3c659781558a1", func := "example.com/interslice/interslice/analysis.LawS1481CModel", spec := "lawS1481CModel", recurses := true, plainKeys := false, apart := false }
def LawS1481CModelSaid : Prop := lawS1481CModelRow.holds Yba.pinned (OpenSpec.ofChange lawS1481CModelSpec)

/-- ITS FALSE NEIGHBOUR: 'it returns false'. Refute it at one input. -/
def lawS1481CModelWrong : ChangeSpec := { name := "lawS1481CModel", fn := fun _ => fun
  | [d1, d2, d3, d4] => { results := [.lit (.bool false)], args := [d1, d2, d3, d4] }
  | _ => none }
def LawS1481CModelWrongFalsely : Prop := lawS1481CModelRow.holds Yba.pinned (OpenSpec.ofChange lawS1481CModelWrong)

/-- 'analysis.LawS1481CMonotone': WHATEVER THE INPUT: true; the input reads as it did. -/
def lawS1481CMonotoneSpec : ChangeSpec := { name := "lawS1481CMonotone", fn := fun _ => fun
  | [d1, d2, d3, d4, d5] => { results := [.lit (.bool true)], args := [d1, d2, d3, d4, d5] }
  | _ => none }
def lawS1481CMonotoneRow : OpenClaim := { program := "ybulkadqm", sum := "371a080658b36b3d6f86b6d1d4e0f163138e8af4a2372f3275f3c659781558a1", func := "example.com/interslice/interslice/analysis.LawS1481CMonotone", spec := "lawS1481CMonotone", recurses := true, plainKeys := false, apart := false }
def LawS1481CMonotoneSaid : Prop := lawS1481CMonotoneRow.holds Yba.pinned (OpenSpec.ofChange lawS1481CMonotoneSpec)

/-- ITS FALSE NEIGHBOUR: 'it returns false'. Refute it at one input. -/
def lawS1481CMonotoneWrong : ChangeSpec := { name := "lawS1481CMonotone", fn := fun _ => fun
  | [d1, d2, d3, d4, d5] => { results := [.lit (.bool false)], args := [d1, d2, d3, d4, d5] }
  | _ => none }
def LawS1481CMonotoneWrongFalsely : Prop := lawS1481CMonotoneRow.holds Yba.pinned (OpenSpec.ofChange lawS1481CMonotoneWrong)

end Rows
end Go.Proofs.Ybulkadqm
