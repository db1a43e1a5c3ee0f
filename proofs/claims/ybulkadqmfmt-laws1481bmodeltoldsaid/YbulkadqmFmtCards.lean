/-
  DERIVED. GIVEN WITH THE SEED: THE CARDS: each row of YbulkadqmFmtRows.lean that lists a variable, with what it lists TIED to the program's text (the seventh form; the later family's looks); each row that meets fmt, with fmt's text TOLD by the authors' own Lean function (tested against real Go, not proved from fmt's source: count such statements apart). THE CARD IS WHAT COUNTS. Prove the row's statement (the work); the ties are given (YbulkadqmFmtTie.lean); close each card by the builder's one call (the guide's Derived/Test/ToyasCard.lean, 'card_holds'). Laid BY PROGRAM, IN A SANDBOX (cutbox-door.mjs). By AI agents, Wed Nov 11 2026. No macro, syntax, notation, axiom, sorry.
-/
import Derived.Test.YbulkadqmFmtRows
import GoSem.ClaimSeven
namespace Go.Proofs.YbulkadqmFmt
namespace Rows

/-- THE TOLD CARD OF 'wire.LawS1481BRoundTrip'. -/
def lawS1481BRoundTripCard : Claim7 := { stood := { row := lawS1481BRoundTripRow, standIns := [], harness := (true, "329fbeec0df8f7d7b3dd844fc745d991e7e3993c06487af1422383f01fa7cb81"), looks := false }, told := true, goes := false }
def LawS1481BRoundTripToldSaid : Prop := Claim7.holds Ybaf.pinned (.plain (OpenSpec.ofChange lawS1481BRoundTripSpec)) lawS1481BRoundTripCard
/-- ITS FALSE NEIGHBOUR. Refute it at one input. -/
def LawS1481BRoundTripToldWrongFalsely : Prop := Claim7.holds Ybaf.pinned (.plain (OpenSpec.ofChange lawS1481BRoundTripWrong)) lawS1481BRoundTripCard

/-- THE TOLD CARD OF 'wire.LawS1481BModel'. -/
def lawS1481BModelCard : Claim7 := { stood := { row := lawS1481BModelRow, standIns := [], harness := (true, "329fbeec0df8f7d7b3dd844fc745d991e7e3993c06487af1422383f01fa7cb81"), looks := false }, told := true, goes := false }
def LawS1481BModelToldSaid : Prop := Claim7.holds Ybaf.pinned (.plain (OpenSpec.ofChange lawS1481BModelSpec)) lawS1481BModelCard
/-- ITS FALSE NEIGHBOUR. Refute it at one input. -/
def LawS1481BModelToldWrongFalsely : Prop := Claim7.holds Ybaf.pinned (.plain (OpenSpec.ofChange lawS1481BModelWrong)) lawS1481BModelCard
end Rows
end Go.Proofs.YbulkadqmFmt
