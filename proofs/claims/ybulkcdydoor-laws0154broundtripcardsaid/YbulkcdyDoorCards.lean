/-
  DERIVED. GIVEN WITH THE SEED: THE CARDS: each row of YbulkcdyDoorRows.lean that lists a variable, with what it lists TIED to the program's text (the seventh form; the later family's looks); each row that meets fmt, with fmt's text TOLD by the authors' own Lean function (tested against real Go, not proved from fmt's source: count such statements apart). THE CARD IS WHAT COUNTS. Prove the row's statement (the work); the ties are given (YbulkcdyDoorTie.lean); close each card by the builder's one call (the guide's Derived/Test/ToyasCard.lean, 'card_holds'). Laid BY PROGRAM, IN A SANDBOX (cutbox-door.mjs). By AI agents, Wed Nov 11 2026. No macro, syntax, notation, axiom, sorry.
-/
import Derived.Test.YbulkcdyDoorRows
import GoSem.ClaimSeven
namespace Go.Proofs.YbulkcdyDoor
namespace Rows

/-- THE TIED CARD OF 'noise.LawS0154BCalls'. -/
def lawS0154BCallsCard : Claim7 := { stood := { row := lawS0154BCallsRow, standIns := [], harness := (true, "a27fb0f2a597e978347df0b3ff04d447d7bcb219de11ee521583a7a2051d6e32"), looks := true }, kinds := [], alts := [], laidByText := true, laidKinds := [.sentinel], laidTests := true, laidLooks := .later }
def LawS0154BCallsCardSaid : Prop := Claim7.holds Ybad.pinned (.plain (OpenSpec.ofChange lawS0154BCallsSpec)) lawS0154BCallsCard

/-- THE TIED CARD OF 'noise.LawS0154BRoundTrip'. -/
def lawS0154BRoundTripCard : Claim7 := { stood := { row := lawS0154BRoundTripRow, standIns := [], harness := (true, "a27fb0f2a597e978347df0b3ff04d447d7bcb219de11ee521583a7a2051d6e32"), looks := true }, kinds := [], alts := [], laidByText := true, laidKinds := [.sentinel], laidTests := true, laidLooks := .later }
def LawS0154BRoundTripCardSaid : Prop := Claim7.holds Ybad.pinned (.plain (OpenSpec.ofChange lawS0154BRoundTripSpec)) lawS0154BRoundTripCard
end Rows
end Go.Proofs.YbulkcdyDoor
