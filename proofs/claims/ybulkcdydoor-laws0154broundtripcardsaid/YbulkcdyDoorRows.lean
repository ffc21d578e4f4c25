/-
  NARROWER THAN 'FOR EVERY INPUT', by the rows' own cells (each row's printed sentence says how): LawS0154BCalls: ifaces, laid · LawS0154BRoundTrip: ifaces, laid.
  DERIVED. THE GIVEN ROWS OF THIS SEAT. 2 by the template 'for every input the law returns true; each argument reads behind the call as it read before'; 0 by the template 'total and deterministic' (their statements: YbulkcdyDoorTotals.lean).
  GIVEN WITH THE SEED: the statements are not yours to turn. If you find one false, say at which input.
  Laid BY PROGRAM, IN A SANDBOX (cutbox-rows.mjs): the forced cells as the released guide's own fill.sh prints them over the translation ec69d116a79613f7… (all of the seat's roots in one cut). By AI agents, Wed Nov 11 2026. No macro, syntax, notation, axiom, sorry.
-/
import Derived.Test.YbulkcdyDoorChecked
import GoSem.Claim
import GoSem.ClaimJoined
import GoSem.ClaimMapViews
import Derived.JoinedTies
import Derived.KernelRfl
namespace Go.Proofs.YbulkcdyDoor
/- THE CELL 'sum', in the pinned program and in every row, IS THE sha256 OF THE DUMP (.gsa) THAT YbulkcdyDoorProg.lean LOADS. Nothing in Lean hashes anything: it is a label: what it is worth is what the hold of that sum in a sandbox is worth. -/
noncomputable def Ybad.pinned : Pinned := { name := "ybulkcdydoor", sum := "ec69d116a79613f76137acf85ad66acf8ee2d2b6db4288fa0635c2c7747d4a65", checked := Ybad.checked }
namespace Rows
def none {H : Type} : Left H := { results := [], args := [] }

/- WHAT THE LISTED PACKAGE-LEVEL VARIABLES READ AS WHEN THE CALL BEGINS. Each datum BY PROGRAM (the guide's laid-datum.mjs) off the statement by which the dump's own 'gosem.cut.vars' lays the variable. In a bare row this is a premise. The card (YbulkcdyDoorCards.lean) ties it to the program's text. -/
def laid_example_com_foregate_foregate_internal_noise_ErrAuth {H : Type} : DataW H := .iface "*errors.errorString" (.ptr (.agg [.lit (.string [110, 111, 105, 115, 101, 58, 32, 109, 101, 115, 115, 97, 103, 101, 32, 97, 117, 116, 104, 101, 110, 116, 105, 99, 97, 116, 105, 111, 110, 32, 102, 97, 105, 108, 101, 100])]))

/-- 'noise.LawS0154BCalls': WHATEVER THE INPUT: true; the input reads as it did. -/
def lawS0154BCallsSpec : ChangeSpec := { name := "lawS0154BCalls", vars := ["example.com/foregate/foregate/internal/noise.ErrAuth"], fn := fun _ => fun
  | [d1, d2, d3, d4, d5, d6, g1] => { results := [.lit (.bool true)], args := [d1, d2, d3, d4, d5, d6], vars := [g1] }
  | _ => none }
def lawS0154BCallsRow : OpenClaim := { program := "ybulkcdydoor", sum := "ec69d116a79613f76137acf85ad66acf8ee2d2b6db4288fa0635c2c7747d4a65", func := "example.com/foregate/foregate/internal/noise.LawS0154BCalls", spec := "lawS0154BCalls", unfollowed := true, recurses := true, named := ["example.com/foregate/foregate/internal/noise.ErrAuth", "encoding/binary.BigEndian"], ifaces := true, apart := false, laid := [("example.com/foregate/foregate/internal/noise.ErrAuth", laid_example_com_foregate_foregate_internal_noise_ErrAuth)] }
def LawS0154BCallsSaid : Prop := lawS0154BCallsRow.holds Ybad.pinned (OpenSpec.ofChange lawS0154BCallsSpec)

/-- ITS FALSE NEIGHBOUR: 'it returns false'. Refute it at one input. -/
def lawS0154BCallsWrong : ChangeSpec := { name := "lawS0154BCalls", vars := ["example.com/foregate/foregate/internal/noise.ErrAuth"], fn := fun _ => fun
  | [d1, d2, d3, d4, d5, d6, g1] => { results := [.lit (.bool false)], args := [d1, d2, d3, d4, d5, d6], vars := [g1] }
  | _ => none }
def LawS0154BCallsWrongFalsely : Prop := lawS0154BCallsRow.holds Ybad.pinned (OpenSpec.ofChange lawS0154BCallsWrong)

/-- 'noise.LawS0154BRoundTrip': WHATEVER THE INPUT: true; the input reads as it did. -/
def lawS0154BRoundTripSpec : ChangeSpec := { name := "lawS0154BRoundTrip", vars := ["example.com/foregate/foregate/internal/noise.ErrAuth"], fn := fun _ => fun
  | [d1, d2, d3, g1] => { results := [.lit (.bool true)], args := [d1, d2, d3], vars := [g1] }
  | _ => none }
def lawS0154BRoundTripRow : OpenClaim := { program := "ybulkcdydoor", sum := "ec69d116a79613f76137acf85ad66acf8ee2d2b6db4288fa0635c2c7747d4a65", func := "example.com/foregate/foregate/internal/noise.LawS0154BRoundTrip", spec := "lawS0154BRoundTrip", unfollowed := true, recurses := true, named := ["example.com/foregate/foregate/internal/noise.ErrAuth", "encoding/binary.BigEndian"], ifaces := true, apart := false, laid := [("example.com/foregate/foregate/internal/noise.ErrAuth", laid_example_com_foregate_foregate_internal_noise_ErrAuth)] }
def LawS0154BRoundTripSaid : Prop := lawS0154BRoundTripRow.holds Ybad.pinned (OpenSpec.ofChange lawS0154BRoundTripSpec)

/-- ITS FALSE NEIGHBOUR: 'it returns false'. Refute it at one input. -/
def lawS0154BRoundTripWrong : ChangeSpec := { name := "lawS0154BRoundTrip", vars := ["example.com/foregate/foregate/internal/noise.ErrAuth"], fn := fun _ => fun
  | [d1, d2, d3, g1] => { results := [.lit (.bool false)], args := [d1, d2, d3], vars := [g1] }
  | _ => none }
def LawS0154BRoundTripWrongFalsely : Prop := lawS0154BRoundTripRow.holds Ybad.pinned (OpenSpec.ofChange lawS0154BRoundTripWrong)

end Rows
end Go.Proofs.YbulkcdyDoor
