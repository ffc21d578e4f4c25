/-
  No cell of these rows narrows 'for every input' (looked for: loops, veiled, ifaces, maps, wideKeys, modest, calm, conditions, laid).
  DERIVED. THE GIVEN ROWS OF THIS SEAT. 2 by the template 'for every input the law returns true; each argument reads behind the call as it read before'; 0 by the template 'total and deterministic' (their statements: YbulkcdkTotals.lean).
  GIVEN WITH THE SEED: the statements are not yours to turn. If you find one false, say at which input.
  Laid BY PROGRAM, IN A SANDBOX (cutbox-rows.mjs): the forced cells as the released guide's own fill.sh prints them over the translation 8c41ceb08ef768ac… (all of the seat's roots in one cut). By AI agents, Wed Nov 11 2026. No macro, syntax, notation, axiom, sorry.
-/
import Derived.Test.YbulkcdkChecked
import GoSem.Claim
import GoSem.ClaimJoined
import GoSem.ClaimMapViews
import Derived.JoinedTies
import Derived.KernelRfl
namespace Go.Proofs.Ybulkcdk
/- THE CELL 'sum', in the pinned program and in every row, IS THE sha256 OF THE DUMP (.gsa) THAT YbulkcdkProg.lean LOADS. Nothing in Lean hashes anything: it is a label: what it is worth is what the hold of that sum in a sandbox is worth. -/
noncomputable def Yba.pinned : Pinned := { name := "ybulkcdk", sum := "8c41ceb08ef768ac987983a1b07969a9e2266d339af5a71150ac948fa90fb424", checked := Yba.checked }
namespace Rows
def none {H : Type} : Left H := { results := [], args := [] }

/-- 'tickbound.LawS0153AExact': WHATEVER THE INPUT: true; the input reads as it did. -/
def lawS0153AExactSpec : ChangeSpec := { name := "lawS0153AExact", fn := fun _ => fun
  | [d1, d2, d3, d4, d5] => { results := [.lit (.bool true)], args := [d1, d2, d3, d4, d5] }
  | _ => none }
def lawS0153AExactRow : OpenClaim := { program := "ybulkcdk", sum := "8c41ceb08ef768ac987983a1b07969a9e2266d339af5a71150ac948fa90fb424", func := "example.com/tickbound/tickbound.LawS0153AExact", spec := "lawS0153AExact", apart := false }
def LawS0153AExactSaid : Prop := lawS0153AExactRow.holds Yba.pinned (OpenSpec.ofChange lawS0153AExactSpec)

/-- ITS FALSE NEIGHBOUR: 'it returns false'. Refute it at one input. -/
def lawS0153AExactWrong : ChangeSpec := { name := "lawS0153AExact", fn := fun _ => fun
  | [d1, d2, d3, d4, d5] => { results := [.lit (.bool false)], args := [d1, d2, d3, d4, d5] }
  | _ => none }
def LawS0153AExactWrongFalsely : Prop := lawS0153AExactRow.holds Yba.pinned (OpenSpec.ofChange lawS0153AExactWrong)

/-- 'tickbound.LawS0153CSets': WHATEVER THE INPUT: true; the input reads as it did. -/
def lawS0153CSetsSpec : ChangeSpec := { name := "lawS0153CSets", fn := fun _ => fun
  | [d1, d2, d3, d4, d5] => { results := [.lit (.bool true)], args := [d1, d2, d3, d4, d5] }
  | _ => none }
def lawS0153CSetsRow : OpenClaim := { program := "ybulkcdk", sum := "8c41ceb08ef768ac987983a1b07969a9e2266d339af5a71150ac948fa90fb424", func := "example.com/tickbound/tickbound.LawS0153CSets", spec := "lawS0153CSets", unfollowed := true, recurses := true, apart := false }
def LawS0153CSetsSaid : Prop := lawS0153CSetsRow.holds Yba.pinned (OpenSpec.ofChange lawS0153CSetsSpec)

/-- ITS FALSE NEIGHBOUR: 'it returns false'. Refute it at one input. -/
def lawS0153CSetsWrong : ChangeSpec := { name := "lawS0153CSets", fn := fun _ => fun
  | [d1, d2, d3, d4, d5] => { results := [.lit (.bool false)], args := [d1, d2, d3, d4, d5] }
  | _ => none }
def LawS0153CSetsWrongFalsely : Prop := lawS0153CSetsRow.holds Yba.pinned (OpenSpec.ofChange lawS0153CSetsWrong)

end Rows
end Go.Proofs.Ybulkcdk
