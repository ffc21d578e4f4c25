/-
  No cell of these rows narrows 'for every input' (looked for: loops, veiled, ifaces, maps, wideKeys, modest, calm, conditions, laid).
  DERIVED. THE GIVEN ROWS OF THIS SEAT. 2 by the template 'for every input the law returns true; each argument reads behind the call as it read before'; 0 by the template 'total and deterministic' (their statements: YbulkcfoTotals.lean).
  GIVEN WITH THE SEED: the statements are not yours to turn. If you find one false, say at which input.
  Laid BY PROGRAM, IN A SANDBOX (cutbox-rows.mjs): the forced cells as the released guide's own fill.sh prints them over the translation dfa47dbc0b5cb892… (all of the seat's roots in one cut). By AI agents, Wed Nov 11 2026. No macro, syntax, notation, axiom, sorry.
-/
import Derived.Test.YbulkcfoChecked
import GoSem.Claim
import GoSem.ClaimJoined
import GoSem.ClaimMapViews
import Derived.JoinedTies
import Derived.KernelRfl
namespace Go.Proofs.Ybulkcfo
/- THE CELL 'sum', in the pinned program and in every row, IS THE sha256 OF THE DUMP (.gsa) THAT YbulkcfoProg.lean LOADS. Nothing in Lean hashes anything: it is a label: what it is worth is what the hold of that sum in a sandbox is worth. -/
noncomputable def Yba.pinned : Pinned := { name := "ybulkcfo", sum := "dfa47dbc0b5cb89299e03152a6ff23a1db6c42eb7df89251b05e10ab50e7a644", checked := Yba.checked }
namespace Rows
def none {H : Type} : Left H := { results := [], args := [] }

/-- 'check.LawS0157BSplit': WHATEVER THE INPUT: true; the input reads as it did. -/
def lawS0157BSplitSpec : ChangeSpec := { name := "lawS0157BSplit", fn := fun _ => fun
  | [d] => { results := [.lit (.bool true)], args := [d] }
  | _ => none }
def lawS0157BSplitRow : OpenClaim := { program := "ybulkcfo", sum := "dfa47dbc0b5cb89299e03152a6ff23a1db6c42eb7df89251b05e10ab50e7a644", func := "example.com/licet/licet/check.LawS0157BSplit", spec := "lawS0157BSplit", apart := false }
def LawS0157BSplitSaid : Prop := lawS0157BSplitRow.holds Yba.pinned (OpenSpec.ofChange lawS0157BSplitSpec)

/-- ITS FALSE NEIGHBOUR: 'it returns false'. Refute it at one input. -/
def lawS0157BSplitWrong : ChangeSpec := { name := "lawS0157BSplit", fn := fun _ => fun
  | [d] => { results := [.lit (.bool false)], args := [d] }
  | _ => none }
def LawS0157BSplitWrongFalsely : Prop := lawS0157BSplitRow.holds Yba.pinned (OpenSpec.ofChange lawS0157BSplitWrong)

/-- 'check.LawS0157BIdempotent': WHATEVER THE INPUT: true; the input reads as it did. -/
def lawS0157BIdempotentSpec : ChangeSpec := { name := "lawS0157BIdempotent", fn := fun _ => fun
  | [d] => { results := [.lit (.bool true)], args := [d] }
  | _ => none }
def lawS0157BIdempotentRow : OpenClaim := { program := "ybulkcfo", sum := "dfa47dbc0b5cb89299e03152a6ff23a1db6c42eb7df89251b05e10ab50e7a644", func := "example.com/licet/licet/check.LawS0157BIdempotent", spec := "lawS0157BIdempotent", apart := false }
def LawS0157BIdempotentSaid : Prop := lawS0157BIdempotentRow.holds Yba.pinned (OpenSpec.ofChange lawS0157BIdempotentSpec)

/-- ITS FALSE NEIGHBOUR: 'it returns false'. Refute it at one input. -/
def lawS0157BIdempotentWrong : ChangeSpec := { name := "lawS0157BIdempotent", fn := fun _ => fun
  | [d] => { results := [.lit (.bool false)], args := [d] }
  | _ => none }
def LawS0157BIdempotentWrongFalsely : Prop := lawS0157BIdempotentRow.holds Yba.pinned (OpenSpec.ofChange lawS0157BIdempotentWrong)

end Rows
end Go.Proofs.Ybulkcfo
