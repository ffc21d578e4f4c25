/-
  No cell of these rows narrows 'for every input' (looked for: loops, veiled, ifaces, maps, wideKeys, modest, calm, conditions, laid).
  DERIVED. THE GIVEN ROWS OF THIS SEAT. 5 by the template 'for every input the law returns true; each argument reads behind the call as it read before'; 0 by the template 'total and deterministic' (their statements: YbulkccwTotals.lean).
  GIVEN WITH THE SEED: the statements are not yours to turn. If you find one false, say at which input.
  Laid BY PROGRAM, IN A SANDBOX (cutbox-rows.mjs): the forced cells as the released guide's own fill.sh prints them over the translation 5ffd2c10107430e4… (all of the seat's roots in one cut). By AI agents, Wed Nov 11 2026. No macro, syntax, notation, axiom, sorry.
-/
import Derived.Test.YbulkccwChecked
import GoSem.Claim
import GoSem.ClaimJoined
import GoSem.ClaimMapViews
import Derived.JoinedTies
import Derived.KernelRfl
namespace Go.Proofs.Ybulkccw
/- THE CELL 'sum', in the pinned program and in every row, IS THE sha256 OF THE DUMP (.gsa) THAT YbulkccwProg.lean LOADS. Nothing in Lean hashes anything: it is a label: what it is worth is what the hold of that sum in a sandbox is worth. -/
noncomputable def Yba.pinned : Pinned := { name := "ybulkccw", sum := "5ffd2c10107430e46e2b38c8cff3084e2ef7ef091e7ec649b0efac932f10a457", checked := Yba.checked }
namespace Rows
def none {H : Type} : Left H := { results := [], args := [] }

/-- 'qm.LawS0152BModel': WHATEVER THE INPUT: true; the input reads as it did. -/
def lawS0152BModelSpec : ChangeSpec := { name := "lawS0152BModel", fn := fun _ => fun
  | [d1, d2] => { results := [.lit (.bool true)], args := [d1, d2] }
  | _ => none }
def lawS0152BModelRow : OpenClaim := { program := "ybulkccw", sum := "5ffd2c10107430e46e2b38c8cff3084e2ef7ef091e7ec649b0efac932f10a457", func := "example.com/babelcat/babelcat/qm.LawS0152BModel", spec := "lawS0152BModel", inPlace := ["internal/bytealg.abigen_runtime_cmpstring"], unfollowed := true, recurses := true, apart := false }
def LawS0152BModelSaid : Prop := lawS0152BModelRow.holds Yba.pinned (OpenSpec.ofChange lawS0152BModelSpec)

/-- ITS FALSE NEIGHBOUR: 'it returns false'. Refute it at one input. -/
def lawS0152BModelWrong : ChangeSpec := { name := "lawS0152BModel", fn := fun _ => fun
  | [d1, d2] => { results := [.lit (.bool false)], args := [d1, d2] }
  | _ => none }
def LawS0152BModelWrongFalsely : Prop := lawS0152BModelRow.holds Yba.pinned (OpenSpec.ofChange lawS0152BModelWrong)

/-- 'qm.LawS0152BIdem': WHATEVER THE INPUT: true; the input reads as it did. -/
def lawS0152BIdemSpec : ChangeSpec := { name := "lawS0152BIdem", fn := fun _ => fun
  | [d1, d2] => { results := [.lit (.bool true)], args := [d1, d2] }
  | _ => none }
def lawS0152BIdemRow : OpenClaim := { program := "ybulkccw", sum := "5ffd2c10107430e46e2b38c8cff3084e2ef7ef091e7ec649b0efac932f10a457", func := "example.com/babelcat/babelcat/qm.LawS0152BIdem", spec := "lawS0152BIdem", inPlace := ["internal/bytealg.abigen_runtime_cmpstring"], unfollowed := true, recurses := true, apart := false }
def LawS0152BIdemSaid : Prop := lawS0152BIdemRow.holds Yba.pinned (OpenSpec.ofChange lawS0152BIdemSpec)

/-- ITS FALSE NEIGHBOUR: 'it returns false'. Refute it at one input. -/
def lawS0152BIdemWrong : ChangeSpec := { name := "lawS0152BIdem", fn := fun _ => fun
  | [d1, d2] => { results := [.lit (.bool false)], args := [d1, d2] }
  | _ => none }
def LawS0152BIdemWrongFalsely : Prop := lawS0152BIdemRow.holds Yba.pinned (OpenSpec.ofChange lawS0152BIdemWrong)

/-- 'elfhash.LawS0152CModel': WHATEVER THE INPUT: true; the input reads as it did. -/
def lawS0152CModelSpec : ChangeSpec := { name := "lawS0152CModel", fn := fun _ => fun
  | [d1, d2] => { results := [.lit (.bool true)], args := [d1, d2] }
  | _ => none }
def lawS0152CModelRow : OpenClaim := { program := "ybulkccw", sum := "5ffd2c10107430e46e2b38c8cff3084e2ef7ef091e7ec649b0efac932f10a457", func := "example.com/babelcat/babelcat/internal/elfhash.LawS0152CModel", spec := "lawS0152CModel", apart := false }
def LawS0152CModelSaid : Prop := lawS0152CModelRow.holds Yba.pinned (OpenSpec.ofChange lawS0152CModelSpec)

/-- ITS FALSE NEIGHBOUR: 'it returns false'. Refute it at one input. -/
def lawS0152CModelWrong : ChangeSpec := { name := "lawS0152CModel", fn := fun _ => fun
  | [d1, d2] => { results := [.lit (.bool false)], args := [d1, d2] }
  | _ => none }
def LawS0152CModelWrongFalsely : Prop := lawS0152CModelRow.holds Yba.pinned (OpenSpec.ofChange lawS0152CModelWrong)

/-- 'elfhash.LawS0152CConcat': WHATEVER THE INPUT: true; the input reads as it did. -/
def lawS0152CConcatSpec : ChangeSpec := { name := "lawS0152CConcat", fn := fun _ => fun
  | [d1, d2, d3] => { results := [.lit (.bool true)], args := [d1, d2, d3] }
  | _ => none }
def lawS0152CConcatRow : OpenClaim := { program := "ybulkccw", sum := "5ffd2c10107430e46e2b38c8cff3084e2ef7ef091e7ec649b0efac932f10a457", func := "example.com/babelcat/babelcat/internal/elfhash.LawS0152CConcat", spec := "lawS0152CConcat", apart := false }
def LawS0152CConcatSaid : Prop := lawS0152CConcatRow.holds Yba.pinned (OpenSpec.ofChange lawS0152CConcatSpec)

/-- ITS FALSE NEIGHBOUR: 'it returns false'. Refute it at one input. -/
def lawS0152CConcatWrong : ChangeSpec := { name := "lawS0152CConcat", fn := fun _ => fun
  | [d1, d2, d3] => { results := [.lit (.bool false)], args := [d1, d2, d3] }
  | _ => none }
def LawS0152CConcatWrongFalsely : Prop := lawS0152CConcatRow.holds Yba.pinned (OpenSpec.ofChange lawS0152CConcatWrong)

/-- 'elfhash.LawS0152CRange': WHATEVER THE INPUT: true; the input reads as it did. -/
def lawS0152CRangeSpec : ChangeSpec := { name := "lawS0152CRange", fn := fun _ => fun
  | [d1, d2] => { results := [.lit (.bool true)], args := [d1, d2] }
  | _ => none }
def lawS0152CRangeRow : OpenClaim := { program := "ybulkccw", sum := "5ffd2c10107430e46e2b38c8cff3084e2ef7ef091e7ec649b0efac932f10a457", func := "example.com/babelcat/babelcat/internal/elfhash.LawS0152CRange", spec := "lawS0152CRange", apart := false }
def LawS0152CRangeSaid : Prop := lawS0152CRangeRow.holds Yba.pinned (OpenSpec.ofChange lawS0152CRangeSpec)

/-- ITS FALSE NEIGHBOUR: 'it returns false'. Refute it at one input. -/
def lawS0152CRangeWrong : ChangeSpec := { name := "lawS0152CRange", fn := fun _ => fun
  | [d1, d2] => { results := [.lit (.bool false)], args := [d1, d2] }
  | _ => none }
def LawS0152CRangeWrongFalsely : Prop := lawS0152CRangeRow.holds Yba.pinned (OpenSpec.ofChange lawS0152CRangeWrong)

end Rows
end Go.Proofs.Ybulkccw
