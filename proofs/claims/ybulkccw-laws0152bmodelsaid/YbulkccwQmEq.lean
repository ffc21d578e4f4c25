/- The walk of zzs0152beq (function 11) at two messages that are alike. -/
import Derived.Test.YbulkccwQmBase
import Derived.WalkLawsBesides
import Derived.BigQuiet
import Derived.Deep.QuietTactic
namespace Go.Proofs.Ybulkccw.qm
open Go Go.ChangeShapes Go.WideShapes Go.ChangeAt Go.RowKit
set_option linter.unusedVariables false

set_option maxRecDepth 100000 in
set_option maxHeartbeats 2000000 in
theorem eq_calls (b1 o1 b2 o2 : Nat) (m : Msg) (w : World) (h1 : ∀ i, i < 15 → w.cell? ⟨b1, o1 + i, none⟩ = (mcells m)[i]?) (h2 : ∀ i, i < 15 → w.cell? ⟨b2, o2 + i, none⟩ = (mcells m)[i]?) :
    Calls Yba.prog 11 #[.pointer (some ⟨b1, o1, none⟩), .pointer (some ⟨b2, o2, none⟩)] w fun e w' => e = .returned (.bool true) ∧ ∃ n, w' = w.drewN n := by
  have a0 : w.cell? ⟨b1, o1, none⟩ = some (.string m.c) := h1 0 (by decide)
  have a1 : w.cell? ⟨b1, o1 + 1, none⟩ = some (.string m.s) := h1 1 (by decide)
  have a2 : w.cell? ⟨b1, o1 + 2, none⟩ = some (.string ⟨#[]⟩) := h1 2 (by decide)
  have a3 : w.cell? ⟨b1, o1 + 3, none⟩ = some (.string m.d) := h1 3 (by decide)
  have a4 : w.cell? ⟨b1, o1 + 4, none⟩ = some (.bool false) := h1 4 (by decide)
  have a10 : w.cell? ⟨b1, o1 + 10, none⟩ = some (.bool false) := h1 10 (by decide)
  have a11 : w.cell? ⟨b1, o1 + 11, none⟩ = some (.slice none 0 0) := h1 11 (by decide)
  have a12 : w.cell? ⟨b1, o1 + 12, none⟩ = some (.int .i64 m.t) := h1 12 (by decide)
  have c0 : w.cell? ⟨b2, o2, none⟩ = some (.string m.c) := h2 0 (by decide)
  have c1 : w.cell? ⟨b2, o2 + 1, none⟩ = some (.string m.s) := h2 1 (by decide)
  have c2 : w.cell? ⟨b2, o2 + 2, none⟩ = some (.string ⟨#[]⟩) := h2 2 (by decide)
  have c3 : w.cell? ⟨b2, o2 + 3, none⟩ = some (.string m.d) := h2 3 (by decide)
  have c4 : w.cell? ⟨b2, o2 + 4, none⟩ = some (.bool false) := h2 4 (by decide)
  have c10 : w.cell? ⟨b2, o2 + 10, none⟩ = some (.bool false) := h2 10 (by decide)
  have c11 : w.cell? ⟨b2, o2 + 11, none⟩ = some (.slice none 0 0) := h2 11 (by decide)
  have c12 : w.cell? ⟨b2, o2 + 12, none⟩ = some (.int .i64 m.t) := h2 12 (by decide)
  clear h1 h2
  go_enter Yba.func11, Yba.ntmps11
  go_wp2_with fail
  go_quiet (fail)
  go_wp2_with fail
  go_ret
  exact ⟨rfl, _, rfl⟩
end Go.Proofs.Ybulkccw.qm
