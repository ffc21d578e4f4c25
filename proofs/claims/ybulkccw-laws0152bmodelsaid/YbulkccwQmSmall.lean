/- groupOf (22) and the closures 15, 24, 26. -/
import Derived.Test.YbulkccwQmPlain
import Derived.Shelf.SlSortCmp.QuietGrown
namespace Go.Proofs.Ybulkccw.qm
open Go Go.ChangeShapes Go.WideShapes Go.ChangeAt Go.RowKit
set_option linter.unusedVariables false

theorem group_calls (b o : Nat) (m : Msg) (w : World) (hb : b < w.heap.size) (h0 : w.cell? ⟨b, o, none⟩ = some (.string m.c)) (h1 : w.cell? ⟨b, o + 1, none⟩ = some (.string m.s)) :
    Calls Yba.prog 22 #[.pointer (some ⟨b, o, none⟩)] w fun e w' => e = .returned (.agg #[.string m.c, .string m.s]) ∧ ∃ q os', w' = Sort.grow (w.drewN q) os' := by
  go_enter Yba.func22, Yba.ntmps22
  go_wp2_with fail
  go_region
  all_goals
    go_wp2_with fail
    go_returns
    exact ⟨rfl, 1, _, grow1 w _⟩

theorem clo15_calls (p : Value) (w : World) : Calls Yba.prog 15 #[p] w fun e w' => e = .returned (.bool true) ∧ w' = w := by
  go_enter Yba.func15, Yba.ntmps15
  go_wp2
  go_ret
  exact ⟨rfl, rfl⟩

theorem clo24_calls (b box cap i : Nat) (ms : List Msg) (w : World) (hm : Ms w b ms) (hbox : w.cell? ⟨box, 0, none⟩ = some (.slice (some ⟨b, 0, none⟩) ms.length cap)) (hn : ms.length ≤ 1024) (hi : i < ms.length) :
    Calls Yba.prog 24 #[.int .i32 i, .pointer (some ⟨box, 0, none⟩)] w fun e w' => e = .returned (.bool (dE ms i)) ∧ ∃ q, w' = w.drewN q := by
  have ci := hm.d i hi
  have HD : Hid (dE ms i = (ms.getD i .zero).d.toList.isEmpty) := hide rfl
  generalize dE ms i = v at *
  generalize ms.getD i .zero = mi at *
  clear hm
  go_enter Yba.func24, Yba.ntmps24
  go_wp2
  go_ret
  exact ⟨by rw [HD.out]; rfl, 0, rfl⟩

theorem clo26_calls (b box bx2 cap i : Nat) (ms : List Msg) (w : World) (hm : Ms w b ms) (hbox : w.cell? ⟨box, 0, none⟩ = some (.slice (some ⟨b, 0, none⟩) ms.length cap)) (hf : w.cell? ⟨bx2, 0, none⟩ = some (.func (.func 15) #[] #[])) (hn : ms.length ≤ 1024) (hi : i < ms.length) :
    Calls Yba.prog 26 #[.int .i32 i, .pointer (some ⟨bx2, 0, none⟩), .pointer (some ⟨box, 0, none⟩)] w fun e w' => e = .returned (.bool true) ∧ ∃ q, w' = w.drewN q := by
  clear hm
  go_enter Yba.func26, Yba.ntmps26
  go_wp2_with fail
  go_quiet (exact (clo15_calls _ _).mono (fun e w' ⟨he, hw⟩ => ⟨he, _, hw⟩))
  all_goals
    go_wp2_with fail
    go_ret
    exact ⟨rfl, _, rfl⟩
end Go.Proofs.Ybulkccw.qm
