/- The order by which disambiguatedFirsts sorts (functions 18, 19, 20, 21). -/
import Derived.Test.YbulkccwQmRow
import Derived.Test.YbulkccwShelf
import Derived.BigRegion
import Derived.BigQuiet
import Derived.Deep.QuietTactic
import Derived.Deep.RegionHeld3
import Derived.Deep.Cut
import Derived.Deep.DeepCutAuto
namespace Go.Proofs.Ybulkccw.qm
open Go Go.ChangeShapes Go.WideShapes Go.ChangeAt Go.RowKit
set_option linter.unusedVariables false

def cmpI (a b : Int) : Int := if a < b then -1 else if b < a then 1 else 0

theorem cmp21_calls (a b : Int) (w : World) : Calls Yba.prog 21 #[.int .i32 a, .int .i32 b] w fun e w' => e = .returned (.int .i64 (cmpI a b)) ∧ w' = w := by
  by_cases h1 : a < b
  · have hc : cmpI a b = -1 := if_pos h1
    go_enter Yba.func21, Yba.ntmps21
    go_wp2
    go_ret
    exact ⟨by first | rfl | (rw [hc]; rfl), rfl⟩
  · by_cases h2 : b < a
    · have hc : cmpI a b = 1 := (if_neg h1).trans (if_pos h2)
      go_enter Yba.func21, Yba.ntmps21
      go_wp2
      go_ret
      exact ⟨by first | rfl | (rw [hc]; rfl), rfl⟩
    · have hc : cmpI a b = 0 := (if_neg h1).trans (if_neg h2)
      go_enter Yba.func21, Yba.ntmps21
      go_wp2
      go_ret
      exact ⟨by first | rfl | (rw [hc]; rfl), rfl⟩

def or3 (x y z : Int) : Int := if x ≠ 0 then x else if y ≠ 0 then y else z

theorem or_calls (b cap : Nat) (x y z : Int) (w : World) (h0 : w.cell? ⟨b, 0, none⟩ = some (.int .i64 x)) (h1 : w.cell? ⟨b, 1, none⟩ = some (.int .i64 y)) (h2 : w.cell? ⟨b, 2, none⟩ = some (.int .i64 z)) :
    Calls Yba.prog 19 #[.slice (some ⟨b, 0, none⟩) 3 cap] w fun e w' => e = .returned (.int .i64 (or3 x y z)) ∧ w' = w := by
  by_cases hx : x = 0
  · subst hx
    by_cases hy : y = 0
    · subst hy
      by_cases hz : z = 0
      · subst hz
        go_enter Yba.func19, Yba.ntmps19
        go_wp2_with fail
        go_rounds 4
        go_ret
        exact ⟨rfl, rfl⟩
      · have ho : or3 0 0 z = z := rfl
        go_enter Yba.func19, Yba.ntmps19
        go_wp2_with fail
        go_rounds 4
        go_ret
        exact ⟨rfl, rfl⟩
    · have ho : or3 0 y z = y := by simp [or3, hy]
      go_enter Yba.func19, Yba.ntmps19
      go_wp2_with fail
      go_rounds 4
      go_ret
      exact ⟨by first | rfl | (rw [ho]; rfl), rfl⟩
  · have ho : or3 x y z = x := by simp [or3, hx]
    go_enter Yba.func19, Yba.ntmps19
    go_wp2_with fail
    go_rounds 4
    go_ret
    exact ⟨by first | rfl | (rw [ho]; rfl), rfl⟩

theorem grow1 (w : World) (o : Obj) : w.drew.alloc o = Sort.grow (w.drewN 1) #[o] := by
  show ({ w with drawn := w.drawn + 1, heap := w.heap.push o } : World) = { w with drawn := w.drawn + 1, heap := w.heap ++ #[o] }
  rw [Array.push_eq_append]

/-- How two places compare: context, source, place. -/
def cf (ms : List Msg) (i j : Nat) : Int :=
  or3 (Lib.compareBytes (ms.getD i .zero).c.data.toList (ms.getD j .zero).c.data.toList) (Lib.compareBytes (ms.getD i .zero).s.data.toList (ms.getD j .zero).s.data.toList) (cmpI i j)

set_option maxHeartbeats 4000000 in
theorem clo18_calls (b box cap i j : Nat) (ms : List Msg) (w : World) (hm : Ms w b ms) (hb : b < w.heap.size) (hbox : w.cell? ⟨box, 0, none⟩ = some (.slice (some ⟨b, 0, none⟩) ms.length cap)) (hxb : box < w.heap.size)
    (hn : ms.length ≤ 1024) (hi : i < ms.length) (hj : j < ms.length) :
    Calls Yba.prog 18 #[.int .i32 i, .int .i32 j, .pointer (some ⟨box, 0, none⟩)] w fun e w' => e = .returned (.int .i64 (cf ms i j)) ∧ ∃ q os', w' = Sort.grow (w.drewN q) os' := by
  have ci := hm.c i hi
  have si := hm.s i hi
  have cj := hm.c j hj
  have sj := hm.s j hj
  obtain ⟨v, hv⟩ : ∃ v, cf ms i j = v := ⟨_, rfl⟩
  have HC := hide (show v = or3 (Lib.compareBytes (ms.getD i .zero).c.data.toList (ms.getD j .zero).c.data.toList) (Lib.compareBytes (ms.getD i .zero).s.data.toList (ms.getD j .zero).s.data.toList) (cmpI i j) from hv.symm)
  rw [hv]
  clear hv
  generalize ms.getD i .zero = mi at *
  generalize ms.getD j .zero = mj at *
  clear hm
  go_enter Yba.func18, Yba.ntmps18
  go_wp2_with fail
  go_region_held3 (fun w' => w'.cell? ⟨box, 0, none⟩ = some (.slice (some ⟨b, 0, none⟩) ms.length cap) ∧ w'.cell? ⟨b, i * 15, none⟩ = some (.string mi.c) ∧ w'.cell? ⟨b, i * 15 + 1, none⟩ = some (.string mi.s) ∧ w'.cell? ⟨b, j * 15, none⟩ = some (.string mj.c) ∧ w'.cell? ⟨b, j * 15 + 1, none⟩ = some (.string mj.s))
    (go_keep)
    (first
      | (go_at_call 20; refine (Yba.strings_Compare _ _ _).mono ?_; rintro e w' ⟨rfl, rfl⟩)
      | (go_at_call 21; refine (cmp21_calls _ _ _).mono ?_; rintro e w' ⟨rfl, rfl⟩)
      | (go_at_call 19; refine (or_calls _ _ (Lib.compareBytes mi.c.data.toList mj.c.data.toList) (Lib.compareBytes mi.s.data.toList mj.s.data.toList) (cmpI i j) _ (by simp) (by simp) (by simp)).mono ?_; rintro e w' ⟨rfl, rfl⟩))
  all_goals
    go_wp2_with fail
    go_ret
    exact ⟨by rw [HC.out]; rfl, 1, _, grow1 _ _⟩
end Go.Proofs.Ybulkccw.qm
