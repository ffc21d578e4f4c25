/- The walk of zzs0152bfirst (function 10). -/
import Derived.Test.YbulkccwQmBase
import Derived.BigQuiet
import Derived.Deep.QuietTactic
import Derived.WalkLawsBesides
namespace Go.Proofs.Ybulkccw.qm
open Go Go.ChangeShapes Go.WideShapes Go.ChangeAt Go.RowKit
set_option linter.unusedVariables false

/-- Same context and source? -/
def same (a b : Msg) : Bool := a.c.toList == b.c.toList && a.s.toList == b.s.toList

/-- 'zzs0152bfirst' from place j on: is i the lowest of its group, and has every message of the group a disambiguation? -/
def firstFrom (ms : List Msg) (i : Nat) : Nat → Nat → Bool
  | 0, _ => true
  | k + 1, j => if same (ms.getD j .zero) (ms.getD i .zero) then (if j < i then false else if (ms.getD j .zero).d.toList.isEmpty then false else firstFrom ms i k (j + 1)) else firstFrom ms i k (j + 1)
def first (ms : List Msg) (i : Nat) : Bool := firstFrom ms i ms.length 0

theorem ff_step (ms : List Msg) (i k : Nat) (hk : k < ms.length) : firstFrom ms i (ms.length - k) k =
    if same (ms.getD k .zero) (ms.getD i .zero) then (if k < i then false else if (ms.getD k .zero).d.toList.isEmpty then false else firstFrom ms i (ms.length - (k + 1)) (k + 1)) else firstFrom ms i (ms.length - (k + 1)) (k + 1) := by
  obtain ⟨r, hr⟩ : ∃ r, ms.length - k = r + 1 := ⟨ms.length - k - 1, by omega⟩
  rw [hr, show ms.length - (k + 1) = r by omega]; rfl

set_option maxHeartbeats 1000000 in
theorem first_calls (b cap i : Nat) (ms : List Msg) (w : World) (hm : Ms w b ms) (hb : b < w.heap.size) (hn : ms.length ≤ 1024) (hi : i < ms.length) :
    Calls Yba.prog 10 #[.slice (some ⟨b, 0, none⟩) ms.length cap, .int .i64 i] w fun e w' => e = .returned (.bool (first ms i)) ∧ Out NoOne w w' := by
  have ci := hm.c i hi
  have si := hm.s i hi
  go_enter Yba.func10, Yba.ntmps10
  go_wp2_with fail
  go_loopw [5] (fun j wr => ∃ k : Nat, k ≤ ms.length ∧ j = .int .i64 k ∧ Hid (first ms i = firstFrom ms i (ms.length - k) k) ∧ Out NoOne w wr) (fun j _ => ms.length - (intOf j).toNat)
  case atStart => exact ⟨0, Nat.zero_le _, rfl, hide rfl, Out.refl _ _⟩
  case round =>
    obtain ⟨k, hk, rfl, HF, hout⟩ := hrel
    by_cases hlt : k < ms.length
    · have hmr := hm.out hout hb (fun f => f)
      have ck := hmr.c k hlt
      have sk := hmr.s k hlt
      have dk := hmr.d k hlt
      have ci' := hmr.c i hi
      have si' := hmr.s i hi
      clear ci si hmr
      have HO := hide hout
      clear hout
      have HS := hide (ff_step ms i k hlt)
      generalize ms.getD k .zero = mk at *
      generalize ms.getD i .zero = mi at *
      by_cases h1 : (mk.c.toList == mi.c.toList) = true
      · have h1' : (mk.c.toList != mi.c.toList) = false := by simp [bne, h1]
        by_cases h2 : (mk.s.toList == mi.s.toList) = true
        · have h2' : (mk.s.toList != mi.s.toList) = false := by simp [bne, h2]
          have hs : same mk mi = true := by unfold same; rw [h1, h2]; rfl
          by_cases h3 : k < i
          · have HE := hide (show first ms i = false by rw [HF.out, HS.out, if_pos hs, if_pos h3])
            clear hs
            go_wp2_with fail
            go_quiet (fail)
            go_wp2_with fail
            go_ret
            exact ⟨ret_bool HE.out.symm, HO.out.drewN _⟩
          · by_cases h4 : mk.d.toList.isEmpty = true
            · have HE := hide (show first ms i = false by rw [HF.out, HS.out, if_pos hs, if_neg h3, if_pos h4])
              clear hs
              go_wp2_with fail
              go_quiet (fail)
              go_wp2_with fail
              go_ret
              exact ⟨ret_bool HE.out.symm, HO.out.drewN _⟩
            · have HE := hide (show first ms i = firstFrom ms i (ms.length - (k + 1)) (k + 1) by rw [HF.out, HS.out, if_pos hs, if_neg h3, if_neg h4])
              have h4' : mk.d.toList.isEmpty = false := by simpa using h4
              clear hs h4
              go_wp2_with fail
              go_quiet (fail)
              go_wp2_with fail
              go_roundw
              case rel => exact ⟨k + 1, by omega, by go_num, HE, HO.out.drewN _⟩
              case measure => simp [intOf]; omega
        · have h2' : (mk.s.toList != mi.s.toList) = true := by simp [bne]; simpa using h2
          have h2 : (mk.s.toList == mi.s.toList) = false := by simpa using h2
          have hs : ¬ same mk mi = true := by unfold same; rw [h1, h2]; simp
          have HE := hide (show first ms i = firstFrom ms i (ms.length - (k + 1)) (k + 1) by rw [HF.out, HS.out, if_neg hs])
          clear hs
          go_wp2_with fail
          go_quiet (fail)
          go_wp2_with fail
          go_roundw
          case rel => exact ⟨k + 1, by omega, by go_num, HE, HO.out.drewN _⟩
          case measure => simp [intOf]; omega
      · have h1' : (mk.c.toList != mi.c.toList) = true := by simp [bne]; simpa using h1
        have h1 : (mk.c.toList == mi.c.toList) = false := by simpa using h1
        have hs : ¬ same mk mi = true := by unfold same; rw [h1]; simp
        have HE := hide (show first ms i = firstFrom ms i (ms.length - (k + 1)) (k + 1) by rw [HF.out, HS.out, if_neg hs])
        clear hs
        go_wp2_with fail
        go_quiet (fail)
        go_wp2_with fail
        go_roundw
        case rel => exact ⟨k + 1, by omega, by go_num, HE, HO.out.drewN _⟩
        case measure => simp [intOf]; omega
    · have HE := hide (show first ms i = true by rw [HF.out, show ms.length - k = 0 by omega]; rfl)
      have HO := hide hout
      clear hout
      go_wp2_with fail
      go_ret
      exact ⟨ret_bool HE.out.symm, HO.out⟩
end Go.Proofs.Ybulkccw.qm
