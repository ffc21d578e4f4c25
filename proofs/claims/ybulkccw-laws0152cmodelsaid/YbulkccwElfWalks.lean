/- The walks of 'elfhash.Update' (function 12) and of the law's own model (function 13): each computes its plain function. -/
import Derived.Test.YbulkccwRows
import Derived.Test.YbulkccwElfPlain
import Derived.WalkKit
import Derived.ProofKit
namespace Go.Proofs.Ybulkccw.elf
open Go.ChangeShapes Go.WideShapes Go.ChangeAt Go.RowKit

theorem hide {p : Prop} (h : p) : Hid p := h
theorem ret_int {k : IntKind} {a b : Int} (h : a = b) : Ending.returned (.int k a) = .returned (.int k b) := by rw [h]
theorem val_int {k : IntKind} {a b : Int} (h : a = b) : Value.int k a = .int k b := by rw [h]

theorem upd_yes (y c : Int) (h : (bits .and .u32 ((y * 16 + c) % 4294967296) 4026531840 != 0) = true) :
    bits .andNot .u32 (bits .xor .u32 ((y * 16 + c) % 4294967296) (bits .and .u32 ((y * 16 + c) % 4294967296) 4026531840 / 16777216)) (bits .and .u32 ((y * 16 + c) % 4294967296) 4026531840) = updStep y c := by
  unfold updStep; rw [if_pos h]
theorem upd_no (y c : Int) (h : (bits .and .u32 ((y * 16 + c) % 4294967296) 4026531840 != 0) = false) :
    bits .andNot .u32 ((y * 16 + c) % 4294967296) (bits .and .u32 ((y * 16 + c) % 4294967296) 4026531840) = updStep y c := by
  unfold updStep; rw [if_neg (by rw [h]; decide)]

set_option maxHeartbeats 400000 in
theorem update_calls (h : Int) (s : ByteArray) (w : World) (h0 : 0 ≤ h) (h1 : h < 4294967296) (hs : s.size ≤ maxLen) :
    Calls Yba.prog 12 #[.int .u32 h, .string s] w fun e w' => e = .returned (.int .u32 (upd h s.data.toList)) ∧ w = w' := by
  unfold maxLen at hs
  go_enter Yba.func12, Yba.ntmps12
  go_wp2
  go_loop [0, 5] (fun x i => ∃ (k : Nat) (y : Int), k ≤ s.size ∧ i = .int .i64 k ∧ x = .int .u32 y ∧ 0 ≤ y ∧ y < 4294967296 ∧ Hid (y = upd h (s.data.toList.take k))) (fun _ i => s.size - (intOf i).toNat)
  case atStart => exact ⟨0, h, Nat.zero_le _, rfl, rfl, h0, h1, hide rfl⟩
  case round =>
    obtain ⟨k, y, hk, rfl, rfl, hy0, hy1, HY⟩ := hrel
    by_cases hlt : k < s.size
    · have HN : Hid (upd h (s.data.toList.take (k + 1)) = updStep y (s[k].toNat : Int)) := hide (by rw [take_snoc s k hlt, upd_snoc, ← HY.out])
      have hw1 := upd_wf h (s.data.toList.take (k + 1)) h0 h1
      go_wp2
      · have hv := upd_yes y (s[k].toNat : Int) ‹_›
        go_round
        case rel => exact ⟨k + 1, upd h (s.data.toList.take (k + 1)), by omega, by go_num, val_int (by rw [HN.out]; exact hv), hw1.1, hw1.2, hide rfl⟩
        case measure => simp [intOf]; omega
      · have hv := upd_no y (s[k].toNat : Int) ‹_›
        go_round
        case rel => exact ⟨k + 1, upd h (s.data.toList.take (k + 1)), by omega, by go_num, val_int (by rw [HN.out]; exact hv), hw1.1, hw1.2, hide rfl⟩
        case measure => simp [intOf]; omega
    · go_wp2
      go_ret
      exact ⟨ret_int (by rw [HY.out, List.take_of_length_le (by simp; omega)]), rfl⟩

set_option maxHeartbeats 400000 in
theorem model_calls (h : Int) (s : ByteArray) (w : World) (h0 : 0 ≤ h) (h1 : h < 4294967296) (hs : s.size ≤ maxLen) :
    Calls Yba.prog 13 #[.int .u32 h, .string s] w fun e w' => e = .returned (.int .u32 (mdl h s.data.toList)) ∧ w = w' := by
  unfold maxLen at hs
  go_enter Yba.func13, Yba.ntmps13
  go_wp2
  go_loop [5, 6, 7] (fun x i _ => ∃ (k : Nat) (y : Int), k ≤ s.size ∧ i = .int .i64 k ∧ x = .int .u32 y ∧ 0 ≤ y ∧ y < 4294967296 ∧ Hid (y = mdl h (s.data.toList.take k))) (fun _ i _ => s.size - (intOf i).toNat)
  case atStart => exact ⟨0, h, Nat.zero_le _, rfl, rfl, h0, h1, hide rfl⟩
  case round =>
    obtain ⟨k, y, hk, rfl, rfl, hy0, hy1, HY⟩ := hrel
    by_cases hlt : k < s.size
    · have HN : Hid (mdl h (s.data.toList.take (k + 1)) = modStep y (s[k].toNat : Int)) := hide (by rw [take_snoc s k hlt, mdl_snoc, ← HY.out])
      have hw1 := mdl_wf h (s.data.toList.take (k + 1)) h0 h1
      go_wp2
      go_round
      case rel => exact ⟨k + 1, mdl h (s.data.toList.take (k + 1)), by omega, by go_num, val_int (by rw [HN.out]; rfl), hw1.1, hw1.2, hide rfl⟩
      case measure => simp [intOf]; omega
    · go_wp2
      go_ret
      exact ⟨ret_int (by rw [HY.out, List.take_of_length_le (by simp; omega)]), rfl⟩
end Go.Proofs.Ybulkccw.elf
