/- The walks of check.leadingDigits (function 5) and of the law's own digit test (function 6). -/
import Derived.Test.YbulkcfoRows
import Derived.WalkKit
import Derived.ProofKit
import Derived.RegionTactic
import Derived.Deep.QuietTactic
import Derived.BigQuiet
import Derived.Below
namespace Go.Proofs.Ybulkcfo.split
open Go.ChangeShapes Go.WideShapes Go.ChangeAt Go.RowKit

set_option maxHeartbeats 1000000 in
theorem lead_calls (b off len cap : Nat) (z : Nat → Int) (w : World) (hl : len ≤ cap) (hm : cap ≤ maxLen)
    (hc : ∀ i, i < len → w.cell? ⟨b, off + i, none⟩ = some (.int .u8 (z i))) (hz : ∀ i, 0 ≤ z i ∧ z i ≤ 255) :
    Calls Yba.prog 5 #[.slice (some ⟨b, off, none⟩) len cap] w fun e w' => ∃ k o, k ≤ len ∧ (k < len → o = off + k) ∧ (∀ j, j < k → 48 ≤ z j ∧ z j ≤ 57) ∧ (k < len → ¬ (48 ≤ z k ∧ z k ≤ 57)) ∧
      e = .returned (.tuple #[.slice (some ⟨b, off, none⟩) k cap, .slice (some ⟨b, o, none⟩) (len - k) (cap - k)]) ∧ ∃ n, w' = w.drewN n := by
  unfold maxLen at hm
  go_enter Yba.func5, Yba.ntmps5
  go_wp2
  go_loop [4] (fun i => ∃ k : Nat, k ≤ len ∧ i = .int .i64 k ∧ Hid (∀ j, j < k → 48 ≤ z j ∧ z j ≤ 57)) (fun i => len - (intOf i).toNat)
  case atStart => exact ⟨0, Nat.zero_le _, rfl, fun j hj => absurd hj (Nat.not_lt_zero j)⟩
  case round =>
    obtain ⟨k, hk, rfl, HK⟩ := hrel
    by_cases hlt : k < len
    · have hck := hc k hlt
      have hzk := hz k
      by_cases h1 : 48 ≤ z k
      · by_cases h2 : z k ≤ 57
        · clear hc hz
          go_wp2
          go_round
          case rel =>
            refine ⟨k + 1, by omega, by go_num, fun j hj => ?_⟩
            by_cases e : j = k
            · subst e; exact ⟨h1, h2⟩
            · exact HK.out j (by omega)
          case measure => simp [intOf]; omega
        · clear hc hz
          go_wp2
          go_region
          go_wp2
          go_ret2
          exact ⟨k, off + k, hk, fun _ => rfl, HK.out, fun _ h => by omega, rfl, 1, rfl⟩
      · clear hc hz
        go_wp2
        go_region
        go_wp2
        go_ret2
        exact ⟨k, off + k, hk, fun _ => rfl, HK.out, fun _ h => by omega, rfl, 1, rfl⟩
    · clear hc hz
      by_cases hkc : k < cap
      · go_wp2
        go_region
        go_wp2
        go_ret2
        exact ⟨k, off + k, hk, fun h => absurd h hlt, HK.out, fun h => absurd h hlt, rfl, 1, rfl⟩
      · obtain rfl : k = cap := by omega
        obtain rfl : len = k := by omega
        go_wp2
        go_region
        go_wp2
        go_ret2
        exact ⟨len, off, Nat.le_refl _, fun h => absurd h hlt, HK.out, fun h => absurd h hlt, by simp, 1, rfl⟩

theorem lead_zero (a : Option Addr) (w : World) :
    Calls Yba.prog 5 #[.slice a 0 0] w fun e w' => e = .returned (.tuple #[.slice a 0 0, .slice a 0 0]) ∧ ∃ n, w' = w.drewN n := by
  cases a
  all_goals
    go_enter Yba.func5, Yba.ntmps5
    go_wp2
    go_loop [4] (fun i => i = .int .i64 0) (fun _ => 0)
    case atStart => rfl
    case round =>
      subst hrel
      go_wp2
      go_region
      go_wp2
      go_ret2
      exact ⟨rfl, 1, rfl⟩

/-- 'zzs0157bdigit': is the byte an ASCII digit? -/
def digB (c : Int) : Bool := decide (48 ≤ c) && decide (c ≤ 57)
theorem digit_calls (c : Int) (w : World) : Calls Yba.prog 6 #[.int .u8 c] w fun e w' => e = .returned (.bool (digB c)) ∧ w' = w := by
  by_cases h1 : 48 ≤ c
  · by_cases h2 : c ≤ 57
    · go_enter Yba.func6, Yba.ntmps6
      go_wp2
      go_ret
      exact ⟨by simp [digB, h1, h2], rfl⟩
    · go_enter Yba.func6, Yba.ntmps6
      go_wp2
      go_ret
      exact ⟨by simp [digB]; omega, rfl⟩
  · go_enter Yba.func6, Yba.ntmps6
    go_wp2
    go_ret
    exact ⟨by simp [digB]; omega, rfl⟩
end Go.Proofs.Ybulkcfo.split
