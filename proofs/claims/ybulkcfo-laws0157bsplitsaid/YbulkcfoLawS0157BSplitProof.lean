/-
  The proof of 'Rows.LawS0157BSplitSaid'. The frame is the shell's (written by program off the guide's print); the walk is filled in.
-/
import Derived.Test.YbulkcfoRows
import Derived.WalkSmall
import Derived.Test.YbulkcfoWalks
import Derived.WalkKit
import Derived.ProofKit
import Derived.OpenShut
import Derived.ShutString
import Derived.ChangeOld
import Derived.Below
namespace Go.Proofs.Ybulkcfo.lawS0157BSplit
open Go.ChangeShapes Go.WideShapes Go.ChangeAt Go.RowKit
open Go.ChangeMaps (open_string shut_string)
set_option linter.unusedVariables false

theorem own : ownKnob Yba.prog.godebug = none := by kernel_rfl
theorem laidOut : laidOutB Yba.prog = true := by kernel_rfl

/-- WHAT THE WALK IS TOLD OF A SLICE OF INTEGERS THAT CAME IN: it is nil; or it leads to a row of 'cap' cells, the numbers 'zs' (the first 'len' are its elements, the rest its spare room), each fitting its kind. -/
def IsRow (k : IntKind) (w : World) (a : Option Addr) (len cap : Nat) (zs : List Int) : Prop :=
  (a = none ∧ len = 0 ∧ cap = 0 ∧ zs = []) ∨
  ∃ x, a = some x ∧ len ≤ cap ∧ cap ≤ maxLen ∧ zs.length = cap ∧ (∀ i, i < zs.length → w.cell? (x.add i) = some (.int k (zs.getD i 0))) ∧ ∀ n ∈ zs, (Lit.int k n).wf = true

theorem digB_yes {c : Int} (h : 48 ≤ c ∧ c ≤ 57) : split.digB c = true := by simp [split.digB]; omega
theorem digB_no {c : Int} (h : ¬ (48 ≤ c ∧ c ≤ 57)) : split.digB c = false := by simp [split.digB]; omega
/-- The world behind draws alone: nothing has turned, and the row reads as it did. -/
def Still (b off len : Nat) (z : Nat → Int) (w w' : World) : Prop :=
  Below w.heap.size w w' ∧ ∀ i, i < len → w'.cell? ⟨b, off + i, none⟩ = some (.int .u8 (z i))
theorem Still.drewN {b off len : Nat} {z : Nat → Int} {w w' : World} (h : Still b off len z w w') (n : Nat) : Still b off len z w (w'.drewN n) :=
  ⟨below_drewN h.1 n, h.2⟩

set_option maxHeartbeats 2000000 in
theorem walk_row (b off len cap : Nat) (z : Nat → Int) (w : World) (hl : len ≤ cap) (hm : cap ≤ maxLen) (h4 : len ≤ 4096)
    (hc : ∀ i, i < len → w.cell? ⟨b, off + i, none⟩ = some (.int .u8 (z i))) (hz : ∀ i, 0 ≤ z i ∧ z i ≤ 255) :
    Calls Yba.prog 3 #[.slice (some ⟨b, off, none⟩) len cap] w fun e w' => e = .returned (.bool true) ∧ Below w.heap.size w w' := by
  have hm' := hm
  unfold maxLen at hm'
  have h9 : decide (4096 < (len : Int)) = false := by simp; omega
  have HS : Still b off len z w w := ⟨Below.refl _ _, hc⟩
  go_enter Yba.func3, Yba.ntmps3
  go_wp2_with fail
  refine (split.lead_calls b off len cap z _ hl hm hc hz).mono ?_
  rintro e w1 ⟨k, o, hk, ho, hdig, hnd, rfl, n, rfl⟩
  have hlen : (((k : Int) + ((len - k : Nat) : Int)) != (len : Int)) = false := by simp; omega
  have HD : Hid (∀ j, j < k → 48 ≤ z j ∧ z j ≤ 57) := hdig
  have HN : Hid (k < len → ¬ (48 ≤ z k ∧ z k ≤ 57)) := hnd
  have HO : Hid (k < len → o = off + k) := ho
  clear hc hdig hnd ho hz hm
  go_wp2_with fail
  go_loopw [5] (fun i w' => ∃ (j : Nat), j ≤ k ∧ i = .int .i64 j ∧ Still b off len z w w') (fun i _ => k - (intOf i).toNat)
  case atStart => exact ⟨0, Nat.zero_le _, rfl, HS.drewN n⟩
  case round =>
    obtain ⟨j, hj, rfl, HR⟩ := hrel
    by_cases hlt : j < k
    · have hcj := HR.2 j (by omega)
      have hd := digB_yes (HD.out j hlt)
      have hnn : (z j != z j) = false := by simp
      go_wp2_with fail
      go_quiet ((go_at_call 6; exact Calls.quiet_of_same (split.digit_calls _ _)))
      go_wp2_with fail
      go_roundw
      case rel => exact ⟨j + 1, by omega, by go_num, HR.drewN _⟩
      case measure => simp [intOf]; omega
    · go_wp2_with fail
      obtain ⟨wo, rfl⟩ : ∃ wo : World, wo = wr := ⟨_, rfl⟩
      go_loopw [6] (fun i w' => ∃ (j : Nat), j ≤ len - k ∧ i = .int .i64 j ∧ Still b off len z w w') (fun i _ => (len - k) - (intOf i).toNat)
      case atStart => exact ⟨0, Nat.zero_le _, rfl, HR⟩
      case round =>
        obtain ⟨i, hi, rfl, HR2⟩ := hrel
        by_cases hlt2 : i < len - k
        · obtain rfl : o = off + k := HO.out (by omega)
          have hcj := HR2.2 (k + i) (by omega)
          have hcj' : wr.cell? ⟨b, off + k + i, none⟩ = some (.int .u8 (z (k + i))) := by rw [Nat.add_assoc]; exact hcj
          have hnn : (z (k + i) != z (k + i)) = false := by simp
          go_wp2_with fail
          go_quiet (fail)
          go_wp2_with fail
          go_roundw
          case rel => exact ⟨i + 1, by omega, by go_num, HR2.drewN _⟩
          case measure => simp [intOf]; omega
        · by_cases hkl : k < len
          · obtain rfl : o = off + k := HO.out (by omega)
            have hcj := HR2.2 k (by omega)
            have hd := digB_no (HN.out hkl)
            go_wp2_with fail
            refine (split.digit_calls _ _).mono ?_
            rintro e w' ⟨rfl, rfl⟩
            go_wp2_with fail
            go_ret
            exact ⟨rfl, HR2.1⟩
          · go_wp2_with fail
            go_ret
            exact ⟨rfl, HR2.1⟩

theorem walk_zero (a : Option Addr) (w : World) :
    Calls Yba.prog 3 #[.slice a 0 0] w fun e w' => e = .returned (.bool true) ∧ Below w.heap.size w w' := by
  have HS : Below w.heap.size w w := Below.refl _ _
  go_enter Yba.func3, Yba.ntmps3
  go_wp2_with fail
  refine (split.lead_zero a _).mono ?_
  rintro e w1 ⟨rfl, n, rfl⟩
  go_wp2_with fail
  go_loopw [5] (fun i w' => i = .int .i64 0 ∧ Below w.heap.size w w') (fun _ _ => 0)
  case atStart => exact ⟨rfl, below_drewN HS n⟩
  case round =>
    obtain ⟨rfl, HR⟩ := hrel
    go_wp2_with fail
    obtain ⟨wo, rfl⟩ : ∃ wo : World, wo = wr := ⟨_, rfl⟩
    go_loopw [6] (fun i w' => i = .int .i64 0 ∧ Below w.heap.size w w') (fun _ _ => 0)
    case atStart => exact ⟨rfl, HR⟩
    case round =>
      obtain ⟨rfl, HR2⟩ := hrel
      go_wp2_with fail
      go_ret
      exact ⟨rfl, HR2⟩

/-! ### STEP 1: THE WALK: the Go text returns true, AND WRITES NOTHING THAT WAS THERE: 'Below w.heap.size w w'' (Derived/Below.lean: '.refl', '.alloc', '.drew', '.setCell' at a new block, '.trans'). Open each 'IsRow' by 'rcases' AHEAD of 'go_enter'; part every test ahead of the walk. -/
set_option maxHeartbeats 2000000 in
theorem walk (a0 : Option Addr) (len0 cap0 : Nat) (z0 : List Int) (w : World) (w0 : IsRow .u8 w a0 len0 cap0 z0) :
    Calls Yba.prog 3 #[.slice a0 len0 cap0] w fun e w' => e = .returned (.bool true) ∧ Below w.heap.size w w' := by
  by_cases h4 : len0 ≤ 4096
  · rcases w0 with ⟨rfl, rfl, rfl, rfl⟩ | ⟨x, rfl, hl, hm, hz, hc, hwf⟩
    · exact walk_zero none w
    · by_cases hp : 0 < z0.length
      · obtain ⟨b, off, rfl, hc'⟩ := ints_at hc hp
        refine walk_row b off len0 cap0 (fun i => z0.getD i 0) w hl hm h4 (fun i hi => hc' i (by omega)) (fun i => ?_)
        have := range_u8 hwf i
        simpa [List.getD_eq_getElem?_getD] using this
      · obtain rfl : cap0 = 0 := by omega
        obtain rfl : len0 = 0 := by omega
        exact walk_zero (some x) w
  · go_enter Yba.func3, Yba.ntmps3
    go_wp2
    go_ret
    exact ⟨rfl, Below.refl _ _⟩

/-! ### THE ROW's STEP: WRITTEN OUT: LEAVE IT -/
set_option maxRecDepth 100000 in
theorem lifted (os : Os) (started : os.Started) (H : Type) (enc : TypeId × Value → H) :
    ReturnsInHanded {} Yba.checked os 3 .any (Rows.lawS0157BSplitSpec.pre6 enc Yba.prog Yba.f3 Rows.lawS0157BSplitRow.domain false) (Rows.lawS0157BSplitSpec.post enc Yba.prog Yba.f3 false true false false) := by
  refine returnsInHanded_of_change (C := Yba.checked) own started (by kernel_rfl) Yba.func3
    (ChangeSpec.witness6 (enc := enc) (C := Yba.checked) false ⟨#[], #[.slice none 0 0], []⟩ 8 (by kernel_rfl) (by kernel_rfl) (by kernel_rfl) (by kernel_rfl)) ?_
  intro W base args ds gs before hval0 hW hcnd _
  have hval : ∀ (j : Nat) t v, Yba.f3.params[j]? = some t → args[j]? = some v → Value.okWide Yba.prog W .any base t v := hval0
  have hW' := hW
  obtain ⟨p, q, hA0, hV, rfl, hfz, hnd⟩ := hW
  have hA : DataW.TrodAll enc Yba.prog W 0 (fun _ => true) true Yba.f3.params.toList args.toList ds p := hA0
  rw [Yba.params3] at hA hval
  obtain ⟨v0, vs0, d0, ds0, p0, q0, hargs, rfl, rfl, h0, r0⟩ := trodAll_cons hA
  obtain ⟨rfl, rfl, rfl⟩ := trodAll_nil r0
  obtain rfl : args = #[v0] := by cases args; simp_all
  obtain ⟨rfl, rfl⟩ := trodVars_none hV
  obtain ⟨a0, len0, cap0, rfl⟩ := okWide_slice Yba.underlying22 (hval 0 22 v0 rfl rfl)
  have k0 := h0
  have lt0 : ∀ x ∈ p0, x.block < W.heap.size := by obtain ⟨m, hm⟩ := k0; exact DataW.trod_lt m _ _ _ hm
  obtain ⟨z0, w0⟩ : ∃ zs, IsRow .u8 W a0 len0 cap0 zs := by
    obtain ⟨fuel, hf⟩ := h0
    rcases open_ints Yba.underlying22 Yba.underlying5 (by kernel_rfl) hf with ⟨hcs, _⟩ | ⟨x, l, c, zs, hcs, _, hl, hm, hz, _, hcell, hwz⟩
    · simp [Value.cells] at hcs
      obtain ⟨rfl, rfl, rfl⟩ := hcs
      exact ⟨[], .inl ⟨rfl, rfl, rfl, rfl⟩⟩
    · simp [Value.cells] at hcs
      obtain ⟨rfl, rfl, rfl⟩ := hcs
      exact ⟨zs, .inr ⟨_, rfl, hl, hm, by simpa using hz, hcell, hwz⟩⟩
  clear hA0 hval0
  refine (walk a0 len0 cap0 z0 W w0).mono fun e W' ⟨he, bel⟩ => ?_
  subst he
  exact ⟨_, rfl, _, _, _, [], _, [], hW', trodAll_mk1 (shut_bool Yba.underlying4 _), (trodAll_cons_mk (Below.trod laidOut (by kernel_rfl) (of_decide_eq_true (by kernel_rfl)) k0 bel lt0) trodAll_mk0), rfl, bel.frame _, fun h => by cases h⟩

theorem over : Rows.lawS0157BSplitRow.holds Yba.pinned (OpenSpec.ofChange Rows.lawS0157BSplitSpec) :=
  OpenClaim.holds_of_wide 3 Yba.f3 rfl rfl rfl rfl rfl rfl rfl ⟨rfl, rfl, rfl, rfl, rfl⟩ rfl rfl rfl rfl rfl (by kernel_rfl) Yba.func3 (by kernel_rfl)
    (of_decide_eq_true (by kernel_rfl)) (by unfold Func.isWrapper; first | (rw [if_pos (by decide +kernel)]; kernel_rfl) | (rw [if_neg (by decide +kernel)]; exact ⟨rfl, rfl⟩))
    (fun os started H enc _ => lifted os started H enc)

/-- ████ THE STATEMENT ████ -/
theorem proved : Rows.LawS0157BSplitSaid := over
#print axioms proved
end Go.Proofs.Ybulkcfo.lawS0157BSplit
