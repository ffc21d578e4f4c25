/-
  The proof of 'Rows.LawS0152CRangeSaid'. The frame is the shell's (written by program off the guide's print); the walk is filled in.
-/
import Derived.Test.YbulkccwRows
import Derived.Test.YbulkccwElfWalks
import Derived.WalkKit
import Derived.ProofKit
import Derived.OpenShut
import Derived.ShutString
namespace Go.Proofs.Ybulkccw.lawS0152CRange
open Go.ChangeShapes Go.WideShapes Go.ChangeAt Go.RowKit
open Go.ChangeMaps (open_string shut_string)
set_option linter.unusedVariables false      -- a walk need not use every 'w<i>' (that an integer argument fits its kind)

theorem own : ownKnob Yba.prog.godebug = none := by kernel_rfl

theorem ElfAid.bounds {a : Int} (h : (Lit.int .u32 a).wf = true) : 0 ≤ a ∧ a < 4294967296 := by
  have := bounds_u32 h
  omega
theorem ElfAid.ret_bool {a b : Bool} (h : a = b) : Ending.returned (.bool a) = .returned (.bool b) := by rw [h]

/-! ### STEP 1: THE WALK: the Go text returns true. 'Grown w w'': the world has at most new blocks (Derived/RowKit3.lean). Part the cases AHEAD of 'go_enter' where a test parts the walk; take each callee by a contract of your own. -/
theorem walk (a0 : Int) (a1 : ByteArray) (w0 : (Lit.int .u32 a0).wf = true) (w1 : a1.size ≤ maxLen) (w : World) :
    Calls Yba.prog 7 #[.int .u32 a0, .string a1] w fun e w' => e = .returned (.bool true) ∧ Grown w w' := by
  have hb := ElfAid.bounds w0
  by_cases hl : 4096 < a1.size
  · go_enter Yba.func7, Yba.ntmps7
    go_wp2
    go_ret
    exact ⟨rfl, Grown.refl _⟩
  · have hsm : a1.size ≤ 4096 := by omega
    have hz : a1.size ≤ maxLen := w1
    by_cases hn : a1.size = 0
    · have hn' : ((a1.size : Int) == 0) = true := by simp [hn]
      have HE : Hid (elf.upd a0 a1.data.toList = a0) := elf.hide (by rw [List.eq_nil_of_length_eq_zero (l := a1.data.toList) (by simpa using hn)]; rfl)
      clear hn
      go_enter Yba.func7, Yba.ntmps7
      go_wp2_with fail
      refine (elf.update_calls a0 a1 _ hb.1 hb.2 hz).mono ?_
      rintro e w1' ⟨rfl, rfl⟩
      go_wp2_with fail
      go_ret
      exact ⟨ElfAid.ret_bool (by rw [HE.out]; simp), Grown.refl _⟩
    · have hn' : ((a1.size : Int) == 0) = false := by rw [beq_eq_false_iff_ne]; omega
      have hr := elf.upd_range a0 a1.data.toList (fun h => hn (by simpa using congrArg List.length h))
      clear hn
      go_enter Yba.func7, Yba.ntmps7
      go_wp2_with fail
      refine (elf.update_calls a0 a1 _ hb.1 hb.2 hz).mono ?_
      rintro e w1' ⟨rfl, rfl⟩
      go_wp2_with fail
      go_ret
      exact ⟨ElfAid.ret_bool (by simp), Grown.refl _⟩

/-! ### THE ROW's STEP: WRITTEN OUT: LEAVE IT -/
set_option maxRecDepth 100000 in
theorem lifted (os : Os) (started : os.Started) (H : Type) (enc : TypeId × Value → H) :
    ReturnsInHanded {} Yba.checked os 7 .any (Rows.lawS0152CRangeSpec.pre6 enc Yba.prog Yba.f7 Rows.lawS0152CRangeRow.domain false) (Rows.lawS0152CRangeSpec.post enc Yba.prog Yba.f7 false true false false) := by
  refine returnsInHanded_of_change (C := Yba.checked) own started (by kernel_rfl) Yba.func7
    (ChangeSpec.witness6 (enc := enc) (C := Yba.checked) false ⟨#[], #[.int .u32 0, .string ByteArray.empty], []⟩ 8 (by kernel_rfl) (by kernel_rfl) (by kernel_rfl) (by kernel_rfl)) ?_
  intro W base args ds gs before hval0 hW hcnd _
  have hval : ∀ (j : Nat) t v, Yba.f7.params[j]? = some t → args[j]? = some v → Value.okWide Yba.prog W .any base t v := hval0
  have hW' := hW
  obtain ⟨p, q, hA0, hV, rfl, hfz, hnd⟩ := hW
  have hA : DataW.TrodAll enc Yba.prog W 0 (fun _ => true) true Yba.f7.params.toList args.toList ds p := hA0
  rw [Yba.params7] at hA hval
  obtain ⟨v0, vs0, d0, ds0, p0, q0, hargs, rfl, rfl, h0, r0⟩ := trodAll_cons hA
  obtain ⟨v1, vs1, d1, ds1, p1, q1, rfl, rfl, rfl, h1, r1⟩ := trodAll_cons r0
  obtain ⟨rfl, rfl, rfl⟩ := trodAll_nil r1
  obtain rfl : args = #[v0, v1] := by cases args; simp_all
  obtain ⟨rfl, rfl⟩ := trodVars_none hV
  obtain ⟨a0, rfl, rfl, rfl, w0⟩ := open_int Yba.underlying36 (hval 0 36 v0 rfl rfl) h0
  obtain ⟨a1, rfl, rfl, rfl, w1⟩ := open_string Yba.underlying9 (hval 1 9 v1 rfl rfl) h1
  clear hA0 hval0
  simp only [List.append_nil] at hW'
  refine (walk a0 a1 w0 w1 W).mono fun e W' ⟨he, hg⟩ => ?_
  subst he
  exact ⟨_, rfl, post_of_same (pa := []) (pv := []) hW' (fun _ _ _ => (trodAll_cons_mk (shut_bool Yba.underlying4 _) trodAll_mk0)) (fun sp _ => (trodAll_cons_mk (shut_int Yba.underlying36 w0) (trodAll_cons_mk (shut_string Yba.underlying9 w1) trodAll_mk0))) (fun _ _ => rfl) rfl
    (hg.frame _) hg.2.1 (ok_one (by kernel_rfl) rfl (okWide_bool_mk Yba.underlying4 _))⟩

theorem over : Rows.lawS0152CRangeRow.holds Yba.pinned (OpenSpec.ofChange Rows.lawS0152CRangeSpec) :=
  OpenClaim.holds_of_wide 7 Yba.f7 rfl rfl rfl rfl rfl rfl rfl ⟨rfl, rfl, rfl, rfl, rfl⟩ rfl rfl rfl rfl rfl (by kernel_rfl) Yba.func7 (by kernel_rfl)
    (of_decide_eq_true (by kernel_rfl)) (by unfold Func.isWrapper; first | (rw [if_pos (by decide +kernel)]; kernel_rfl) | (rw [if_neg (by decide +kernel)]; exact ⟨rfl, rfl⟩))
    (fun os started H enc _ => lifted os started H enc)

/-- ████ THE STATEMENT ████ -/
theorem proved : Rows.LawS0152CRangeSaid :=
  over
#print axioms proved
end Go.Proofs.Ybulkccw.lawS0152CRange
