/- The proof of the tied card 'Rows.LawS0154BRoundTripCardSaid': the row's statement out of the walk, then the card by the builder. -/
import Derived.Test.YbulkcdyDoorLaw4
import Derived.Test.YbulkcdyDoorTie
import Derived.Test.YbulkcdyDoorCards
import Derived.SevenTiedAt
namespace Go.Proofs.YbulkcdyDoor.lawS0154BRoundTrip
open Go Go.ChangeShapes Go.WideShapes Go.ChangeAt Go.RowKit noise
set_option linter.unusedVariables false

set_option maxRecDepth 100000 in
set_option maxHeartbeats 2000000 in
theorem walk_long (l0 l1 : Nat) (a0 a1 : Option Addr) (c0 c1 : Nat) (n : Int) (w : World) (hz : 1024 < l0 ∨ 1024 < l1) :
    Calls Ybad.prog 4 #[.slice a0 l0 c0, .slice a1 l1 c1, .int .u64 n] w fun e w' => e = .returned (.bool true) ∧ Below w.heap.size w w' := by
  by_cases h0 : 1024 < l0
  · clear hz
    go_enter Ybad.func4, Ybad.ntmps4
    go_wp2_with fail
    go_ret
    exact ⟨rfl, Below.refl _ _⟩
  · have h1 : 1024 < l1 := by omega
    clear hz
    go_enter Ybad.func4, Ybad.ntmps4
    go_wp2_with fail
    go_ret
    exact ⟨rfl, Below.refl _ _⟩

set_option maxRecDepth 100000 in
theorem lifted (os : Os) (started : os.Started) (H : Type) (enc : TypeId × Value → H) :
    ReturnsInHanded {} Ybad.checked os 4 .any (fun w args => (Rows.lawS0154BRoundTripSpec.pre enc Ybad.prog Ybad.f4 [] false w args ∧ laidMetH Ybad.prog laid1 w) ∧ sizedMet enc Ybad.prog Ybad.f4 (OpenSpec.ofChange Rows.lawS0154BRoundTripSpec) false w args)
      (Rows.lawS0154BRoundTripSpec.post enc Ybad.prog Ybad.f4 false true false false) := by
  refine returnsInHanded_of_change_and (C := Ybad.checked) (X := fun w _ => laidMetH Ybad.prog laid1 w) (fun _ _ _ hh h => h.of_heap hh) own started (by kernel_rfl) Ybad.func4
    (ChangeSpec.witness_shaped (enc := enc) (C := Ybad.checked) (os := os) (X := fun w _ => laidMetH Ybad.prog laid1 w) false (World.doorLaid Ybad.prog 400 os)
      #[.slice none 0 0, .slice none 0 0, .int .u64 0] 8 rfl (World.shaped_of_RefB (by kernel_rfl) (by kernel_rfl)) (by kernel_rfl) (by kernel_rfl) (by kernel_rfl) (door_met os _)) ?_
  intro W base args ds gs before hval0 hW _ _ hL _
  have hval : ∀ (j : Nat) t v, Ybad.f4.params[j]? = some t → args[j]? = some v → Value.okWide Ybad.prog W .any base t v := hval0
  have hW' := hW
  obtain ⟨p, q, hA0, hV0, rfl, hfz, hnd⟩ := hW
  have hA : DataW.TrodAll enc Ybad.prog W 0 (fun _ => true) true Ybad.f4.params.toList args.toList ds p := hA0
  have hV : DataW.TrodVars enc Ybad.prog W (fun _ => true) [nmE] gs q := hV0
  rw [Ybad.params4] at hA hval
  obtain ⟨v0, vs0, d0, ds0, p0, q0, hargs, rfl, rfl, h0, r0⟩ := trodAll_cons hA
  obtain ⟨v1, vs1, d1, ds1, p1, q1, rfl, rfl, rfl, h1, r1⟩ := trodAll_cons r0
  obtain ⟨v2, vs2, d2, ds2, p2, q2, rfl, rfl, rfl, h2, r2⟩ := trodAll_cons r1
  obtain ⟨rfl, rfl, rfl⟩ := trodAll_nil r2
  obtain rfl : args = #[v0, v1, v2] := by cases args; simp_all
  obtain ⟨pe, hv, hg⟩ := of_laid hL
  obtain ⟨rfl, rfl⟩ := hV.unique (vars_read1 enc gE gEType Ybad.underlying34 hv trivial _)
  have lt : ∀ x ∈ p0 ++ (p1 ++ (p2 ++ [])), x.block < W.heap.size := fun x hx => hW'.lt x (List.mem_append_left _ hx)
  have lt0 : ∀ x ∈ p0, x.block < W.heap.size := fun x hx => lt x (by simp [hx])
  have lt1 : ∀ x ∈ p1, x.block < W.heap.size := fun x hx => lt x (by simp [hx])
  have lt2 : ∀ x ∈ p2, x.block < W.heap.size := fun x hx => lt x (by simp [hx])
  have k0 := h0
  have k1 := h1
  have k2 := h2
  have hw : 0 < W.heap.size := World.block_lt_of_cell? W _ hg
  obtain ⟨a0, len0, c0, rfl⟩ := okWide_slice Ybad.underlying22 (hval 0 22 v0 rfl rfl)
  obtain ⟨a1, len1, c1, rfl⟩ := okWide_slice Ybad.underlying22 (hval 1 22 v1 rfl rfl)
  obtain ⟨n, rfl, _, _, wn⟩ := open_int Ybad.underlying23 (hval 2 23 v2 rfl rfl) h2
  obtain ⟨l0, rfl, A0⟩ := open_arg h0
  obtain ⟨l1, rfl, A1⟩ := open_arg h1
  have bn := bounds_u64 wn
  clear hA0 hval0 hV0
  have hwalk : Calls Ybad.prog 4 #[.slice a0 l0.length c0, .slice a1 l1.length c1, .int .u64 n] W fun e w' => e = .returned (.bool true) ∧ Below W.heap.size W w' := by
    by_cases hz : l0.length ≤ 1024 ∧ l1.length ≤ 1024
    · exact law4_go l0 l1 a0 a1 c0 c1 n pe W A0 A1 hz.1 hz.2 (by omega) (by omega) hw hg
    · exact walk_long l0.length l1.length a0 a1 c0 c1 n W (by omega)
  refine hwalk.mono fun e W' ⟨he, bel⟩ => ?_
  subst he
  exact ⟨_, rfl, _, _, _, [], _, [.cell 0 0], hW', trodAll_mk1 (shut_bool Ybad.underlying4 _),
    (trodAll_cons_mk (Below.trod laidOut (by kernel_rfl) (of_decide_eq_true (by kernel_rfl)) k0 bel lt0)
      (trodAll_cons_mk (Below.trod laidOut (by kernel_rfl) (of_decide_eq_true (by kernel_rfl)) k1 bel lt1)
        (trodAll_cons_mk (Below.trod laidOut (by kernel_rfl) (of_decide_eq_true (by kernel_rfl)) k2 bel lt2) trodAll_mk0))),
    vars_read1 enc gE gEType Ybad.underlying34 (var?_below bel gE hw hv) trivial _, bel.frame _, fun h => by cases h⟩

theorem row_holds : Rows.LawS0154BRoundTripSaid :=
  OpenClaim.holds_of_wide 4 Ybad.f4 rfl rfl rfl rfl rfl rfl rfl ⟨rfl, rfl, rfl, rfl, rfl⟩ rfl rfl rfl rfl rfl (by kernel_rfl) Ybad.func4 (by kernel_rfl)
    (of_decide_eq_true (by kernel_rfl)) (by unfold Func.isWrapper; first | (rw [if_pos (by decide +kernel)]; kernel_rfl) | (rw [if_neg (by decide +kernel)]; exact ⟨rfl, rfl⟩))
    (fun os started H enc _ => lifted os started H enc)

theorem noStand : ∀ t ∈ [22, 22, 23], Ybad.prog.wantsStandIn t = false := by
  intro t ht
  simp only [List.mem_cons, List.not_mem_nil, or_false] at ht
  rcases ht with rfl | rfl | rfl <;> kernel_rfl

/-- ████ THE STATEMENT: the tied card ████ -/
theorem proved : Rows.LawS0154BRoundTripCardSaid :=
  Claim7.holds_tied_plain_at .later [] [.sentinel] true Rows.lawS0154BRoundTripCard.stood.harness true
    row_holds (fun _ h => by cases h) (by kernel_rfl) (fun _ h => by cases h) lawS0154BRoundTrip_row_tie rfl ⟨rfl, rfl⟩ (by kernel_rfl) rfl
    (fun f fn hf hfn => by
      obtain rfl : f = 4 := Option.some.inj ((show Ybad.prog.funcNamed Rows.lawS0154BRoundTripRow.func = some 4 by kernel_rfl).symm.trans hf) |>.symm
      obtain rfl : fn = Ybad.f4 := (Option.some.inj (Ybad.func4.symm.trans hfn)).symm
      exact ⟨by kernel_rfl, fun j t ht => by
        rw [Ybad.params4] at ht
        exact noStand t (by simpa using Array.mem_of_getElem? ht)⟩)
    (by kernel_rfl)
#print axioms proved
end Go.Proofs.YbulkcdyDoor.lawS0154BRoundTrip
