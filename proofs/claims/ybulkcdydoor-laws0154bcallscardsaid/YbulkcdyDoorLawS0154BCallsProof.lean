/- The proof of the tied card 'Rows.LawS0154BCallsCardSaid': the row's statement out of the walk, then the card by the builder. -/
import Derived.Test.YbulkcdyDoorAid
import Derived.Test.YbulkcdyDoorTie
import Derived.Test.YbulkcdyDoorCards
import Derived.SevenTiedAt
namespace Go.Proofs.YbulkcdyDoor.lawS0154BCalls
open Go Go.ChangeShapes Go.WideShapes Go.ChangeAt Go.RowKit noise
set_option linter.unusedVariables false

set_option maxRecDepth 100000 in
set_option maxHeartbeats 2000000 in
theorem walk_long (l0 l2 l3 : Nat) (a0 a2 a3 : Option Addr) (c0 c2 c3 : Nat) (n : Int) (x0 x1 x2 x3 x4 x5 x6 x7 x8 x9 x10 x11 : Int) (fl : Bool) (w : World)
    (hz : 1024 < l0 ∨ 1024 < l2 ∨ 1024 < l3) :
    Calls Ybad.prog 3 #[.slice a0 l0 c0, .int .u64 n, .slice a2 l2 c2, .slice a3 l3 c3,
      .agg #[.int .u8 x0, .int .u8 x1, .int .u8 x2, .int .u8 x3, .int .u8 x4, .int .u8 x5, .int .u8 x6, .int .u8 x7, .int .u8 x8, .int .u8 x9, .int .u8 x10, .int .u8 x11], .bool fl] w
      fun e w' => e = .returned (.bool true) ∧ Below w.heap.size w w' := by
  by_cases h0 : 1024 < l0
  · clear hz
    go_enter Ybad.func3, Ybad.ntmps3
    go_wp2_with fail
    go_ret
    exact ⟨rfl, (Below.refl _ _).alloc (Nat.le_refl _) _⟩
  · by_cases h2 : 1024 < l2
    · clear hz
      go_enter Ybad.func3, Ybad.ntmps3
      go_wp2_with fail
      go_ret
      exact ⟨rfl, (Below.refl _ _).alloc (Nat.le_refl _) _⟩
    · have h3 : 1024 < l3 := by omega
      clear hz
      go_enter Ybad.func3, Ybad.ntmps3
      go_wp2_with fail
      go_ret
      exact ⟨rfl, (Below.refl _ _).alloc (Nat.le_refl _) _⟩

set_option maxRecDepth 100000 in
theorem lifted (os : Os) (started : os.Started) (H : Type) (enc : TypeId × Value → H) :
    ReturnsInHanded {} Ybad.checked os 3 .any (fun w args => (Rows.lawS0154BCallsSpec.pre enc Ybad.prog Ybad.f3 [] false w args ∧ laidMetH Ybad.prog laid1 w) ∧ sizedMet enc Ybad.prog Ybad.f3 (OpenSpec.ofChange Rows.lawS0154BCallsSpec) false w args)
      (Rows.lawS0154BCallsSpec.post enc Ybad.prog Ybad.f3 false true false false) := by
  refine returnsInHanded_of_change_and (C := Ybad.checked) (X := fun w _ => laidMetH Ybad.prog laid1 w) (fun _ _ _ hh h => h.of_heap hh) own started (by kernel_rfl) Ybad.func3
    (ChangeSpec.witness_shaped (enc := enc) (C := Ybad.checked) (os := os) (X := fun w _ => laidMetH Ybad.prog laid1 w) false (World.doorLaid Ybad.prog 400 os)
      #[.slice none 0 0, .int .u64 0, .slice none 0 0, .slice none 0 0, .agg #[.int .u8 0, .int .u8 0, .int .u8 0, .int .u8 0, .int .u8 0, .int .u8 0, .int .u8 0, .int .u8 0, .int .u8 0, .int .u8 0, .int .u8 0, .int .u8 0], .bool false] 8 rfl (World.shaped_of_RefB (by kernel_rfl) (by kernel_rfl)) (by kernel_rfl) (by kernel_rfl) (by kernel_rfl) (door_met os _)) ?_
  intro W base args ds gs before hval0 hW _ _ hL _
  have hval : ∀ (j : Nat) t v, Ybad.f3.params[j]? = some t → args[j]? = some v → Value.okWide Ybad.prog W .any base t v := hval0
  have hW' := hW
  obtain ⟨p, q, hA0, hV0, rfl, hfz, hnd⟩ := hW
  have hA : DataW.TrodAll enc Ybad.prog W 0 (fun _ => true) true Ybad.f3.params.toList args.toList ds p := hA0
  have hV : DataW.TrodVars enc Ybad.prog W (fun _ => true) [nmE] gs q := hV0
  rw [Ybad.params3] at hA hval
  obtain ⟨v0, vs0, d0, ds0, p0, q0, hargs, rfl, rfl, h0, r0⟩ := trodAll_cons hA
  obtain ⟨v1, vs1, d1, ds1, p1, q1, rfl, rfl, rfl, h1, r1⟩ := trodAll_cons r0
  obtain ⟨v2, vs2, d2, ds2, p2, q2, rfl, rfl, rfl, h2, r2⟩ := trodAll_cons r1
  obtain ⟨v3, vs3, d3, ds3, p3, q3, rfl, rfl, rfl, h3, r3⟩ := trodAll_cons r2
  obtain ⟨v4, vs4, d4, ds4, p4, q4, rfl, rfl, rfl, h4, r4⟩ := trodAll_cons r3
  obtain ⟨v5, vs5, d5, ds5, p5, q5, rfl, rfl, rfl, h5, r5⟩ := trodAll_cons r4
  obtain ⟨rfl, rfl, rfl⟩ := trodAll_nil r5
  obtain rfl : args = #[v0, v1, v2, v3, v4, v5] := by cases args; simp_all
  obtain ⟨pe, hv, hg⟩ := of_laid hL
  obtain ⟨rfl, rfl⟩ := hV.unique (vars_read1 enc gE gEType Ybad.underlying34 hv trivial _)
  have lt : ∀ x ∈ p0 ++ (p1 ++ (p2 ++ (p3 ++ (p4 ++ (p5 ++ []))))), x.block < W.heap.size := fun x hx => hW'.lt x (List.mem_append_left _ hx)
  have lt0 : ∀ x ∈ p0, x.block < W.heap.size := fun x hx => lt x (by simp [hx])
  have lt1 : ∀ x ∈ p1, x.block < W.heap.size := fun x hx => lt x (by simp [hx])
  have lt2 : ∀ x ∈ p2, x.block < W.heap.size := fun x hx => lt x (by simp [hx])
  have lt3 : ∀ x ∈ p3, x.block < W.heap.size := fun x hx => lt x (by simp [hx])
  have lt4 : ∀ x ∈ p4, x.block < W.heap.size := fun x hx => lt x (by simp [hx])
  have lt5 : ∀ x ∈ p5, x.block < W.heap.size := fun x hx => lt x (by simp [hx])
  have k0 := h0
  have k1 := h1
  have k2 := h2
  have k3 := h3
  have k4 := h4
  have k5 := h5
  have hw : 0 < W.heap.size := World.block_lt_of_cell? W _ hg
  obtain ⟨a0, len0, c0, rfl⟩ := okWide_slice Ybad.underlying22 (hval 0 22 v0 rfl rfl)
  obtain ⟨n, rfl, _, _, wn⟩ := open_int Ybad.underlying23 (hval 1 23 v1 rfl rfl) h1
  obtain ⟨a2, len2, c2, rfl⟩ := okWide_slice Ybad.underlying22 (hval 2 22 v2 rfl rfl)
  obtain ⟨a3, len3, c3, rfl⟩ := okWide_slice Ybad.underlying22 (hval 3 22 v3 rfl rfl)
  obtain ⟨x0, x1, x2, x3, x4, x5, x6, x7, x8, x9, x10, x11, rfl⟩ := open_room (hval 4 24 v4 rfl rfl) h4
  obtain ⟨fl, rfl, _, _⟩ := open_bool Ybad.underlying4 (hval 5 4 v5 rfl rfl) h5
  obtain ⟨l0, rfl, A0⟩ := open_arg h0
  obtain ⟨l2, rfl, A2⟩ := open_arg h2
  obtain ⟨l3, rfl, A3⟩ := open_arg h3
  have bn := bounds_u64 wn
  clear hA0 hval0 hV0
  have hwalk : Calls Ybad.prog 3 #[.slice a0 l0.length c0, .int .u64 n, .slice a2 l2.length c2, .slice a3 l3.length c3,
      .agg #[.int .u8 x0, .int .u8 x1, .int .u8 x2, .int .u8 x3, .int .u8 x4, .int .u8 x5, .int .u8 x6, .int .u8 x7, .int .u8 x8, .int .u8 x9, .int .u8 x10, .int .u8 x11], .bool fl] W
      fun e w' => e = .returned (.bool true) ∧ Below W.heap.size W w' := by
    by_cases hz : l0.length ≤ 1024 ∧ l2.length ≤ 1024 ∧ l3.length ≤ 1024
    · exact law3_go l0 l2 l3 a0 a2 a3 c0 c2 c3 n x0 x1 x2 x3 x4 x5 x6 x7 x8 x9 x10 x11 fl pe W A0 A2 A3 hz.1 hz.2.1 hz.2.2 (by omega) (by omega) hw hg
    · exact walk_long l0.length l2.length l3.length a0 a2 a3 c0 c2 c3 n x0 x1 x2 x3 x4 x5 x6 x7 x8 x9 x10 x11 fl W (by omega)
  refine hwalk.mono fun e W' ⟨he, bel⟩ => ?_
  subst he
  exact ⟨_, rfl, _, _, _, [], _, [.cell 0 0], hW', trodAll_mk1 (shut_bool Ybad.underlying4 _),
    (trodAll_cons_mk (Below.trod laidOut (by kernel_rfl) (of_decide_eq_true (by kernel_rfl)) k0 bel lt0)
      (trodAll_cons_mk (Below.trod laidOut (by kernel_rfl) (of_decide_eq_true (by kernel_rfl)) k1 bel lt1)
        (trodAll_cons_mk (Below.trod laidOut (by kernel_rfl) (of_decide_eq_true (by kernel_rfl)) k2 bel lt2)
          (trodAll_cons_mk (Below.trod laidOut (by kernel_rfl) (of_decide_eq_true (by kernel_rfl)) k3 bel lt3)
            (trodAll_cons_mk (Below.trod laidOut (by kernel_rfl) (of_decide_eq_true (by kernel_rfl)) k4 bel lt4)
              (trodAll_cons_mk (Below.trod laidOut (by kernel_rfl) (of_decide_eq_true (by kernel_rfl)) k5 bel lt5) trodAll_mk0)))))),
    vars_read1 enc gE gEType Ybad.underlying34 (var?_below bel gE hw hv) trivial _, bel.frame _, fun h => by cases h⟩

theorem row_holds : Rows.LawS0154BCallsSaid :=
  OpenClaim.holds_of_wide 3 Ybad.f3 rfl rfl rfl rfl rfl rfl rfl ⟨rfl, rfl, rfl, rfl, rfl⟩ rfl rfl rfl rfl rfl (by kernel_rfl) Ybad.func3 (by kernel_rfl)
    (of_decide_eq_true (by kernel_rfl)) (by unfold Func.isWrapper; first | (rw [if_pos (by decide +kernel)]; kernel_rfl) | (rw [if_neg (by decide +kernel)]; exact ⟨rfl, rfl⟩))
    (fun os started H enc _ => lifted os started H enc)

theorem noStand : ∀ t ∈ [22, 23, 22, 22, 24, 4], Ybad.prog.wantsStandIn t = false := by
  intro t ht
  simp only [List.mem_cons, List.not_mem_nil, or_false] at ht
  rcases ht with rfl | rfl | rfl | rfl | rfl | rfl <;> kernel_rfl

/-- ████ THE STATEMENT: the tied card ████ -/
theorem proved : Rows.LawS0154BCallsCardSaid :=
  Claim7.holds_tied_plain_at .later [] [.sentinel] true Rows.lawS0154BCallsCard.stood.harness true
    row_holds (fun _ h => by cases h) (by kernel_rfl) (fun _ h => by cases h) lawS0154BCalls_row_tie rfl ⟨rfl, rfl⟩ (by kernel_rfl) rfl
    (fun f fn hf hfn => by
      obtain rfl : f = 3 := Option.some.inj ((show Ybad.prog.funcNamed Rows.lawS0154BCallsRow.func = some 3 by kernel_rfl).symm.trans hf) |>.symm
      obtain rfl : fn = Ybad.f3 := (Option.some.inj (Ybad.func3.symm.trans hfn)).symm
      exact ⟨by kernel_rfl, fun j t ht => by
        rw [Ybad.params3] at ht
        exact noStand t (by simpa using Array.mem_of_getElem? ht)⟩)
    (by kernel_rfl)
#print axioms proved
end Go.Proofs.YbulkcdyDoor.lawS0154BCalls
