/-
  The proof of 'Rows.LawS0152BModelSaid'. The frame is the shell's; the walk is filled in.
-/
import Derived.Test.YbulkccwRows
import Derived.Test.YbulkccwQmLaw
import Derived.WalkKit
import Derived.ProofKit
import Derived.OpenShut
import Derived.Below
import Derived.Deep.Slices
import Derived.Lib.SmallJoins
namespace Go.Proofs.Ybulkccw.lawS0152BModel
open Go.ChangeShapes Go.WideShapes Go.ChangeAt Go.RowKit
open Go.Proofs.Ybulkccw.qm
set_option linter.unusedVariables false

theorem own : ownKnob Yba.prog.godebug = none := by kernel_rfl
theorem laidOut : laidOutB Yba.prog = true := by kernel_rfl
theorem c42 : Yba.prog.cellsOf 42 = 4 := by kernel_rfl
theorem c5 : Yba.prog.cellsOf 5 = 1 := by kernel_rfl

theorem u8b {a : Int} (h : (Lit.int .u8 a).wf = true) : 0 ≤ a ∧ a ≤ 255 := by
  have := bounds_u8 h
  omega

theorem quad {H : Type} {enc : TypeId × Value → H} {w : World} {base : Nat} {spare : Nat → Bool} {held : Bool} {fuel : Nat} {cs : List Value} {x : DataW H × List MemPlace}
    (h : DataW.trod enc Yba.prog w base spare held fuel 42 cs = some x) : ∃ q : Nat → Int, (∀ i, 0 ≤ q i ∧ q i ≤ 255) ∧ cs = [.int .u8 (q 0), .int .u8 (q 1), .int .u8 (q 2), .int .u8 (q 3)] := by
  obtain ⟨y0, y1, y2, y3, n, rfl, hl, t0, t1, t2, t3⟩ := Go.Joins.trod_struct4 Yba.underlying42 h
  rw [c42] at hl
  match cs, hl with
  | [a, b, c, d], _ =>
    change DataW.trod enc _ _ _ _ _ n 5 (([a, b, c, d].drop 0).take (Yba.prog.cellsOf 5)) = some y0 at t0
    change DataW.trod enc _ _ _ _ _ n 5 (([a, b, c, d].drop 1).take (Yba.prog.cellsOf 5)) = some y1 at t1
    change DataW.trod enc _ _ _ _ _ n 5 (([a, b, c, d].drop 2).take (Yba.prog.cellsOf 5)) = some y2 at t2
    change DataW.trod enc _ _ _ _ _ n 5 (([a, b, c, d].drop 3).take (Yba.prog.cellsOf 5)) = some y3 at t3
    rw [c5] at t0 t1 t2 t3
    obtain ⟨x0, e0, _, w0⟩ := DataW.trod_int Yba.underlying5 t0
    obtain ⟨x1, e1, _, w1⟩ := DataW.trod_int Yba.underlying5 t1
    obtain ⟨x2, e2, _, w2⟩ := DataW.trod_int Yba.underlying5 t2
    obtain ⟨x3, e3, _, w3⟩ := DataW.trod_int Yba.underlying5 t3
    cases e0; cases e1; cases e2; cases e3
    refine ⟨fun i => if i = 0 then x0 else if i = 1 then x1 else if i = 2 then x2 else x3, fun i => ?_, rfl⟩
    have := u8b w0
    have := u8b w1
    have := u8b w2
    have := u8b w3
    show 0 ≤ (if i = 0 then x0 else _) ∧ (if i = 0 then x0 else _) ≤ 255
    split <;> (try split) <;> (try split) <;> omega

/-- What the walk asks of the argument. -/
def Quads (w : World) (p : Option Addr) (n : Nat) (X : Nat → Nat → Int) : Prop :=
  (∀ j i, 0 ≤ X j i ∧ X j i ≤ 255) ∧ (0 < n → ∃ b off, p = some ⟨b, off, none⟩ ∧ b < w.heap.size ∧ ∀ j, j < n → ∀ i, i < 4 → w.cell? ⟨b, off + j * 4 + i, none⟩ = some (.int .u8 (X j i)))

theorem walk (p : Option Addr) (n cap : Nat) (r : Int) (X : Nat → Nat → Int) (w : World) (hn : n ≤ maxLen) (hq : Quads w p n X) (hr : (Lit.int .u8 r).wf = true) :
    Calls Yba.prog 3 #[.slice p n cap, .int .u8 r] w fun e w' => e = .returned (.bool true) ∧ Below w.heap.size w w' := by
  have hb := u8b hr
  by_cases hl : n ≤ 1024
  · obtain ⟨k, rfl⟩ : ∃ k : Nat, r = (k : Int) := ⟨r.toNat, by omega⟩
    exact (law_calls p n cap k X w hl (by omega) hq.1 hq.2).mono (fun e w' ⟨he, ho⟩ => ⟨he, ho.below (Nat.le_refl _) (fun _ _ f => f)⟩)
  · have hi : (1024 : Int) < (n : Int) := by omega
    clear hq
    go_enter Yba.func3, Yba.ntmps3
    go_wp2
    go_ret
    exact ⟨rfl, Below.refl _ _⟩

set_option maxRecDepth 100000 in
theorem lifted (os : Os) (started : os.Started) (H : Type) (enc : TypeId × Value → H) :
    ReturnsInHanded {} Yba.checked os 3 .any (Rows.lawS0152BModelSpec.pre6 enc Yba.prog Yba.f3 Rows.lawS0152BModelRow.domain false) (Rows.lawS0152BModelSpec.post enc Yba.prog Yba.f3 false true false false) := by
  refine returnsInHanded_of_change (C := Yba.checked) own started (by kernel_rfl) Yba.func3
    (ChangeSpec.witness6 (enc := enc) (C := Yba.checked) false ⟨#[], #[.slice none 0 0, .int .u8 0], []⟩ 8 (by kernel_rfl) (by kernel_rfl) (by kernel_rfl) (by kernel_rfl)) ?_
  intro W base args ds gs before hval0 hW hcnd _
  have hval : ∀ (j : Nat) t v, Yba.f3.params[j]? = some t → args[j]? = some v → Value.okWide Yba.prog W .any base t v := hval0
  have hW' := hW
  obtain ⟨p, q, hA0, hV, rfl, hfz, hnd⟩ := hW
  have hA : DataW.TrodAll enc Yba.prog W 0 (fun _ => true) true Yba.f3.params.toList args.toList ds p := hA0
  rw [Yba.params3] at hA hval
  obtain ⟨v0, vs0, d0, ds0, p0, q0, hargs, rfl, rfl, h0, r0⟩ := trodAll_cons hA
  obtain ⟨v1, vs1, d1, ds1, p1, q1, rfl, rfl, rfl, h1, r1⟩ := trodAll_cons r0
  obtain ⟨rfl, rfl, rfl⟩ := trodAll_nil r1
  obtain rfl : args = #[v0, v1] := by cases args; simp_all
  obtain ⟨rfl, rfl⟩ := trodVars_none hV
  obtain ⟨a1, rfl, rfl, rfl, w1⟩ := open_int Yba.underlying5 (hval 1 5 v1 rfl rfl) h1
  obtain ⟨a0, len0, cap0, rfl⟩ := okWide_slice Yba.underlying22 (hval 0 22 v0 rfl rfl)
  have k0 := h0
  have lt0 : ∀ x ∈ p0, x.block < W.heap.size := by obtain ⟨m, hm⟩ := k0; exact DataW.trod_lt m _ _ _ hm
  obtain ⟨X, hl0, hX⟩ : ∃ X, len0 ≤ maxLen ∧ Quads W a0 len0 X := by
    obtain ⟨fuel, hf⟩ := h0
    rcases Go.Deep.open_slice Yba.underlying22 hf with ⟨hcs, _⟩ | ⟨x, l, c, m, n, D, Pl, hcs, _, hl, hm, hmm, _, hcell⟩
    · simp [Value.cells] at hcs
      obtain ⟨rfl, rfl, rfl⟩ := hcs
      exact ⟨fun _ _ => 0, by decide, fun _ _ => ⟨Int.le_refl _, (by decide : (0 : Int) ≤ 255)⟩, fun h => absurd h (Nat.lt_irrefl _)⟩
    · simp [Value.cells] at hcs
      obtain ⟨rfl, rfl, rfl⟩ := hcs
      have hlm : len0 ≤ m := by rw [hmm]; split <;> omega
      rw [c42] at hcell
      obtain ⟨X, hX⟩ := Go.Deep.choose_lt (α := Nat → Int) (n := len0) (p := fun j q => (∀ i, 0 ≤ q i ∧ q i ≤ 255) ∧ ∀ i, i < 4 → W.cell? ((x.add (j * 4)).add i) = some (.int .u8 (q i))) (fun j hj => by
        obtain ⟨cs', hc1, hc2⟩ := hcell j (by omega)
        obtain ⟨q, hq, rfl⟩ := quad hc2
        refine ⟨q, hq, fun i hi => ?_⟩
        rw [(World.cells?_some hc1).2.2 i hi]
        match i, hi with
        | 0, _ => rfl
        | 1, _ => rfl
        | 2, _ => rfl
        | 3, _ => rfl)
      refine ⟨fun j i => if j < len0 then X j i else 0, by omega, fun j i => ?_, fun h => ?_⟩
      · show 0 ≤ (if j < len0 then X j i else 0) ∧ (if j < len0 then X j i else 0) ≤ 255
        by_cases e : j < len0
        · rw [if_pos e]; exact (hX j e).1 i
        · rw [if_neg e]; decide
      · obtain ⟨b, off, spot⟩ := x
        have hc0 := (hX 0 h).2 0 (by decide)
        have hspot : spot = none := by simpa [Addr.add] using World.cell?_spot hc0
        subst hspot
        refine ⟨b, off, rfl, ?_, fun j hj i hi => ?_⟩
        · rw [Addr.add_mid, Addr.add_mid] at hc0
          rcases Nat.lt_or_ge b W.heap.size with h | h
          · exact h
          · simp [World.cell?, Array.getElem?_eq_none h] at hc0
        · have := (hX j hj).2 i hi
          rw [Addr.add_mid, Addr.add_mid] at this
          rw [this]
          show _ = some (Value.int .u8 (if j < len0 then X j i else 0))
          rw [if_pos hj]
  clear hA0 hval0
  refine (walk a0 len0 cap0 a1 X W hl0 hX w1).mono fun e W' ⟨he, bel⟩ => ?_
  subst he
  exact ⟨_, rfl, _, _, _, [], _, [], hW', trodAll_mk1 (shut_bool Yba.underlying4 _), (trodAll_cons_mk (Below.trod laidOut (by kernel_rfl) (of_decide_eq_true (by kernel_rfl)) k0 bel lt0) (trodAll_cons_mk (shut_int Yba.underlying5 w1) trodAll_mk0)), rfl, bel.frame _, fun h => by cases h⟩

theorem over : Rows.lawS0152BModelRow.holds Yba.pinned (OpenSpec.ofChange Rows.lawS0152BModelSpec) :=
  OpenClaim.holds_of_wide 3 Yba.f3 rfl rfl rfl rfl rfl rfl rfl ⟨rfl, rfl, rfl, rfl, rfl⟩ rfl rfl rfl rfl rfl (by kernel_rfl) Yba.func3 (by kernel_rfl)
    (of_decide_eq_true (by kernel_rfl)) (by unfold Func.isWrapper; first | (rw [if_pos (by decide +kernel)]; kernel_rfl) | (rw [if_neg (by decide +kernel)]; exact ⟨rfl, rfl⟩))
    (fun os started H enc _ => lifted os started H enc)

/-- ████ THE STATEMENT ████ -/
theorem proved : Rows.LawS0152BModelSaid := over
#print axioms proved
end Go.Proofs.Ybulkccw.lawS0152BModel
