/- What the two rows' proofs share: the variable ErrAuth as the condition 'laid' gives it, a world that meets the condition, the arguments opened. -/
import Derived.Test.YbulkcdyDoorLaw3
import Derived.LaidMore
import Derived.OpenShut
import Derived.ChangeOld
import Derived.Stop.Joined
import Derived.Stop.LaidErr
namespace Go.Proofs.YbulkcdyDoor.noise
open Go Go.ChangeShapes Go.WideShapes Go.ChangeAt Go.RowKit
set_option linter.unusedVariables false

theorem own : ownKnob Ybad.prog.godebug = none := by kernel_rfl
theorem laidOut : laidOutB Ybad.prog = true := by kernel_rfl
/-- The variable's name, as the rows say it. -/
def nmE : String := Rows.lawS0154BCallsSpec.vars.headD ""
/-- Its dynamic type's name, as the rows say it. -/
def nmT : String := match (Rows.laid_example_com_foregate_foregate_internal_noise_ErrAuth : DataW Unit) with
  | .iface n _ => n
  | _ => ""
theorem gE : Ybad.prog.globalNamed nmE = some 0 := by kernel_rfl
theorem gEType : (Ybad.prog.globals[0]?).map (·.type) = some 34 := by kernel_rfl
theorem row52 (u : TypeId) (h : Ybad.prog.typeName? 3 u = some nmT) : u = 52 :=
  typeName_ptr_named (nm := "errors.errorString") (by kernel_rfl) (by kernel_rfl) (by decide) u h
theorem cells72 : Ybad.prog.cellsOf 72 = 1 := by kernel_rfl
theorem cells9 : Ybad.prog.cellsOf 9 = 1 := by kernel_rfl
theorem cells24 : Ybad.prog.cellsOf 24 = 12 := by kernel_rfl

def laid1 : List (String × DataW Unit) := Rows.lawS0154BCallsRow.laid

/-- The door's own heap meets the condition. -/
theorem door_met (os : Os) (args : Array Value) : laidMetH Ybad.prog laid1 ((World.doorLaid Ybad.prog 400 os).forCall (fun _ _ => 0) ⟨#[], args, []⟩).memory :=
  laidMetH_of_parts3 (fuel := 8) (laidMet_of_run' 8 (by kernel_rfl) (by kernel_rfl)) (by kernel_rfl) (by kernel_rfl)

/-- What the condition gives the walks: the variable's cell. -/
theorem of_laid {W : World} (h : laidMetH Ybad.prog laid1 W) : ∃ pe, W.var? Ybad.prog nmE = some #[.iface 52 (.pointer (some pe))] ∧ W.cell? ⟨0, 0, none⟩ = some (.iface 52 (.pointer (some pe))) := by
  rw [MakeChecks.laidMetH_plain _ _ _ (by kernel_rfl)] at h
  have h : laidMet Ybad.prog [(nmE, Rows.laid_example_com_foregate_foregate_internal_noise_ErrAuth)] W := h
  obtain ⟨a0, s0, hv0, hc0, hs0, hz0⟩ := laid_sentinel h gE gEType Ybad.underlying34 row52 Ybad.underlying52 Ybad.underlying72 rfl rfl Ybad.underlying9 cells72 cells9
  exact ⟨a0, hv0, by simpa using World.var?_cell gE hv0 0⟩

/-- A slice of bytes that came in, opened. -/
theorem open_arg {H : Type} {enc : TypeId × Value → H} {W : World} {a : Option Addr} {len cap : Nat} {d : DataW H} {p : List MemPlace}
    (h : DataW.Trod enc Ybad.prog W 0 (fun _ => true) true 22 (.slice a len cap) d p) : ∃ l : List Int, len = l.length ∧ Arg W W.heap.size (.slice a l.length cap) l := by
  obtain ⟨fuel, hf⟩ := h
  rcases open_ints Ybad.underlying22 Ybad.underlying5 (by kernel_rfl) hf with ⟨hcs, _⟩ | ⟨x, l, c, zs, hcs, _, hl, hm, hz, _, hcell, hwz⟩
  · simp [Value.cells] at hcs
    obtain ⟨rfl, rfl, rfl⟩ := hcs
    exact ⟨[], rfl, ⟨⟨none, 0, rfl, Nat.le_refl _, Nat.zero_le _, .inl ⟨rfl, rfl⟩⟩, (fun n hn => by cases hn), fun h => absurd rfl h⟩⟩
  · simp [Value.cells] at hcs
    obtain ⟨rfl, rfl, rfl⟩ := hcs
    have hz' : zs.length = cap := by simpa using hz
    have hlen : (zs.take len).length = len := by rw [List.length_take]; omega
    refine ⟨zs.take len, hlen.symm, ⟨⟨some x, cap, rfl, by omega, hm, .inr ⟨x, rfl, fun i hi => ?_⟩⟩, fun n hn => ?_, fun h k hk => ?_⟩⟩
    · rw [take_getD _ _ _ (by omega)]; exact hcell i (by omega)
    · have := bounds_u8 (hwz n (List.mem_of_mem_take hn)); omega
    · have hp : 0 < (zs.take len).length := List.length_pos_iff.2 h
      have h0 := hcell 0 (by omega)
      have := World.block_lt_of_cell? W _ h0
      rw [block_add] at this
      cases hk
      exact this

/-- The array of twelve bytes that came in, opened. -/
theorem open_room {H : Type} {enc : TypeId × Value → H} {W : World} {v : Value} {base : Nat} {d : DataW H} {p : List MemPlace} (hv : Value.okWide Ybad.prog W .any base 24 v)
    (h : DataW.Trod enc Ybad.prog W 0 (fun _ => true) true 24 v d p) : ∃ x0 x1 x2 x3 x4 x5 x6 x7 x8 x9 x10 x11 : Int,
      v = .agg #[.int .u8 x0, .int .u8 x1, .int .u8 x2, .int .u8 x3, .int .u8 x4, .int .u8 x5, .int .u8 x6, .int .u8 x7, .int .u8 x8, .int .u8 x9, .int .u8 x10, .int .u8 x11] := by
  obtain ⟨cs, rfl⟩ : ∃ cs, v = .agg cs := by
    unfold Value.okWide at hv
    rw [Ybad.underlying24] at hv
    obtain ⟨cs, h, _⟩ := hv
    exact ⟨cs, h⟩
  obtain ⟨fuel, hf⟩ := h
  obtain ⟨xs, m, rfl, _, hl, hn, hel⟩ := DataW.trod_array Ybad.underlying24 hf
  rw [Ybad.cells5] at hel
  rw [cells24] at hl
  have key : ∀ i, i < 12 → ∃ x, cs[i]? = some (Value.int .u8 x) := by
    intro i hi
    have h1 := hel i hi
    rw [List.getElem?_eq_getElem (by omega)] at h1
    obtain ⟨k, e1, _, _⟩ := DataW.trod_int Ybad.underlying5 h1
    refine ⟨k, ?_⟩
    have h2 : ((cs.toList.drop i).take 1)[0]? = some (Value.int .u8 k) := by
      have := congrArg (fun l : List Value => l[0]?) e1
      simpa [Value.cells] using this
    simpa [List.getElem?_take, List.getElem?_drop] using h2
  obtain ⟨x0, e0⟩ := key 0 (by decide)
  obtain ⟨x1, e1⟩ := key 1 (by decide)
  obtain ⟨x2, e2⟩ := key 2 (by decide)
  obtain ⟨x3, e3⟩ := key 3 (by decide)
  obtain ⟨x4, e4⟩ := key 4 (by decide)
  obtain ⟨x5, e5⟩ := key 5 (by decide)
  obtain ⟨x6, e6⟩ := key 6 (by decide)
  obtain ⟨x7, e7⟩ := key 7 (by decide)
  obtain ⟨x8, e8⟩ := key 8 (by decide)
  obtain ⟨x9, e9⟩ := key 9 (by decide)
  obtain ⟨x10, e10⟩ := key 10 (by decide)
  obtain ⟨x11, e11⟩ := key 11 (by decide)
  refine ⟨x0, x1, x2, x3, x4, x5, x6, x7, x8, x9, x10, x11, congrArg Value.agg ?_⟩
  have hsz : cs.size = 12 := by simpa [Value.cells] using hl
  apply Array.ext (by rw [hsz]; rfl)
  intro i h1 h2
  have hi : i < 12 := by omega
  have hi' : i = 0 ∨ i = 1 ∨ i = 2 ∨ i = 3 ∨ i = 4 ∨ i = 5 ∨ i = 6 ∨ i = 7 ∨ i = 8 ∨ i = 9 ∨ i = 10 ∨ i = 11 := by omega
  rcases hi' with rfl | rfl | rfl | rfl | rfl | rfl | rfl | rfl | rfl | rfl | rfl | rfl <;> (rw [Array.getElem?_eq_getElem h1] at *; simp_all)
end Go.Proofs.YbulkcdyDoor.noise
