/- The walks of binary.BigEndian.PutUint32 at 0, PutUint64, and of gcmNonce (functions 10, 11, 9). -/
import Derived.Test.YbulkcdyDoorBase
import Derived.RegionTactic
import Derived.RegionCalls
import Derived.Deep.RegionWith
import Derived.Outline
import Derived.Laws.IdiomCopy
namespace Go.Proofs.YbulkcdyDoor.noise
open Go Go.ChangeShapes Go.WideShapes Go.ChangeAt Go.RowKit
set_option linter.unusedVariables false

theorem Out.setCells {S : Nat → Prop} {a : World} {b : Nat} (hb : b < a.heap.size → S b) : ∀ (vs : List Value) (o : Nat) (w : World), Out S a w → Out S a (w.setCells b o vs)
  | [], _, _, h => h
  | v :: r, o, w, h => Out.setCells hb r (o + 1) _ (h.setCell (p := ⟨b, o, none⟩) hb v)

/-- A row of numbers stored into the cells of block r from o on, and a new block behind: what the world then holds. -/
theorem stored {w : World} {r : Nat} {f : Nat → Int} (hr : r < w.heap.size) (hc : ∀ i, i < 12 → w.cell? ⟨r, i, none⟩ = some (.int .u8 (f i))) (hf : ∀ i, w.frozen? ⟨r, i, none⟩ = false)
    (o : Nat) (xs : List Int) (ho : o + xs.length ≤ 12) (ob : Obj) :
    Out (Only r) w ((w.setCells r o (xs.map (Value.int .u8))).alloc ob) ∧ (∀ i, ((w.setCells r o (xs.map (Value.int .u8))).alloc ob).frozen? ⟨r, i, none⟩ = false) ∧
      (∀ i, i < 12 → i < o ∨ o + xs.length ≤ i → ((w.setCells r o (xs.map (Value.int .u8))).alloc ob).cell? ⟨r, i, none⟩ = some (.int .u8 (f i))) ∧
      ∀ j, j < xs.length → ((w.setCells r o (xs.map (Value.int .u8))).alloc ob).cell? ⟨r, o + j, none⟩ = some (.int .u8 (xs.getD j 0)) := by
  have hout : Out (Only r) w (w.setCells r o (xs.map (Value.int .u8))) := Out.setCells (S := Only r) (fun _ => Only.self r) _ _ _ (Out.refl _ _)
  have hlt : r < (w.setCells r o (xs.map (Value.int .u8))).heap.size := Nat.lt_of_lt_of_le hr hout.size
  refine ⟨hout.alloc _, fun i => ?_, fun i hi h => ?_, fun j hj => ?_⟩
  · rw [World.frozen?_alloc_old _ _ _ (by show r ≠ _; omega), World.frozen?_setCells]; exact hf i
  · rw [World.cell?_alloc_lt _ _ _ hlt, World.cell?_setCells_out _ _ _ _ _ (fun _ _ => by simpa using h)]; exact hc i hi
  · rw [World.cell?_alloc_lt _ _ _ hlt, World.cell?_setCells_in r (xs.map (Value.int .u8)) o w (fun k hk => by rw [hc (o + k) (by simp at hk; omega)]; rfl) j (by simpa using hj)]
    simp [List.getElem?_eq_getElem hj]

set_option maxHeartbeats 1000000 in
theorem put32 (r L C : Nat) (f : Nat → Int) (w : World) (hL : 4 ≤ L) (hC : L ≤ 100) (hr : r < w.heap.size)
    (hc : ∀ i, i < 12 → w.cell? ⟨r, i, none⟩ = some (.int .u8 (f i))) (hf : ∀ i, w.frozen? ⟨r, i, none⟩ = false) :
    Calls Ybad.prog 10 #[.agg #[], .slice (some ⟨r, 0, none⟩) L C, .int .u32 0] w fun e w' => e = .returned (.tuple #[]) ∧
      Out (Only r) w w' ∧ (∀ i, w'.frozen? ⟨r, i, none⟩ = false) ∧
      (∀ i, i < 12 → i < 0 ∨ 0 + 4 ≤ i → w'.cell? ⟨r, i, none⟩ = some (.int .u8 (f i))) ∧ ∀ j, j < 4 → w'.cell? ⟨r, 0 + j, none⟩ = some (.int .u8 (([0, 0, 0, 0] : List Int).getD j 0)) := by
  have fin := stored hr hc hf 0 [0, 0, 0, 0] (by decide) (.cells #[] 48)
  have FIN : Hid _ := hide fin
  clear fin
  go_enter Ybad.func10, Ybad.ntmps10
  go_wp2
  go_end0
  exact ⟨rfl, FIN.out⟩

set_option maxHeartbeats 1000000 in
theorem put64 (r L C : Nat) (f : Nat → Int) (n : Int) (w : World) (hL : 8 ≤ L) (hC : L ≤ 100) (hr : r < w.heap.size) (hn0 : 0 ≤ n) (hn1 : n < 18446744073709551616)
    (hc : ∀ i, i < 12 → w.cell? ⟨r, i, none⟩ = some (.int .u8 (f i))) (hf : ∀ i, w.frozen? ⟨r, i, none⟩ = false) :
    Calls Ybad.prog 11 #[.agg #[], .slice (some ⟨r, 4, none⟩) L C, .int .u64 n] w fun e w' => e = .returned (.tuple #[]) ∧
      Out (Only r) w w' ∧ (∀ i, w'.frozen? ⟨r, i, none⟩ = false) ∧
      (∀ i, i < 12 → i < 4 ∨ 4 + 8 ≤ i → w'.cell? ⟨r, i, none⟩ = some (.int .u8 (f i))) ∧ ∀ j, j < 8 → w'.cell? ⟨r, 4 + j, none⟩ = some (.int .u8 (((nonceL n).drop 4).getD j 0)) := by
  have fin := stored hr hc hf 4 ((nonceL n).drop 4) (by show 4 + 8 ≤ 12; decide) (.cells #[] 48)
  have FIN : Hid _ := hide fin
  clear fin
  go_enter Ybad.func11, Ybad.ntmps11
  go_wp2
  go_end0
  exact ⟨rfl, FIN.out⟩

set_option maxHeartbeats 1000000 in
theorem nonce_calls (r : Nat) (f : Nat → Int) (n : Int) (w : World) (hr : r < w.heap.size) (hn0 : 0 ≤ n) (hn1 : n < 18446744073709551616)
    (hc : ∀ i, i < 12 → w.cell? ⟨r, i, none⟩ = some (.int .u8 (f i))) (hf : ∀ i, w.frozen? ⟨r, i, none⟩ = false) :
    Calls Ybad.prog 9 #[.int .u64 n, .pointer (some ⟨r, 0, none⟩)] w fun e w' => e = .returned (.slice (some ⟨r, 0, none⟩) 12 12) ∧
      Out (Only r) w w' ∧ ∀ i, i < 12 → w'.cell? ⟨r, i, none⟩ = some (.int .u8 ((nonceL n).getD i 0)) := by
  go_enter Ybad.func9, Ybad.ntmps9
  go_wp2_with fail
  go_region_with (go_at_call 10; refine (put32 r 4 12 f _ (by omega) (by omega) ?_ ?_ ?_).mono ?_; exact hr; exact hc; exact hf; rintro e w1 ⟨rfl, o1, f1, c1, d1⟩)
  have hr1 : r < w1.heap.size := Nat.lt_of_lt_of_le hr o1.size
  have hc1 : ∀ i, i < 12 → w1.cell? ⟨r, i, none⟩ = some (.int .u8 (if i < 4 then 0 else f i)) := by
    intro i hi
    by_cases h4 : i < 4
    · rw [if_pos h4]
      have := d1 i h4
      rw [Nat.zero_add] at this
      rw [this]
      have hi' : i = 0 ∨ i = 1 ∨ i = 2 ∨ i = 3 := by omega
      rcases hi' with rfl | rfl | rfl | rfl <;> rfl
    · rw [if_neg h4]; exact c1 i hi (by omega)
  have O1 : Hid (Out (Only r) w w1) := hide ⟨o1.os, o1.tape, o1.output, o1.size, o1.block⟩
  have HC1 : Hid (∀ i, i < 12 → w1.cell? ⟨r, i, none⟩ = some (.int .u8 (if i < 4 then 0 else f i))) := hide hc1
  clear hc hf hr c1 d1 o1 hc1
  go_wp2_with fail
  go_region_with (go_at_call 11; refine (put64 r 8 8 (fun i => if i < 4 then 0 else f i) n _ (by omega) (by omega) ?_ hn0 hn1 ?_ ?_).mono ?_; exact hr1; exact HC1.out; exact f1; rintro e w2 ⟨rfl, o2, f2, c2, d2⟩)
  have hfin : Out (Only r) w w2 ∧ ∀ i, i < 12 → w2.cell? ⟨r, i, none⟩ = some (.int .u8 ((nonceL n).getD i 0)) := by
    refine ⟨O1.out.trans (T := Only r) ⟨o2.os, o2.tape, o2.output, o2.size, o2.block⟩ (fun _ _ t => t), fun i hi => ?_⟩
    by_cases h4 : i < 4
    · rw [c2 i hi (by omega), if_pos h4]
      have hi' : i = 0 ∨ i = 1 ∨ i = 2 ∨ i = 3 := by omega
      rcases hi' with rfl | rfl | rfl | rfl <;> rfl
    · have := d2 (i - 4) (by omega)
      rw [show 4 + (i - 4) = i by omega] at this
      rw [this]
      simp only [List.getD_eq_getElem?_getD, List.getElem?_drop]
      rw [show 4 + (i - 4) = i by omega]
  have FIN := hide hfin
  clear hfin c2 d2 o2 f2 O1 HC1 f1
  go_wp2_with fail
  go_ret
  exact ⟨rfl, FIN.out⟩
end Go.Proofs.YbulkcdyDoor.noise
