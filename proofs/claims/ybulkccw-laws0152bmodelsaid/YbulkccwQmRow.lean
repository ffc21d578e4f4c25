/- A block of messages that may be written: its laws. The load and the store of a whole message. -/
import Derived.Test.YbulkccwQmBase
import Derived.Lib.LazyBuf
import Derived.Deep.MidRow
import Derived.WalkLawsBesides
import Derived.Handy
namespace Go.Proofs.Ybulkccw.qm
open Go Go.ChangeShapes Go.WideShapes Go.ChangeAt Go.RowKit
set_option linter.unusedVariables false

theorem Yba.info32 : (Yba.prog.info? 32).map (fun i => (i.zero, i.size, i.bytes)) = some (some (.agg (mcells .zero).toArray), 15, 240) := by kernel_rfl
theorem Yba.size32 : (Yba.prog.info? 32).map (·.size) = some 15 := by kernel_rfl

/-- The store of a message, under a name of its own: the walk's simp would open it. -/
def putM (p v : Value) : Sem Unit := Instr.storeAt 32 p v
theorem putM_fold (p v : Value) : Instr.storeAt 32 p v = putM p v := rfl
/-- The load of a message, likewise. -/
def getM (p : Value) : Sem Value := Instr.loadAt 32 p
theorem getM_fold (p : Value) : Instr.loadAt 32 p = getM p := rfl

theorem run_putM (W : World) (B o : Nat) (m : Msg) (ht : W.there B o 15) : Sem.run Yba.prog (putM (.pointer (some ⟨B, o, none⟩)) (.agg (mcells m).toArray)) W = .ok () (W.setCells B o (mcells m)) :=
  run_storeAt_mid (P := Yba.prog) W B o 32 (mcells m).toArray ht (by rw [Yba.size32]; rfl) (by simp [mcells, Value.oneCell'])
theorem Yba.row32 : (Yba.prog.underlying 32).map (·.isRow) = some true := by kernel_rfl
theorem run_getM (W : World) (B o : Nat) (m : Msg) (h : ∀ i, i < 15 → W.cell? ⟨B, o + i, none⟩ = (mcells m)[i]?) : Sem.run Yba.prog (getM (.pointer (some ⟨B, o, none⟩))) W = .ok (.agg (mcells m).toArray) W := by
  have hr := Yba.row32
  cases hu : Yba.prog.underlying 32 with
  | none => rw [hu] at hr; cases hr
  | some d =>
    rw [hu] at hr
    refine run_loadAt_mid (P := Yba.prog) W B o 32 (mcells m) d (fun j v hv => ?_) hu (by simpa using hr) (by rw [Yba.size32]; rfl)
    rw [h j (by rw [← mcells_length m]; exact (List.getElem?_eq_some_iff.1 hv).1), hv]

theorem make_ms (n c : Nat) (C : Int) (hC : C = (c : Int)) (hnc : n ≤ c) (hc : c ≤ 1000000) (W : World) : (Instr.makeSlice 23 (.int .i64 (n : Int)) (.int .i64 C)).run Yba.prog W =
    .ok (.slice (some ⟨W.heap.size, 0, none⟩) n c) (W.alloc (.cells (madeCells (mcells .zero).toArray (c * 15)) 32)) := by
  subst hC
  obtain ⟨i, hi, h0, h1, h2⟩ := info_parts Yba.info32
  have := run_make (P := Yba.prog) W 23 32 i _ Yba.underlying23 hi h0 .i64 .i64 (n : Int) (c : Int) (by omega) (by omega) (by rw [h2]; omega) (by omega)
  rw [this, h1]
  simp [Value.cells]

theorem Out.setCells {S : Nat → Prop} {a : World} {B : Nat} (hp : B < a.heap.size → S B) : ∀ (vs : List Value) (o : Nat) (w : World), Out S a w → Out S a (w.setCells B o vs)
  | [], _, _, h => h
  | v :: r, o, w, h => Out.setCells hp r (o + 1) _ (h.setCell (p := ⟨B, o, none⟩) hp v)

theorem Out.put (Y : World) (B o : Nat) (vs : List Value) : Out (Only B) Y (Y.drew.setCells B o vs) := Out.setCells (fun _ => Only.self B) vs o _ (Out.drew (Out.refl _ Y))
theorem Out.put' (Y : World) (B o : Nat) (vs : List Value) : Out (Only B) Y (Y.setCells B o vs) := Out.setCells (fun _ => Only.self B) vs o _ (Out.refl _ Y)
theorem new_at {V : World} {o : Obj} {N : Nat} (h : N = V.heap.size) : (V.alloc o).heap[N]? = some o := by rw [h]; exact Deep.blk_alloc_new _ _

/-- Block B is a row of cap messages' cells that may be written; the first n of them are messages M. -/
def Row (w : World) (B cap n : Nat) (M : Nat → Msg) : Prop :=
  n ≤ cap ∧ ∃ f, w.rowIs B 32 (cap * 15) f ∧ ∀ j, j < n → ∀ i, i < 15 → some (f (j * 15 + i)) = (mcells (M j))[i]?

section
variable {w w' : World} {B cap n : Nat} {M : Nat → Msg}

theorem Row.lt (h : Row w B cap n M) : B < w.heap.size := by obtain ⟨_, f, hf, _⟩ := h; exact hf.lt
theorem Row.le (h : Row w B cap n M) : n ≤ cap := h.1
theorem Row.cell (h : Row w B cap n M) {j i : Nat} (hj : j < n) (hi : i < 15) : w.cell? ⟨B, j * 15 + i, none⟩ = (mcells (M j))[i]? := by
  obtain ⟨hc, f, hf, hm⟩ := h
  rw [hf.cell (by omega)]; exact hm j hj i hi
theorem Row.there (h : Row w B cap n M) {j : Nat} (hj : j < cap) : w.there B (j * 15) 15 := fun i hi => by
  obtain ⟨hc, f, hf, hm⟩ := h
  exact ⟨by rw [hf.cell (by omega)]; rfl, hf.frozen _⟩
theorem Row.of_block (h : Row w B cap n M) (e : w'.heap[B]? = w.heap[B]?) : Row w' B cap n M := by
  obtain ⟨hc, f, hf, hm⟩ := h
  exact ⟨hc, f, hf.of_block e, hm⟩
theorem Row.drew (h : Row w B cap n M) : Row w.drew B cap n M := h.of_block rfl
theorem Row.alloc (h : Row w B cap n M) (o : Obj) : Row (w.alloc o) B cap n M := h.of_block (Below.heap_alloc _ _ _ h.lt)
theorem Row.out {S : Nat → Prop} (h : Row w B cap n M) (o : Out S w w') (hS : ¬ S B) : Row w' B cap n M := h.of_block (o.block B h.lt hS)
theorem Row.congr {M' : Nat → Msg} (h : Row w B cap n M) (e : ∀ j, j < n → M j = M' j) : Row w B cap n M' := by
  obtain ⟨hc, f, hf, hm⟩ := h
  exact ⟨hc, f, hf, fun j hj i hi => by rw [← e j hj]; exact hm j hj i hi⟩
theorem Row.less {k : Nat} (h : Row w B cap n M) (e : k ≤ n) : Row w B cap k M := by
  obtain ⟨hc, f, hf, hm⟩ := h
  exact ⟨by omega, f, hf, fun j hj i hi => hm j (by omega) i hi⟩
theorem Row.ms {ms : List Msg} (h : Row w B cap n M) (hn : ms.length ≤ n) (e : ∀ j, j < ms.length → M j = ms.getD j .zero) : Ms w B ms := fun j hj i hi => by
  rw [h.cell (by omega) hi, e j hj]
theorem Row.put (h : Row w B cap n M) (k : Nat) (hk : k < n) (m : Msg) : Row (w.setCells B (k * 15) (mcells m)) B cap n (fun j => if j = k then m else M j) := by
  obtain ⟨hc, f, hf, hm⟩ := h
  refine ⟨hc, _, rowIs_setCells _ _ _ _ hf, fun j hj i hi => ?_⟩
  show some (if k * 15 ≤ j * 15 + i ∧ j * 15 + i < k * 15 + (mcells m).length then (mcells m)[j * 15 + i - k * 15]?.getD default else f (j * 15 + i)) = (mcells (if j = k then m else M j))[i]?
  rw [mcells_length]
  by_cases e : j = k
  · subst e
    rw [if_pos (by omega), if_pos rfl, show j * 15 + i - j * 15 = i by omega, List.getElem?_eq_getElem (by rw [mcells_length]; exact hi)]; rfl
  · rw [if_neg (by omega), if_neg e]; exact hm j hj i hi
end

theorem Row.made (w : World) (c n N : Nat) (hn : n ≤ c) (hN : N = w.heap.size) : Row (w.alloc (.cells (madeCells (mcells .zero).toArray (c * 15)) 32)) N c n (fun _ => .zero) := by
  subst hN
  refine ⟨hn, fun j => (mcells .zero).toArray[j % 15]!, ⟨_, Deep.blk_alloc_new _ _, size_madeCells _ _, fun i hi => ?_⟩, fun j hj i hi => ?_⟩
  · simp only [madeCells]
    rw [Array.getElem?_map, Array.getElem?_range, if_pos hi]; rfl
  · show some ((mcells .zero).toArray[(j * 15 + i) % 15]!) = _
    rw [show (j * 15 + i) % 15 = i by omega, List.getElem!_toArray, List.getElem!_eq_getElem?_getD, List.getElem?_eq_getElem (by rw [mcells_length]; exact hi)]; rfl
end Go.Proofs.Ybulkccw.qm
