/- addLeftOutPlain, plain: the list that it makes, and the state of its loop. And a row of which some places are known. -/
import Derived.Test.YbulkccwQmPlain
namespace Go.Proofs.Ybulkccw.qm
open Go Go.ChangeShapes Go.WideShapes Go.ChangeAt Go.RowKit
set_option linter.unusedVariables false

/-- The left-out plain message of m's group. -/
def plain (m : Msg) : Msg := ⟨m.c, m.s, ⟨#[]⟩, 2⟩
def piece (ms : List Msg) (i : Nat) : List Msg := if first ms i = true then [plain (ms.getD i .zero), ms.getD i .zero] else [ms.getD i .zero]
def outTo (ms : List Msg) (p : Nat) : List Msg := (List.range p).flatMap (piece ms)
def cnt (ms : List Msg) (p : Nat) : Nat := ((List.range p).filter (first ms)).length

theorem outTo_succ (ms : List Msg) (p : Nat) : outTo ms (p + 1) = outTo ms p ++ piece ms p := by
  unfold outTo; rw [List.range_succ, List.flatMap_append]; simp
theorem cnt_succ (ms : List Msg) (p : Nat) : cnt ms (p + 1) = cnt ms p + (if first ms p = true then 1 else 0) := by
  unfold cnt; rw [List.range_succ, List.filter_append, List.length_append]
  by_cases h : first ms p = true <;> simp [h]
theorem outTo_length (ms : List Msg) : ∀ p, (outTo ms p).length = p + cnt ms p
  | 0 => rfl
  | p + 1 => by
    rw [outTo_succ, List.length_append, outTo_length ms p, cnt_succ]
    unfold piece
    by_cases h : first ms p = true
    · rw [if_pos h, if_pos h]; simp; omega
    · rw [if_neg h, if_neg h]; simp; omega
theorem outTo_prefix (ms : List Msg) (p : Nat) : ∀ d j, j < p + cnt ms p → (outTo ms (p + d))[j]? = (outTo ms p)[j]?
  | 0, j, _ => rfl
  | d + 1, j, hj => by
    have hl : (outTo ms p).length ≤ (outTo ms (p + d)).length := by
      rw [outTo_length, outTo_length]
      have : cnt ms p ≤ cnt ms (p + d) := by
        clear hj
        induction d with
        | zero => exact Nat.le_refl _
        | succ d ih => rw [← Nat.add_assoc, cnt_succ]; omega
      omega
    rw [← Nat.add_assoc, outTo_succ, List.getElem?_append_left (by rw [outTo_length] at hl; omega), outTo_prefix ms p d j hj]
theorem outTo_none (ms : List Msg) : ∀ p, cnt ms p = 0 → ∀ j, j < p → (outTo ms p)[j]? = some (ms.getD j .zero)
  | 0, _, j, hj => absurd hj (Nat.not_lt_zero _)
  | p + 1, h, j, hj => by
    rw [cnt_succ] at h
    have hf : ¬ first ms p = true := fun e => by rw [if_pos e] at h; omega
    rw [outTo_succ, piece, if_neg hf]
    have h0 : cnt ms p = 0 := by omega
    by_cases e : j = p
    · subst e
      rw [List.getElem?_append_right (by rw [outTo_length]; omega), outTo_length, h0]; simp
    · rw [List.getElem?_append_left (by rw [outTo_length]; omega)]
      exact outTo_none ms p h0 j (by omega)

def upd (G : Nat → Option Msg) (k : Nat) (m : Msg) : Nat → Option Msg := fun j => if j = k then some m else G j

/-- The loop's state: the places below p hold the messages; those from p and its firsts on hold what is wanted. -/
def Mid (ms : List Msg) (n p : Nat) (G : Nat → Option Msg) : Prop :=
  (∀ j, j < p → G j = some (ms.getD j .zero)) ∧ ∀ j, p + cnt ms p ≤ j → j < n + cnt ms n → G j = (outTo ms n)[j]?

theorem out_at {ms : List Msg} {n p : Nat} (hp : p ≤ n) {j : Nat} (hj : j < p + cnt ms p) : (outTo ms n)[j]? = (outTo ms p)[j]? := by
  obtain ⟨d, rfl⟩ : ∃ d, n = p + d := ⟨n - p, by omega⟩
  exact outTo_prefix ms p d j hj

theorem Mid.skip {ms : List Msg} {n p : Nat} {G : Nat → Option Msg} (h : Mid ms n (p + 1) G) (hp : p + 1 ≤ n) (hf : ¬ first ms p = true) : Mid ms n p (upd G (p + cnt ms (p + 1)) (ms.getD p .zero)) := by
  have hc := cnt_succ ms p
  rw [if_neg hf, Nat.add_zero] at hc
  refine ⟨fun j hj => ?_, fun j h1 h2 => ?_⟩
  · unfold upd; rw [if_neg (by omega)]; exact h.1 j (by omega)
  · unfold upd
    by_cases e : j = p + cnt ms (p + 1)
    · rw [if_pos e, out_at hp (by omega), outTo_succ, piece, if_neg hf, List.getElem?_append_right (by rw [outTo_length]; omega), outTo_length, show j - (p + cnt ms p) = 0 by omega]; rfl
    · rw [if_neg e]; exact h.2 j (by omega) h2
theorem Mid.hit {ms : List Msg} {n p : Nat} {G : Nat → Option Msg} (h : Mid ms n (p + 1) G) (hp : p + 1 ≤ n) (hf : first ms p = true) : Mid ms n p (upd (upd G (p + cnt ms (p + 1)) (ms.getD p .zero)) (p + (cnt ms (p + 1) - 1)) (plain (ms.getD p .zero))) := by
  have hc := cnt_succ ms p
  rw [if_pos hf] at hc
  refine ⟨fun j hj => ?_, fun j h1 h2 => ?_⟩
  · unfold upd; rw [if_neg (by omega), if_neg (by omega)]; exact h.1 j (by omega)
  · unfold upd
    by_cases e : j = p + (cnt ms (p + 1) - 1)
    · rw [if_pos e, out_at hp (by omega), outTo_succ, piece, if_pos hf, List.getElem?_append_right (by rw [outTo_length]; omega), outTo_length, show j - (p + cnt ms p) = 0 by omega]; rfl
    · rw [if_neg e]
      by_cases e' : j = p + cnt ms (p + 1)
      · rw [if_pos e', out_at hp (by omega), outTo_succ, piece, if_pos hf, List.getElem?_append_right (by rw [outTo_length]; omega), outTo_length, show j - (p + cnt ms p) = 1 by omega]; rfl
      · rw [if_neg e']; exact h.2 j (by omega) h2
theorem Mid.done {ms : List Msg} {n p : Nat} {G : Nat → Option Msg} (h : Mid ms n p G) (hp : p ≤ n) (h0 : cnt ms p = 0) (j : Nat) (hj : j < n + cnt ms n) : G j = (outTo ms n)[j]? := by
  by_cases e : j < p
  · rw [h.1 j e, out_at hp (by omega), outTo_none ms p h0 j e]
  · exact h.2 j (by omega) hj
theorem Mid.start {ms : List Msg} {n : Nat} {G : Nat → Option Msg} (h : ∀ j, j < n → G j = some (ms.getD j .zero)) : Mid ms n n G := ⟨h, fun j h1 h2 => by omega⟩

/-- The firsts below p are the first ones of the list of firsts. -/
theorem firsts_at (ms : List Msg) (p : Nat) (hp : p + 1 ≤ ms.length) (hc : 0 < cnt ms (p + 1)) : (firsts ms).getD (cnt ms (p + 1) - 1) 0 = p ↔ first ms p = true := by
  have hpre : ∀ j, j < cnt ms (p + 1) → (firsts ms).getD j 0 = ((List.range (p + 1)).filter (first ms)).getD j 0 := by
    intro j hj
    unfold firsts
    obtain ⟨d, hd⟩ : ∃ d, ms.length = (p + 1) + d := ⟨ms.length - (p + 1), by omega⟩
    rw [hd, List.range_add, List.filter_append, List.getD_eq_getElem?_getD, List.getD_eq_getElem?_getD, List.getElem?_append_left hj]
  rw [hpre _ (by omega)]
  have hs := cnt_succ ms p
  by_cases hf : first ms p = true
  · rw [if_pos hf] at hs
    have hs' : cnt ms (p + 1) = ((List.range p).filter (first ms)).length + 1 := hs
    refine iff_of_true ?_ hf
    rw [List.range_succ, List.filter_append, List.getD_eq_getElem?_getD, List.getElem?_append_right (by omega)]
    simp only [List.filter_cons, hf, if_true, List.filter_nil]
    rw [show cnt ms (p + 1) - 1 - ((List.range p).filter (first ms)).length = 0 by omega]; rfl
  · refine iff_of_false ?_ hf
    rw [if_neg hf, Nat.add_zero] at hs
    intro e
    have hm : ((List.range (p + 1)).filter (first ms)).getD (cnt ms (p + 1) - 1) 0 ∈ (List.range (p + 1)).filter (first ms) := by
      rw [List.getD_eq_getElem?_getD, List.getElem?_eq_getElem (by show _ < cnt ms (p + 1); omega)]; exact List.getElem_mem _
    rw [e] at hm
    exact hf (List.mem_filter.1 hm).2

/-- Block B is a row of cap messages' cells that may be written; of the places that G tells, the messages. -/
def RowG (w : World) (B cap : Nat) (G : Nat → Option Msg) : Prop :=
  ∃ f, w.rowIs B 32 (cap * 15) f ∧ ∀ j m, j < cap → G j = some m → ∀ i, i < 15 → some (f (j * 15 + i)) = (mcells m)[i]?
section
variable {w w' : World} {B cap : Nat} {G : Nat → Option Msg}
theorem RowG.lt (h : RowG w B cap G) : B < w.heap.size := by obtain ⟨f, hf, _⟩ := h; exact hf.lt
theorem RowG.cell (h : RowG w B cap G) {j i : Nat} {m : Msg} (hj : j < cap) (hG : G j = some m) (hi : i < 15) : w.cell? ⟨B, j * 15 + i, none⟩ = (mcells m)[i]? := by
  obtain ⟨f, hf, hm⟩ := h
  rw [hf.cell (by omega)]; exact hm j m hj hG i hi
theorem RowG.there (h : RowG w B cap G) {j : Nat} (hj : j < cap) : w.there B (j * 15) 15 := fun i hi => by
  obtain ⟨f, hf, hm⟩ := h
  exact ⟨by rw [hf.cell (by omega)]; rfl, hf.frozen _⟩
theorem RowG.of_block (h : RowG w B cap G) (e : w'.heap[B]? = w.heap[B]?) : RowG w' B cap G := by
  obtain ⟨f, hf, hm⟩ := h
  exact ⟨f, hf.of_block e, hm⟩
theorem RowG.drew (h : RowG w B cap G) : RowG w.drew B cap G := h.of_block rfl
theorem RowG.put (h : RowG w B cap G) (k : Nat) (hk : k < cap) (m : Msg) : RowG (w.setCells B (k * 15) (mcells m)) B cap (upd G k m) := by
  obtain ⟨f, hf, hm⟩ := h
  refine ⟨_, rowIs_setCells _ _ _ _ hf, fun j u hj hG i hi => ?_⟩
  show some (if k * 15 ≤ j * 15 + i ∧ j * 15 + i < k * 15 + (mcells m).length then (mcells m)[j * 15 + i - k * 15]?.getD default else f (j * 15 + i)) = (mcells u)[i]?
  rw [mcells_length]
  unfold upd at hG
  by_cases e : j = k
  · rw [if_pos e, Option.some.injEq] at hG
    subst e hG
    rw [if_pos (by omega), show j * 15 + i - j * 15 = i by omega, List.getElem?_eq_getElem (by rw [mcells_length]; exact hi)]; rfl
  · rw [if_neg e] at hG
    rw [if_neg (by omega)]; exact hm j u hj hG i hi
end
theorem Row.toG {w : World} {B cap n : Nat} {M : Nat → Msg} (h : Row w B cap n M) : RowG w B cap (fun j => if j < n then some (M j) else none) := by
  obtain ⟨hc, f, hf, hm⟩ := h
  refine ⟨f, hf, fun j m hj hG i hi => ?_⟩
  by_cases e : j < n
  · simp only [e, if_true, Option.some.injEq] at hG; subst hG; exact hm j e i hi
  · simp [e] at hG
end Go.Proofs.Ybulkccw.qm
