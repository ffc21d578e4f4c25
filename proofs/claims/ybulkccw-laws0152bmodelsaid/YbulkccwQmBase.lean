/- The vocabulary of the qm walks: what a step may have written ('Out'), an owned row carried on, append with the block told; a message's fifteen cells. -/
import Derived.Test.YbulkccwRows
import Derived.WalkKit
import Derived.ProofKit
import Derived.Below
import Derived.OwnWalk
import Derived.WalkSmall
namespace Go.Proofs.Ybulkccw.qm
open Go Go.ChangeShapes Go.WideShapes Go.ChangeAt Go.RowKit
set_option linter.unusedVariables false

theorem hide {p : Prop} (h : p) : Hid p := h
theorem ret_bool {a b : Bool} (h : a = b) : Ending.returned (.bool a) = .returned (.bool b) := by rw [h]

/-- From w to w' only blocks in S, and new ones, have been written. -/
structure Out (S : Nat → Prop) (w w' : World) : Prop where
  os : w'.os = w.os
  tape : w'.tape = w.tape
  output : w'.output = w.output
  size : w.heap.size ≤ w'.heap.size
  block : ∀ k, k < w.heap.size → ¬ S k → w'.heap[k]? = w.heap[k]?

section
variable {S T : Nat → Prop} {a b c w w' : World}

theorem Out.refl (S : Nat → Prop) (w : World) : Out S w w := ⟨rfl, rfl, rfl, Nat.le_refl _, fun _ _ _ => rfl⟩
theorem Out.trans (h : Out S a b) (k : Out T b c) (hT : ∀ x, x < a.heap.size → T x → S x) : Out S a c :=
  ⟨k.os.trans h.os, k.tape.trans h.tape, k.output.trans h.output, Nat.le_trans h.size k.size,
    fun i hi hs => (k.block i (Nat.lt_of_lt_of_le hi h.size) (fun t => hs (hT i hi t))).trans (h.block i hi hs)⟩
theorem Out.drew (h : Out S a w) : Out S a w.drew := ⟨h.os, h.tape, h.output, h.size, h.block⟩
theorem Out.drewN (h : Out S a w) (n : Nat) : Out S a (w.drewN n) := ⟨h.os, h.tape, h.output, h.size, h.block⟩
theorem Out.alloc (h : Out S a w) (o : Obj) : Out S a (w.alloc o) :=
  h.trans (T := fun _ => False) ⟨rfl, rfl, rfl, by simp, fun k hk _ => Below.heap_alloc _ _ _ hk⟩ (fun _ _ t => t.elim)
theorem Out.setCell (h : Out S a w) {p : Addr} (hp : p.block < a.heap.size → S p.block) (u : Value) : Out S a (w.setCell p u) :=
  h.trans (T := fun k => k = p.block) ⟨rfl, rfl, rfl, by simp [World.setCell], fun k _ hs => Below.heap_setCell _ _ _ _ hs⟩ (fun x hx t => by subst t; exact hp hx)
theorem Out.grown (h : Out S a w) {row : Option Nat} (hg : w.grownBy w' row) (hr : ∀ k, row = some k → k < a.heap.size → S k) : Out S a w' :=
  h.trans (T := fun k => row = some k) ⟨hg.os, hg.tape, hg.output, hg.size, fun k hk hs => hg.block k hk (fun e => hs e.symm)⟩ (fun x hx t => hr x t hx)
theorem Out.mono (h : Out S a w) (hT : ∀ x, S x → T x) : Out T a w := ⟨h.os, h.tape, h.output, h.size, fun k hk hs => h.block k hk (fun s => hs (hT k s))⟩
theorem Out.cell (h : Out S w w') {p : Addr} (hp : p.block < w.heap.size) (hs : ¬ S p.block) : w'.cell? p = w.cell? p := World.cell?_of_block (w := w) (h.block p.block hp hs)
theorem Out.frozen (h : Out S w w') {p : Addr} (hp : p.block < w.heap.size) (hs : ¬ S p.block) : w'.frozen? p = w.frozen? p := World.frozen?_of_block (w := w) (h.block p.block hp hs)
theorem Out.below (h : Out S w w') {B : Nat} (hB : B ≤ w.heap.size) (hS : ∀ k, k < B → ¬ S k) : Below B w w' :=
  ⟨h.os, h.tape, h.output, h.size, fun k hk => h.block k (Nat.lt_of_lt_of_le hk hB) (hS k hk)⟩
end

/-- No block. -/
def NoOne (_ : Nat) : Prop := False
/-- Block A and no other. -/
def Only (A k : Nat) : Prop := k = A
theorem Only.self (A : Nat) : Only A A := rfl
theorem Out.any {S : Nat → Prop} {a w : World} (h : Out NoOne a w) : Out S a w := h.mono (fun _ f => f.elim)
theorem Out.grew {S : Nat → Prop} {a w w' : World} (h : Out S a w) (hg : w.grownBy w' none) : Out S a w' := h.grown hg (fun _ e => by cases e)

theorem owns_out {S : Nat → Prop} {w w' : World} {base n : Nat} {e : TypeId} {size : Nat} {v : Value} {xs : List Value} (h : w.ownsRow base e size v n xs) (o : Out S w w') (hS : ∀ k, v.ownBlock = some k → ¬ S k) : w'.ownsRow base e size v n xs := by
  refine ⟨h.1, ?_⟩
  rcases h.2 with h | ⟨g, cap, cur, hv, hg, hh, r⟩
  · exact .inl h
  · refine .inr ⟨g, cap, cur, hv, hg, ?_, r⟩
    rw [o.block g (by rcases Nat.lt_or_ge g w.heap.size with h | h; exact h; rw [Array.getElem?_eq_none h] at hh; cases hh) (hS g (by rw [hv]; rfl))]
    exact hh

section
variable {P : Program} (w : World)

theorem run_append_own2 (base : Nat) (t ty e : TypeId) (i : TypeInfo) (z : Value) (size bytes : Nat) (ht : P.underlying t = some (.slice e)) (hi : P.info? e = some i) (hz : i.zero = some z)
    (hsize : i.size = size) (hby : i.bytes = bytes) (hzs : z.cells.size = size) (hsz : 0 < size)
    (v : Value) (n : Nat) (xs : List Value) (hown : w.ownsRow base e size v n xs)
    (a : Addr) (m c : Nat) (news : List Value) (hl : news.length = m * size) (hnews : ∀ j u, news[j]? = some u → w.cell? (a.add j) = some u) (h1 : ∀ u ∈ news, u.oneCell' = true)
    (h63 : n + m ≤ maxLen) (hbytes : (n + m) * bytes ≤ 140737488355328) (hbase : base ≤ w.heap.size) :
    ∃ v' w', (Builtin.append_ #[t, t] ty #[v, .slice (some a) m c]).run P w = .ok v' w' ∧ w'.ownsRow base e size v' (n + m) (xs ++ news) ∧ w.grownBy w' v.ownBlock ∧
      (v'.ownBlock = v.ownBlock ∨ v'.ownBlock = some w.heap.size) := by
  obtain ⟨v', w', hrun, ho, hg, hnil⟩ := run_append_own (P := P) w base t ty e i z size bytes ht hi hz hsize hby hzs hsz v n xs hown a m c news hl hnews h1 h63 hbytes hbase
  refine ⟨v', w', hrun, ho, hg, ?_⟩
  subst hsize
  subst hby
  have hsmall : n + m ≤ 9223372036854775807 := by simp only [maxLen] at h63; omega
  rcases hown.2 with ⟨rfl, rfl⟩ | ⟨g, cap, cur, rfl, hbg, hgg, hnc, hcm, hcs, htake⟩
  · by_cases hm : m = 0
    · left
      rw [hnil.2 ⟨rfl, hm⟩]
    · right
      have hr := run_append_nil (P := P) w t ty e i z ht hi hz a m c news hl hnews (by omega) (by omega) (by have hb := hbytes; simp only [Nat.zero_add] at hb; omega)
      rw [hr] at hrun
      cases hrun
      rfl
  · by_cases hroom : n + m ≤ cap
    · left
      have hfit : n * i.size + news.length ≤ cur.size := by rw [hl, hcs, ← Nat.add_mul]; exact Nat.mul_le_mul_right _ hroom
      have hr := run_append_room (P := P) w t ty e i ht hi g n cap cur hgg a m c news hl hnews h1 hroom hfit
      rw [hr] at hrun
      cases hrun
      rfl
    · right
      have holds : ∀ j u, xs[j]? = some u → w.cell? ((⟨g, 0, none⟩ : Addr).add j) = some u := hown.cells (g := g) rfl
      have hr := run_append_grow (P := P) w t ty e i z ht hi hz ⟨g, 0, none⟩ n cap xs hown.1 holds a m c news hl hnews (by omega) (by omega) (growslice_fits (by omega) hbytes)
      rw [hr] at hrun
      cases hrun
      rfl

theorem wpList_append_own2 {ops : Array Oper} {rest : List Oper} {o : Oper} {a : Act} {Q : Exit → Act → World → Prop} (hgd : o.guard = none) (s x : Operand) (t : TypeId)
    (ho : o.op = .call { callee := .builtin .append, args := #[s, x], argTypes := #[t, t] })
    (base : Nat) (e : TypeId) (i : TypeInfo) (z : Value) (size bytes : Nat) (ht : P.underlying t = some (.slice e)) (hi : P.info? e = some i) (hz : i.zero = some z)
    (hsize : i.size = size) (hby : i.bytes = bytes) (hzs : z.cells.size = size) (hsz : 0 < size)
    (v : Value) (n : Nat) (xs : List Value) (hs : a.eval s = v) (hown : w.ownsRow base e size v n xs)
    (ad : Addr) (m c : Nat) (news : List Value) (hx : a.eval x = .slice (some ad) m c) (hl : news.length = m * size) (hnews : ∀ j u, news[j]? = some u → w.cell? (ad.add j) = some u) (h1 : ∀ u ∈ news, u.oneCell' = true)
    (h63 : n + m ≤ maxLen) (hbytes : (n + m) * bytes ≤ 140737488355328) (hbase : base ≤ w.heap.size)
    (h : ∀ v' w', w'.ownsRow base e size v' (n + m) (xs ++ news) → w.grownBy w' v.ownBlock → (v'.ownBlock = v.ownBlock ∨ v'.ownBlock = some w.heap.size) → wpList P ops Q rest (a.put o.dst v') w') : wpList P ops Q (o :: rest) a w := by
  refine wpList_plain hgd fun K hK => ?_
  obtain ⟨v', w', hr, h2, h3, h4⟩ := run_append_own2 (P := P) w base t o.type e i z size bytes ht hi hz hsize hby hzs hsz v n xs hown ad m c news hl hnews h1 h63 hbytes hbase
  unfold Oper.wp execOp
  simp only [ho, resolve, invoke, builtin, Sem.run_bind, Sem.run_pure, Result.andThen_ok, List.map_toArray, List.map_cons, List.map_nil, hs, hx, hr]
  exact hK _ _ (h v' w' h2 h3 h4)
end

/-- A message as the law builds it: context, source, disambiguation, state; all other fields zero. -/
structure Msg where
  c : ByteArray
  s : ByteArray
  d : ByteArray
  t : Int

def Msg.zero : Msg := ⟨ByteArray.empty, ByteArray.empty, ByteArray.empty, 0⟩
def e0 : ByteArray := ⟨#[]⟩
/-- Its fifteen cells. -/
def mcells (m : Msg) : List Value :=
  [.string m.c, .string m.s, .string ⟨#[]⟩, .string m.d, .bool false, .string ⟨#[]⟩, .string ⟨#[]⟩, .string ⟨#[]⟩, .string ⟨#[]⟩, .slice none 0 0, .bool false, .slice none 0 0, .int .i64 m.t, .slice none 0 0, .string ⟨#[]⟩]
theorem mcells_length (m : Msg) : (mcells m).length = 15 := rfl
/-- A row of messages, cell by cell. -/
def flat : List Msg → List Value
  | [] => []
  | m :: r => mcells m ++ flat r
theorem flat_length : ∀ ms : List Msg, (flat ms).length = ms.length * 15
  | [] => rfl
  | m :: r => by rw [flat, List.length_append, flat_length r, mcells_length, List.length_cons]; omega
theorem flat_append : ∀ a b : List Msg, flat (a ++ b) = flat a ++ flat b
  | [], _ => rfl
  | m :: r, b => by rw [List.cons_append, flat, flat_append r b, flat, List.append_assoc]
theorem flat_get : ∀ (ms : List Msg) (j i : Nat), j < ms.length → i < 15 → (flat ms)[j * 15 + i]? = (mcells (ms.getD j .zero))[i]?
  | m :: r, 0, i, _, hi => by
    rw [flat, Nat.zero_mul, Nat.zero_add, List.getElem?_append_left (by rw [mcells_length]; exact hi)]; rfl
  | m :: r, j + 1, i, hj, hi => by
    rw [flat, List.getElem?_append_right (by rw [mcells_length]; omega), mcells_length, show (j + 1) * 15 + i - 15 = j * 15 + i by omega, flat_get r j i (by simpa using hj) hi]; rfl

/-- The messages ms lie in block b from its head on. -/
def Ms (w : World) (b : Nat) (ms : List Msg) : Prop := ∀ j, j < ms.length → ∀ i, i < 15 → w.cell? ⟨b, j * 15 + i, none⟩ = (mcells (ms.getD j .zero))[i]?
theorem Ms.out {S : Nat → Prop} {w w' : World} {b : Nat} {ms : List Msg} (h : Ms w b ms) (o : Out S w w') (hb : b < w.heap.size) (hS : ¬ S b) : Ms w' b ms := fun j hj i hi => by
  rw [o.cell (p := ⟨b, j * 15 + i, none⟩) hb hS]; exact h j hj i hi
theorem Ms.ofOwn {w : World} {base g cap : Nat} {ms : List Msg} (h : w.ownsRow base 32 15 (.slice (some ⟨g, 0, none⟩) ms.length cap) ms.length (flat ms)) : Ms w g ms := fun j hj i hi => by
  rw [h.cellAt (j * 15 + i) (by omega), flat_get ms j i hj hi]
theorem Ms.c {w : World} {b : Nat} {ms : List Msg} (h : Ms w b ms) (j : Nat) (hj : j < ms.length) : w.cell? ⟨b, j * 15, none⟩ = some (.string (ms.getD j .zero).c) := h j hj 0 (by decide)
theorem Ms.s {w : World} {b : Nat} {ms : List Msg} (h : Ms w b ms) (j : Nat) (hj : j < ms.length) : w.cell? ⟨b, j * 15 + 1, none⟩ = some (.string (ms.getD j .zero).s) := h j hj 1 (by decide)
theorem Ms.d {w : World} {b : Nat} {ms : List Msg} (h : Ms w b ms) (j : Nat) (hj : j < ms.length) : w.cell? ⟨b, j * 15 + 3, none⟩ = some (.string (ms.getD j .zero).d) := h j hj 3 (by decide)
end Go.Proofs.Ybulkccw.qm
