/- The vocabulary of this seat's walks: what a step may have written ('Out'), what a slice of bytes reads as ('Bs'), the nonce's bytes; and the laws by which they are carried on. -/
import Derived.Test.YbulkcdyDoorRows
import Derived.Test.YbulkcdyDoorLaws
import Derived.WalkKit
import Derived.ProofKit
import Derived.Below
import Derived.OwnWalk
import Derived.Laws.AppendOwnNone
import Derived.Laws.BytesArg
import Derived.Laws.BitsAllLaws
import Derived.WalkSmall
namespace Go.Proofs.YbulkcdyDoor.noise
open Go Go.ChangeShapes Go.WideShapes Go.ChangeAt Go.RowKit
set_option linter.unusedVariables false

theorem hide {p : Prop} (h : p) : Hid p := h
theorem ret_bool {a b : Bool} (h : a = b) : Ending.returned (.bool a) = .returned (.bool b) := by rw [h]

/-- From w to w' only blocks in S, and new ones, have been written. -/
structure Out (S : Nat → Prop) (w w' : World) : Prop where
  os : w'.os = w.os
  tape : w'.tape = w.tape
  output : w'.output = w.output
  size : w.heap.size ≤ w'.heap.size
  block : ∀ k, k < w.heap.size → ¬ S k → w'.heap[k]? = w.heap[k]?

section
variable {S T : Nat → Prop} {a b c w w' : World}

theorem Out.refl (S : Nat → Prop) (w : World) : Out S w w := ⟨rfl, rfl, rfl, Nat.le_refl _, fun _ _ _ => rfl⟩
theorem Out.trans (h : Out S a b) (k : Out T b c) (hT : ∀ x, x < a.heap.size → T x → S x) : Out S a c :=
  ⟨k.os.trans h.os, k.tape.trans h.tape, k.output.trans h.output, Nat.le_trans h.size k.size,
    fun i hi hs => (k.block i (Nat.lt_of_lt_of_le hi h.size) (fun t => hs (hT i hi t))).trans (h.block i hi hs)⟩
theorem Out.drew (h : Out S a w) : Out S a w.drew := ⟨h.os, h.tape, h.output, h.size, h.block⟩
theorem Out.drewN (h : Out S a w) (n : Nat) : Out S a (w.drewN n) := ⟨h.os, h.tape, h.output, h.size, h.block⟩
theorem Out.alloc (h : Out S a w) (o : Obj) : Out S a (w.alloc o) :=
  h.trans (T := fun _ => False) ⟨rfl, rfl, rfl, by simp, fun k hk _ => Below.heap_alloc _ _ _ hk⟩ (fun _ _ t => t.elim)
theorem Out.setCell (h : Out S a w) {p : Addr} (hp : p.block < a.heap.size → S p.block) (u : Value) : Out S a (w.setCell p u) :=
  h.trans (T := fun k => k = p.block) ⟨rfl, rfl, rfl, by simp [World.setCell], fun k _ hs => Below.heap_setCell _ _ _ _ hs⟩ (fun x hx t => by subst t; exact hp hx)
theorem Out.grown (h : Out S a w) {row : Option Nat} (hg : w.grownBy w' row) (hr : ∀ k, row = some k → k < a.heap.size → S k) : Out S a w' :=
  h.trans (T := fun k => row = some k) ⟨hg.os, hg.tape, hg.output, hg.size, fun k hk hs => hg.block k hk (fun e => hs e.symm)⟩ (fun x hx t => hr x t hx)
theorem Out.mono (h : Out S a w) (hT : ∀ x, S x → T x) : Out T a w := ⟨h.os, h.tape, h.output, h.size, fun k hk hs => h.block k hk (fun s => hs (hT k s))⟩
theorem Out.cell (h : Out S w w') {p : Addr} (hp : p.block < w.heap.size) (hs : ¬ S p.block) : w'.cell? p = w.cell? p := World.cell?_of_block (w := w) (h.block p.block hp hs)
theorem Out.frozen (h : Out S w w') {p : Addr} (hp : p.block < w.heap.size) (hs : ¬ S p.block) : w'.frozen? p = w.frozen? p := World.frozen?_of_block (w := w) (h.block p.block hp hs)
theorem Out.below (h : Out S w w') {B : Nat} (hB : B ≤ w.heap.size) (hS : ∀ k, k < B → ¬ S k) : Below B w w' :=
  ⟨h.os, h.tape, h.output, h.size, fun k hk => h.block k (Nat.lt_of_lt_of_le hk hB) (hS k hk)⟩
end

/-- Block A and no other. -/
def Only (A k : Nat) : Prop := k = A
theorem Only.self (A : Nat) : Only A A := rfl
/-- No block. -/
def NoOne (_ : Nat) : Prop := False
/-- Block A, and the block in which the slice v lies. -/
def OrOwn (A : Nat) (v : Value) (k : Nat) : Prop := k = A ∨ v.ownBlock = some k
theorem Out.at {a w : World} {A o : Nat} (h : Out (Only A) a w) (u : Value) : Out (Only A) a (w.setCell ⟨A, o, none⟩ u) := h.setCell (p := ⟨A, o, none⟩) (fun _ => Only.self A) u
theorem Out.any {S : Nat → Prop} {a w : World} (h : Out NoOne a w) : Out S a w := h.mono (fun _ f => f.elim)
theorem Out.grew {S : Nat → Prop} {a w w' : World} (h : Out S a w) (hg : w.grownBy w' none) : Out S a w' := h.grown hg (fun _ e => by cases e)

/-- Each number is a byte. -/
def Bytes (l : List Int) : Prop := ∀ n ∈ l, 0 ≤ n ∧ n < 256

/-- The value v is a slice of bytes (nil or not) that reads l in the world w. -/
def Bs (w : World) (v : Value) (l : List Int) : Prop :=
  ∃ a cap, v = .slice a l.length cap ∧ l.length ≤ cap ∧ cap ≤ maxLen ∧
    ((a = none ∧ cap = 0) ∨ ∃ x, a = some x ∧ ∀ i, i < l.length → w.cell? (x.add i) = some (.int .u8 (l.getD i 0)))

theorem block_add (x : Addr) (i : Nat) : (x.add i).block = x.block := by
  simp only [Addr.add]
  split <;> rfl

theorem Bs.out {S : Nat → Prop} {w w' : World} {v : Value} {l : List Int} (h : Bs w v l) (o : Out S w w') (hS : l ≠ [] → ∀ k, v.ownBlock = some k → ¬ S k) : Bs w' v l := by
  obtain ⟨a, cap, rfl, hl, hm, hx⟩ := h
  refine ⟨a, cap, rfl, hl, hm, ?_⟩
  rcases hx with ⟨rfl, rfl⟩ | ⟨x, rfl, hc⟩
  · exact .inl ⟨rfl, rfl⟩
  · refine .inr ⟨x, rfl, fun i hi => ?_⟩
    rw [o.cell (World.block_lt_of_cell? w _ (hc i hi)) (by rw [block_add]; exact hS (fun h0 => by subst h0; exact absurd hi (Nat.not_lt_zero i)) x.block rfl)]
    exact hc i hi

theorem owns_out {S : Nat → Prop} {w w' : World} {base n : Nat} {e : TypeId} {size : Nat} {v : Value} {xs : List Value} (h : w.ownsRow base e size v n xs) (o : Out S w w') (hS : ∀ k, v.ownBlock = some k → ¬ S k) : w'.ownsRow base e size v n xs := by
  refine ⟨h.1, ?_⟩
  rcases h.2 with h | ⟨g, cap, cur, hv, hg, hh, r⟩
  · exact .inl h
  · refine .inr ⟨g, cap, cur, hv, hg, ?_, r⟩
    rw [o.block g (by rcases Nat.lt_or_ge g w.heap.size with h | h; exact h; rw [Array.getElem?_eq_none h] at hh; cases hh) (hS g (by rw [hv]; rfl))]
    exact hh

theorem getD_map_int (l : List Int) (i : Nat) (hi : i < l.length) : (l.map (Value.int .u8))[i]? = some (.int .u8 (l.getD i 0)) := by
  simp [List.getElem?_map, List.getElem?_eq_getElem hi]

theorem Bs.ofOwn {w : World} {base n : Nat} {v : Value} {l : List Int} (h : w.ownsRow base 5 1 v n (l.map (Value.int .u8))) : Bs w v l ∧ n = l.length := by
  have hn : n = l.length := by have := h.1; simp at this; omega
  refine ⟨?_, hn⟩
  subst hn
  rcases h.2 with ⟨rfl, h0⟩ | ⟨g, cap, cur, rfl, hb, hh, hnc, hcm, hcs, ht⟩
  · refine ⟨none, 0, by rw [h0], by omega, Nat.zero_le _, .inl ⟨rfl, rfl⟩⟩
  · refine ⟨_, cap, rfl, hnc, hcm, .inr ⟨_, rfl, fun i hi => ?_⟩⟩
    exact h.cells (g := g) rfl i _ (getD_map_int l i hi)

theorem strOfNums_inj {l m : List Int} (hl : Bytes l) (hm : Bytes m) (h : strOfNums l = strOfNums m) : l = m := by
  have h2 : (l.map fun n => UInt8.ofNat n.toNat) = (m.map fun n => UInt8.ofNat n.toNat) := by
    rw [← strOfNums_data, ← strOfNums_data, h]
  clear h
  induction l generalizing m with
  | nil =>
    cases m with
    | nil => rfl
    | cons y ys => simp at h2
  | cons x xs ih =>
    cases m with
    | nil => simp at h2
    | cons y ys =>
      simp only [List.map_cons, List.cons.injEq] at h2
      have hx := hl x (by simp)
      have hy := hm y (by simp)
      have e : x = y := by
        have := congrArg UInt8.toNat h2.1
        rw [UInt8.toNat_ofNat_of_lt' (by show x.toNat < 256; omega), UInt8.toNat_ofNat_of_lt' (by show y.toNat < 256; omega)] at this
        omega
      rw [e, ih (fun n hn => hl n (by simp [hn])) (fun n hn => hm n (by simp [hn])) h2.2]

theorem conv_bs {w : World} {v : Value} {l : List Int} (h : Bs w v l) : (convert 22 9 v).run Ybad.prog w = .ok (.string (strOfNums l)) w := by
  obtain ⟨a, cap, rfl, hl, hm, hx⟩ := h
  rcases hx with ⟨rfl, rfl⟩ | ⟨x, rfl, hc⟩
  · have : l = [] := List.eq_nil_of_length_eq_zero (by omega)
    subst this
    exact run_convert_bytes_nil w 22 5 Ybad.underlying22 Ybad.underlying5 _ _ 9 Ybad.underlying9
  · obtain ⟨b, off, spot⟩ := x
    by_cases h0 : l = []
    · subst h0
      rw [run_convert_bytes_string w 22 9 5 _ _ _ Ybad.underlying22 Ybad.underlying5 Ybad.underlying9]
      simp [Conv.bytesToString, loadCells, loadCellsFrom, strOfNums]
      rfl
    · have hp : 0 < l.length := List.length_pos_iff.2 h0
      have hspot : spot = none := by simpa [Addr.add] using World.cell?_spot (hc 0 hp)
      subst hspot
      exact run_convert_bytes_arg w 22 5 Ybad.underlying22 Ybad.underlying5 b off l.length cap l rfl (fun i hi => by rw [← Go.WideShapes.add_plain]; exact hc i hi) 9 Ybad.underlying9

theorem str_beq {l m : List Int} (hl : Bytes l) (hm : Bytes m) : ((strOfNums l).toList == (strOfNums m).toList) = decide (l = m) := by
  rw [Bool.eq_iff_iff]
  simp only [beq_iff_eq, decide_eq_true_eq, ByteArray.toList_eq]
  refine ⟨fun h => strOfNums_inj hl hm ?_, fun h => by rw [h]⟩
  rw [strOfNums_data, strOfNums_data] at h
  unfold strOfNums; rw [h]

set_option maxHeartbeats 400000 in
theorem equal_calls (v1 v2 : Value) (l1 l2 : List Int) (w : World) (h1 : Bs w v1 l1) (h2 : Bs w v2 l2) (b1 : Bytes l1) (b2 : Bytes l2) :
    Calls Ybad.prog 7 #[v1, v2] w fun e w' => e = .returned (.bool (decide (l1 = l2))) ∧ w' = w := by
  have c1 := conv_bs h1
  have c2 := conv_bs h2
  go_enter Ybad.func7, Ybad.ntmps7
  go_wp2
  go_ret
  exact ⟨ret_bool (str_beq b1 b2), rfl⟩

theorem equal_calls' (v1 v2 : Value) (l1 l2 : List Int) (w : World) (h1 : Bs w v1 l1) (h2 : Bs w v2 l2) (b1 : Bytes l1) (b2 : Bytes l2) :
    Calls Ybad.prog 7 #[v1, v2] w fun e w' => e = .returned (.bool (decide (l1 = l2))) ∧ w = w' :=
  (equal_calls v1 v2 l1 l2 w h1 h2 b1 b2).mono fun _ _ h => ⟨h.1, h.2.symm⟩

/-- Where there is a byte the address is plain. -/
theorem Bs.plain {w : World} {a : Option Addr} {n cap : Nat} {l : List Int} (h : Bs w (.slice a n cap) l) (hp : 0 < l.length) :
    ∃ b off, a = some ⟨b, off, none⟩ ∧ l.length ≤ cap ∧ cap ≤ maxLen ∧ ∀ i, i < l.length → w.cell? ⟨b, off + i, none⟩ = some (.int .u8 (l.getD i 0)) := by
  obtain ⟨a', cap', e, hl, hm, hx⟩ := h
  cases e
  rcases hx with ⟨rfl, rfl⟩ | ⟨x, rfl, hc⟩
  · omega
  · obtain ⟨b, off, spot⟩ := x
    have hspot : spot = none := by simpa [Addr.add] using World.cell?_spot (hc 0 hp)
    subst hspot
    exact ⟨b, off, rfl, hl, hm, fun i hi => by rw [← Go.WideShapes.add_plain]; exact hc i hi⟩
theorem Bs.mk {w : World} {b off n cap : Nat} {l : List Int} (hn : l.length = n) (hl : n ≤ cap) (hm : cap ≤ maxLen) (hc : ∀ i, i < l.length → w.cell? ⟨b, off + i, none⟩ = some (.int .u8 (l.getD i 0))) :
    Bs w (.slice (some ⟨b, off, none⟩) n cap) l :=
  ⟨_, cap, by rw [hn], by omega, hm, .inr ⟨_, rfl, fun i hi => by rw [Go.WideShapes.add_plain]; exact hc i hi⟩⟩
theorem Bs.len {w : World} {a : Option Addr} {n cap : Nat} {l : List Int} (h : Bs w (.slice a n cap) l) : l.length ≤ cap ∧ cap ≤ maxLen := by
  obtain ⟨a', cap', e, hl, hm, _⟩ := h
  cases e
  exact ⟨hl, hm⟩

theorem Ybad.info5 : (Ybad.prog.info? 5).map (fun i => (i.zero, i.size, i.bytes)) = some (some (.int .u8 0), 1, 1) := by kernel_rfl

theorem oneCells (l : List Int) : ∀ u ∈ l.map (Value.int .u8), u.oneCell' = true := by
  intro u hu
  obtain ⟨_, _, rfl⟩ := List.mem_map.1 hu
  rfl

/-- 'append(s, x...)' where s is the call's own and x reads m: what comes out reads r = l ++ m. -/
theorem wpList_append_bs {w : World} {ops : Array Oper} {rest : List Oper} {o : Oper} {a : Act} {Q : Exit → Act → World → Prop} (hgd : o.guard = none) (s x : Operand)
    (ho : o.op = .call { callee := .builtin .append, args := #[s, x], argTypes := #[22, 22] })
    (base : Nat) (v : Value) (l m r : List Int) (hr : l ++ m = r) (hs : a.eval s = v) (hown : w.ownsRow base 5 1 v l.length (l.map (Value.int .u8)))
    (vx : Value) (hx : a.eval x = vx) (hb : Bs w vx m) (h63 : l.length + m.length ≤ 1000000) (hbase : base ≤ w.heap.size)
    (h : ∀ ad cap w', w'.ownsRow base 5 1 (.slice ad r.length cap) r.length (r.map (Value.int .u8)) → w.grownBy w' v.ownBlock → (Value.ownBlock (.slice ad r.length cap) = v.ownBlock ∨ Value.ownBlock (.slice ad r.length cap) = some w.heap.size) → wpList Ybad.prog ops Q rest (a.put o.dst (.slice ad r.length cap)) w') :
    wpList Ybad.prog ops Q (o :: rest) a w := by
  subst hr
  obtain ⟨i0, hi, hz0, hz1, hz2⟩ := info_parts Ybad.info5
  obtain ⟨ad, cap, rfl, hl, hm, hc⟩ := hb
  rcases hc with ⟨rfl, rfl⟩ | ⟨y, rfl, hc⟩
  · have hm0 : m = [] := List.eq_nil_of_length_eq_zero (by omega)
    subst hm0
    refine wpList_append_own_none hgd s x 22 ho base 5 i0 1 Ybad.underlying22 hi v l.length _ hs hown (by simpa using hx) ?_
    rcases hown.2 with ⟨rfl, h0⟩ | ⟨g, cap, cur, rfl, hr⟩
    · have hl0 : l = [] := List.eq_nil_of_length_eq_zero h0
      subst hl0
      exact h none 0 w (by simpa using hown) (World.grownBy.refl _ _) (.inl rfl)
    · have := h (some ⟨g, 0, none⟩) cap w (by simpa using hown) (World.grownBy.refl _ _) (.inl rfl)
      simpa using this
  · refine OwnTwo.wpList_append_own2 w hgd s x 22 ho base 5 i0 (.int .u8 0) 1 1 Ybad.underlying22 hi hz0 hz1 hz2 rfl (by decide) v l.length _ hs hown y m.length cap (m.map (Value.int .u8)) hx (by simp) ?_ (oneCells m) (by unfold maxLen; omega) (by omega) hbase ?_
    · intro j u hj
      have hjl : j < m.length := by
        rcases Nat.lt_or_ge j m.length with h | h
        · exact h
        · rw [List.getElem?_eq_none (by simpa using h)] at hj; cases hj
      rw [getD_map_int m j hjl] at hj
      cases hj
      exact hc j hjl
    · intro v' w' h1 h2 h3
      have h1' : w'.ownsRow base 5 1 v' (l ++ m).length ((l ++ m).map (Value.int .u8)) := by
        rw [List.length_append, List.map_append]; exact h1
      rcases h1'.2 with ⟨rfl, h0⟩ | ⟨g, cap, cur, rfl, hr⟩
      · have hl0 : l ++ m = [] := List.eq_nil_of_length_eq_zero h0
        have := h none 0 w' (by rw [hl0] at h1' ⊢; exact h1') h2 (by rw [hl0]; exact h3)
        rw [hl0] at this
        exact this
      · exact h _ cap w' h1' h2 h3

/-- The nonce of n: four zeros, then n with its high byte first. -/
def nonceL (n : Int) : List Int :=
  [0, 0, 0, 0, n / 72057594037927936, n / 281474976710656 % 256, n / 1099511627776 % 256, n / 4294967296 % 256, n / 16777216 % 256, n / 65536 % 256, n / 256 % 256, n % 256]

theorem nonceL_bytes (n : Int) (h0 : 0 ≤ n) (h1 : n < 18446744073709551616) : Bytes (nonceL n) := by
  intro x hx
  simp only [nonceL, List.mem_cons, List.not_mem_nil, or_false] at hx
  omega

theorem nonceL_inj (n m : Int) (h0 : 0 ≤ n) (h1 : n < 18446744073709551616) (h2 : 0 ≤ m) (h3 : m < 18446744073709551616) (h : nonceL n = nonceL m) : n = m := by
  simp only [nonceL, List.cons.injEq, and_true, true_and] at h
  omega

end Go.Proofs.YbulkcdyDoor.noise
