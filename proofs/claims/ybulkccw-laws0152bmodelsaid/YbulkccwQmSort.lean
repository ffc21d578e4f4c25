/- The sort by function 18, by the contract of the shelf. -/
import Derived.Test.YbulkccwQmSmall
namespace Go.Proofs.Ybulkccw.qm
open Go Go.ChangeShapes Go.WideShapes Go.ChangeAt Go.RowKit
set_option linter.unusedVariables false

theorem Out.growN {S : Nat → Prop} {a w : World} (h : Out S a w) (q : Nat) (os : Array Obj) : Out S a (Sort.grow (w.drewN q) os) :=
  h.trans (T := fun _ => False) ⟨rfl, rfl, rfl, by show w.heap.size ≤ (w.heap ++ os).size; rw [Array.size_append]; omega, fun k hk _ => Sort.heap_grow_old (w.drewN q) os hk⟩ (fun _ _ t => t.elim)
theorem Out.sort {α : Type} [Inhabited α] (enc : α → Value) (W : World) (blk off m : Nat) (dk : Array α) (os : Array Obj) : Out (Only blk) W (sortWorld enc W blk off m dk os) := by
  refine ⟨rfl, rfl, rfl, ?_, fun k hk hs => ?_⟩
  · show W.heap.size ≤ ((Sort.putRow enc (Sort.ahead W m) blk off dk).heap ++ os).size
    rw [Array.size_append, Sort.size_putRow]; exact Nat.le_add_right _ _
  · unfold sortWorld
    rw [Sort.heap_grow_old _ _ (by rw [Sort.size_putRow]; exact hk)]
    show ((Sort.ahead W m).heap.modify blk _)[k]? = _
    rw [Array.getElem?_modify, if_neg (fun e => hs e.symm)]; rfl

/-- The places 0 .. n-1. -/
def places (n : Nat) : Array (Fin n) := Array.ofFn (fun i : Fin n => i)
def encF (n : Nat) (x : Fin n) : Value := .int .i32 (x.val : Int)

theorem Yba.info21 : (Yba.prog.info? 21).map (fun i => (i.zero, i.size, i.bytes)) = some (some (.int .i32 0), 1, 4) := by kernel_rfl
theorem make_is (n : Nat) (hc : n ≤ 1000000) (W : World) : (Instr.makeSlice 48 (.int .i64 (n : Int)) (.int .i64 (n : Int))).run Yba.prog W =
    .ok (.slice (some ⟨W.heap.size, 0, none⟩) n n) (W.alloc (.cells (madeCells #[.int .i32 0] n) 21)) := by
  obtain ⟨i, hi, h0, h1, h2⟩ := info_parts Yba.info21
  have := run_make (P := Yba.prog) W 48 21 i _ Yba.underlying48 hi h0 .i64 .i64 (n : Int) (n : Int) (by omega) (by omega) (by rw [h2]; omega) (by omega)
  rw [this, h1]
  simp [Value.cells]

theorem places_size (n : Nat) : (places n).size = n := by simp [places]
theorem places_list (n : Nat) : (places n).toList.map (·.val) = List.range n := by
  refine List.ext_getElem (by simp [places]) fun i h1 h2 => ?_
  simp [places]

theorem sort_step (b cap N blk n : Nat) (ms : List Msg) (wr : World) (hlen : ms.length = n) (hm : Ms wr b ms) (hb : b < wr.heap.size) (hbox : wr.cell? ⟨N, 0, none⟩ = some (.slice (some ⟨b, 0, none⟩) ms.length cap)) (hN : N < wr.heap.size)
    (hrow : wr.rowIs blk 21 n (fun j => .int .i32 (j : Int))) (hbb : b ≠ blk) (hNb : N ≠ blk) (hn : n ≤ 1024) (h0 : 0 < n) :
    Calls Yba.prog 17 #[.slice (some ⟨blk, 0, none⟩) n n, .func (.func 18) #[] #[.pointer (some ⟨N, 0, none⟩)]] wr fun e w' => e = .returned (.tuple #[]) ∧ Out (Only blk) wr w' ∧
      ∃ o : List (Fin n), (o.map (·.val)).Perm (List.range n) ∧ (o.map (·.val)).Pairwise (fun x y => cf ms x y ≤ 0) ∧ o.length = n ∧ ∀ j (hj : j < o.length), w'.cell? ⟨blk, j, none⟩ = some (.int .i32 (o[j].val : Int)) := by
  have : Inhabited (Fin n) := ⟨⟨0, h0⟩⟩
  have hget : ∀ j, (hj : j < n) → (places n)[j]! = ⟨j, hj⟩ := fun j hj => by
    rw [getElem!_pos (places n) j (by rw [places_size]; exact hj)]; simp [places]
  have hH : Sort.Holds (encF n) wr blk 0 (places n) := fun j hj => by
    rw [places_size] at hj
    refine ⟨?_, hrow.frozen _⟩
    rw [Nat.zero_add, hrow.cell hj, hget j hj]; rfl
  have hcmp : CmpLays1 Yba.prog 18 #[.pointer (some ⟨N, 0, none⟩)] (encF n) (fun x y : Fin n => cf ms x y) blk 0 (places n).size wr := by
    intro m os dk hs x y
    have ho := Out.sort (encF n) wr blk 0 m dk os
    refine clo18_calls b N cap x.val y.val ms _ (hm.out ho hb hbb) (Nat.lt_of_lt_of_le hb ho.size) ?_ (Nat.lt_of_lt_of_le hN ho.size) (by omega) (by omega) (by omega)
    rw [ho.cell (p := ⟨N, 0, none⟩) hN hNb]; exact hbox
  have := Yba.slices_SortFunc_total (encF n) (fun _ => rfl) (fun x y : Fin n => cf ms x y) (cf_swo ms n) 18 #[.pointer (some ⟨N, 0, none⟩)] blk 0 n (places n) wr (enters_of Yba.func18 (by kernel_rfl) rfl) hcmp hH hrow.lt (by rw [places_size]; omega) (cf_total ms n)
  rw [places_size] at this
  refine this.mono ?_
  rintro e w' ⟨rfl, q, os, rfl⟩
  refine ⟨rfl, Out.sort _ _ _ _ _ _ _, (places n).toList.mergeSort fun x y => !(ltOf (fun x y : Fin n => cf ms x y)) y x, ?_, ?_, ?_, ?_⟩
  · rw [← places_list]; exact (List.mergeSort_perm _ _).map _
  · rw [List.pairwise_map]; exact sorted_places ms n _
  · rw [List.length_mergeSort, Array.length_toList, places_size]
  · generalize ho : ((places n).toList.mergeSort fun x y => !(ltOf (fun x y : Fin n => cf ms x y)) y x) = o
    have hlo : o.length = n := by rw [← ho, List.length_mergeSort, Array.length_toList, places_size]
    intro j hj
    have hh : Sort.Holds (encF n) (sortWorld (encF n) wr blk 0 q o.toArray os) blk 0 o.toArray := SW.holds ⟨q, os, rfl⟩ hrow.lt hH (by rw [List.size_toArray, hlo, places_size])
    have h1 := (hh j (by simpa using hj)).1
    rw [Nat.zero_add] at h1
    rw [h1, getElem!_pos o.toArray j (by simpa using hj)]
    simp [encF]
theorem Yba.info3 : (Yba.prog.info? 3).map (fun i => (i.zero, i.size, i.bytes)) = some (some (.int .i64 0), 1, 8) := by kernel_rfl
/-- append of one number to an own row of numbers. -/
theorem wpList_append_i {w : World} {ops : Array Oper} {rest : List Oper} {o : Oper} {a : Act} {Q : Exit → Act → World → Prop} (hgd : o.guard = none) (s x : Operand)
    (ho : o.op = .call { callee := .builtin .append, args := #[s, x], argTypes := #[43, 43] })
    (base : Nat) (v : Value) (n : Nat) (xs : List Value) (hs : a.eval s = v) (hown : w.ownsRow base 3 1 v n xs)
    (ad : Addr) (c : Nat) (y : Int) (hx : a.eval x = .slice (some ad) 1 c) (hy : w.cell? ad = some (.int .i64 y)) (hn : n ≤ 5000) (hbase : base ≤ w.heap.size)
    (h : ∀ v' w', w'.ownsRow base 3 1 v' (n + 1) (xs ++ [.int .i64 y]) → w.grownBy w' v.ownBlock → wpList Yba.prog ops Q rest (a.put o.dst v') w') : wpList Yba.prog ops Q (o :: rest) a w := by
  obtain ⟨i, hi, h0, h1, h2⟩ := info_parts Yba.info3
  refine wpList_append_own2 (P := Yba.prog) w hgd s x 43 ho base 3 i _ 1 8 Yba.underlying43 hi h0 h1 h2 rfl (by decide) v n xs hs hown ad 1 c [.int .i64 y] hx rfl (fun j u hu => ?_) (fun u hu => ?_) (by simp only [maxLen]; omega) (by omega) hbase (fun v' w' k1 k2 _ => h v' w' k1 k2)
  · cases j with
    | zero => simp only [List.getElem?_cons_zero, Option.some.injEq] at hu; subst hu; rw [show ad.add 0 = ad from by cases ad; unfold Addr.add; split <;> simp_all]; exact hy
    | succ j => simp at hu
  · simp only [List.mem_singleton] at hu; subst hu; rfl
end Go.Proofs.Ybulkccw.qm
