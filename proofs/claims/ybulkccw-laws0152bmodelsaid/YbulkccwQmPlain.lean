/- The plain law of disambiguatedFirsts: what the sorted places and their groups come to. No Go. -/
import Derived.Test.YbulkccwQmFirst
import Derived.Test.YbulkccwQmCmp
namespace Go.Proofs.Ybulkccw.qm
open Go Go.ChangeShapes Go.WideShapes Go.ChangeAt Go.RowKit
set_option linter.unusedVariables false

structure Good {α : Type} (C : α → α → Int) : Prop where
  anti : ∀ a b, C b a = - C a b
  trans : ∀ a b c, C a b ≤ 0 → C b c ≤ 0 → C a c ≤ 0 ∧ (C a c = 0 → C a b = 0 ∧ C b c = 0)

theorem cb_anti : ∀ a b : List UInt8, Lib.compareBytes b a = - Lib.compareBytes a b
  | [], [] => rfl
  | [], _ :: _ => rfl
  | _ :: _, [] => rfl
  | x :: a, y :: b => by
    simp only [Lib.compareBytes, UInt8.lt_iff_toNat_lt]
    have := cb_anti a b
    split <;> split <;> (try split) <;> omega

theorem cb_zero : ∀ a b : List UInt8, Lib.compareBytes a b = 0 → a = b
  | [], [], _ => rfl
  | [], _ :: _, h => by simp [Lib.compareBytes] at h
  | _ :: _, [], h => by simp [Lib.compareBytes] at h
  | x :: a, y :: b, h => by
    simp only [Lib.compareBytes, UInt8.lt_iff_toNat_lt] at h
    split at h
    · cases h
    · split at h
      · cases h
      · have e : x = y := UInt8.toNat_inj.1 (by omega)
        rw [e, cb_zero a b h]

theorem cb_trans : ∀ a b c : List UInt8, Lib.compareBytes a b ≤ 0 → Lib.compareBytes b c ≤ 0 → Lib.compareBytes a c ≤ 0 ∧ (Lib.compareBytes a c = 0 → Lib.compareBytes a b = 0 ∧ Lib.compareBytes b c = 0)
  | [], [], [], _, _ => by simp [Lib.compareBytes]
  | [], [], _ :: _, _, _ => by simp [Lib.compareBytes]
  | [], _ :: _, [], _, h => by simp [Lib.compareBytes] at h
  | [], _ :: _, _ :: _, _, _ => by simp [Lib.compareBytes]
  | _ :: _, [], _, h, _ => by simp [Lib.compareBytes] at h
  | _ :: _, _ :: _, [], _, h => by simp [Lib.compareBytes] at h
  | x :: a, y :: b, z :: c, h1, h2 => by
    have ih := cb_trans a b c
    simp only [Lib.compareBytes, UInt8.lt_iff_toNat_lt] at h1 h2 ⊢
    generalize Lib.compareBytes a b = p at *
    generalize Lib.compareBytes b c = q at *
    generalize Lib.compareBytes a c = r at *
    split at h1 <;> split at h2 <;> (try split at h1) <;> (try split at h2) <;> split <;> (try split) <;> omega

theorem cb_good : Good Lib.compareBytes := ⟨cb_anti, cb_trans⟩
theorem cmpI_good : Good cmpI := ⟨fun a b => by unfold cmpI; split <;> split <;> (try split) <;> omega, fun a b c => by unfold cmpI; split <;> split <;> split <;> (try split) <;> (try split) <;> (try split) <;> omega⟩

theorem or3_good {α : Type} {A B C : α → α → Int} (hA : Good A) (hB : Good B) (hC : Good C) : Good (fun a b => or3 (A a b) (B a b) (C a b)) := by
  refine ⟨fun a b => ?_, fun a b c => ?_⟩
  · have := hA.anti a b
    have := hB.anti a b
    have := hC.anti a b
    unfold or3
    split <;> split <;> (try split) <;> (try split) <;> omega
  · have hab := hA.trans a b c
    have hbb := hB.trans a b c
    have hcb := hC.trans a b c
    have a1 := hA.trans b c a
    have a2 := hA.trans c a b
    have b1 := hB.trans b c a
    have b2 := hB.trans c a b
    have x1 := hA.anti a b
    have x2 := hA.anti b c
    have x3 := hA.anti a c
    have y1 := hB.anti a b
    have y2 := hB.anti b c
    have y3 := hB.anti a c
    show or3 _ _ _ ≤ 0 → or3 _ _ _ ≤ 0 → or3 _ _ _ ≤ 0 ∧ (or3 _ _ _ = 0 → or3 _ _ _ = 0 ∧ or3 _ _ _ = 0)
    generalize A a b = p1 at *
    generalize A b c = p2 at *
    generalize A a c = p3 at *
    generalize B a b = q1 at *
    generalize B b c = q2 at *
    generalize B a c = q3 at *
    generalize C a b = r1 at *
    generalize C b c = r2 at *
    generalize C a c = r3 at *
    intro h1 h2
    unfold or3 at *
    by_cases e1 : p1 = 0 <;> by_cases e2 : p2 = 0 <;> by_cases e3 : p3 = 0 <;> simp [e1, e2, e3] at * <;> (try omega) <;>
    by_cases f1 : q1 = 0 <;> by_cases f2 : q2 = 0 <;> by_cases f3 : q3 = 0 <;> simp [f1, f2, f3] at * <;> (try omega)

theorem cf_good (ms : List Msg) : Good (fun i j : Nat => cf ms i j) :=
  or3_good (A := fun i j => Lib.compareBytes (ms.getD i .zero).c.data.toList (ms.getD j .zero).c.data.toList) (B := fun i j => Lib.compareBytes (ms.getD i .zero).s.data.toList (ms.getD j .zero).s.data.toList) (C := fun i j => cmpI i j)
    ⟨fun _ _ => cb_anti _ _, fun _ _ _ => cb_trans _ _ _⟩ ⟨fun _ _ => cb_anti _ _, fun _ _ _ => cb_trans _ _ _⟩ ⟨fun _ _ => cmpI_good.1 _ _, fun _ _ _ => cmpI_good.2 _ _ _⟩

theorem cf_zero (ms : List Msg) (i j : Nat) (h : cf ms i j = 0) : i = j := by
  unfold cf or3 at h
  split at h
  · contradiction
  · split at h
    · contradiction
    · unfold cmpI at h
      split at h
      · cases h
      · split at h
        · cases h
        · omega

def dE (ms : List Msg) (x : Nat) : Bool := (ms.getD x .zero).d.toList.isEmpty
def sm (ms : List Msg) (x y : Nat) : Bool := same (ms.getD x .zero) (ms.getD y .zero)
def kc (ms : List Msg) (i j : Nat) : Int :=
  or3 (Lib.compareBytes (ms.getD i .zero).c.data.toList (ms.getD j .zero).c.data.toList) (Lib.compareBytes (ms.getD i .zero).s.data.toList (ms.getD j .zero).s.data.toList) 0
theorem kc_good (ms : List Msg) : Good (fun i j : Nat => kc ms i j) :=
  or3_good (A := fun i j => Lib.compareBytes (ms.getD i .zero).c.data.toList (ms.getD j .zero).c.data.toList) (B := fun i j => Lib.compareBytes (ms.getD i .zero).s.data.toList (ms.getD j .zero).s.data.toList) (C := fun i j => 0)
    ⟨fun _ _ => cb_anti _ _, fun _ _ _ => cb_trans _ _ _⟩ ⟨fun _ _ => cb_anti _ _, fun _ _ _ => cb_trans _ _ _⟩ ⟨fun _ _ => rfl, fun _ _ _ _ _ => ⟨Int.le_refl _, fun _ => ⟨rfl, rfl⟩⟩⟩
theorem cb_self (a : List UInt8) : Lib.compareBytes a a = 0 := by have := cb_anti a a; omega
theorem cb_iff (a b : ByteArray) : (a.toList == b.toList) = true ↔ Lib.compareBytes a.data.toList b.data.toList = 0 := by
  rw [ByteArray.toList_eq, ByteArray.toList_eq, beq_iff_eq]
  exact ⟨fun h => by rw [h]; exact cb_self _, cb_zero _ _⟩
theorem sm_iff (ms : List Msg) (x y : Nat) : sm ms x y = true ↔ kc ms x y = 0 := by
  unfold sm same kc or3
  rw [Bool.and_eq_true, cb_iff, cb_iff]
  constructor
  · rintro ⟨h1, h2⟩; rw [if_neg (fun h => h h1), if_neg (fun h => h h2)]
  · intro h
    split at h
    · contradiction
    · split at h
      · contradiction
      · omega
theorem kc_of_cf {ms : List Msg} {x y : Nat} (h : cf ms x y ≤ 0) : kc ms x y ≤ 0 := by
  unfold cf at h
  unfold kc
  unfold or3 at *
  split at h
  · rwa [if_pos ‹_›]
  · rw [if_neg ‹_›]
    split at h
    · rwa [if_pos ‹_›]
    · rw [if_neg ‹_›]; omega
theorem le_of_cf {ms : List Msg} {x y : Nat} (h : cf ms x y ≤ 0) (hs : sm ms x y = true) : x ≤ y := by
  have hk := (sm_iff ms x y).1 hs
  unfold kc at hk
  unfold cf at h
  unfold or3 at *
  split at h
  · rw [if_pos ‹_›] at hk; contradiction
  · split at h
    · rw [if_neg ‹_›, if_pos ‹_›] at hk; contradiction
    · unfold cmpI at h
      split at h
      · omega
      · split at h
        · omega
        · omega
theorem sm_symm {ms : List Msg} {x y : Nat} (h : sm ms x y = true) : sm ms y x = true := by
  rw [sm_iff] at *
  have : kc ms y x = - kc ms x y := (kc_good ms).anti x y
  omega
theorem sm_self (ms : List Msg) (x : Nat) : sm ms x x = true := by
  rw [sm_iff]
  have : kc ms x x = - kc ms x x := (kc_good ms).anti x x
  omega
theorem sm_trans {ms : List Msg} {x y z : Nat} (h : sm ms x y = true) (k : sm ms y z = true) : sm ms x z = true := by
  unfold sm same at *
  simp only [Bool.and_eq_true, beq_iff_eq] at *
  exact ⟨h.1.trans k.1, h.2.trans k.2⟩

theorem ff_iff (ms : List Msg) (i : Nat) : ∀ k j, firstFrom ms i k j = true ↔ ∀ x, j ≤ x → x < j + k → sm ms x i = true → i ≤ x ∧ dE ms x = false
  | 0, j => by simp only [firstFrom, true_iff]; intro x h1 h2; omega
  | k + 1, j => by
    have ih := ff_iff ms i k (j + 1)
    have hall : (∀ x, j ≤ x → x < j + (k + 1) → sm ms x i = true → i ≤ x ∧ dE ms x = false) ↔ (sm ms j i = true → i ≤ j ∧ dE ms j = false) ∧ (∀ x, j + 1 ≤ x → x < j + 1 + k → sm ms x i = true → i ≤ x ∧ dE ms x = false) := by
      constructor
      · intro h; exact ⟨h j (Nat.le_refl _) (by omega), fun x h1 h2 => h x (by omega) (by omega)⟩
      · rintro ⟨h1, h2⟩ x hx hx'
        by_cases e : x = j
        · subst e; exact h1
        · exact h2 x (by omega) (by omega)
    rw [hall, ← ih, firstFrom]
    show (if sm ms j i = true then (if j < i then false else if dE ms j = true then false else firstFrom ms i k (j + 1)) else firstFrom ms i k (j + 1)) = true ↔ _
    by_cases h1 : sm ms j i = true
    · rw [if_pos h1]
      by_cases h2 : j < i
      · rw [if_pos h2]; simp [h1]; intro; omega
      · rw [if_neg h2]
        by_cases h3 : dE ms j = true
        · rw [if_pos h3]; simp [h1, h3]
        · rw [if_neg h3]; simp [h1, h3]; intro; omega
    · rw [if_neg h1]; simp [h1]
theorem first_iff (ms : List Msg) (i : Nat) : first ms i = true ↔ ∀ x, x < ms.length → sm ms x i = true → i ≤ x ∧ dE ms x = false := by
  rw [first, ff_iff]
  exact ⟨fun h x hx => h x (Nat.zero_le _) (by omega), fun h x _ hx => h x (by omega)⟩

theorem after_run (ms : List Msg) (h : Nat) : ∀ t : List Nat, (h :: t).Pairwise (fun x y => cf ms x y ≤ 0) → ∀ y ∈ t.dropWhile (fun x => sm ms x h), sm ms y h = false
  | [], _, y, hy => by simp at hy
  | z :: t, hp, y, hy => by
    have hp' := List.pairwise_cons.1 hp
    have hp2 := List.pairwise_cons.1 hp'.2
    by_cases hz : sm ms z h = true
    · rw [List.dropWhile_cons_of_pos (by exact hz)] at hy
      exact after_run ms h t (List.pairwise_cons.2 ⟨fun x hx => hp'.1 x (List.mem_cons_of_mem _ hx), hp2.2⟩) y hy
    · rw [List.dropWhile_cons_of_neg (by exact hz)] at hy
      rcases List.mem_cons.1 hy with rfl | hy
      · simpa using hz
      · cases hs : sm ms y h with
        | false => rfl
        | true =>
          have k1 := kc_of_cf (hp'.1 z (List.mem_cons_self ..))
          have k2 := kc_of_cf (hp2.1 y hy)
          have k3 := (sm_iff ms h y).1 (sm_symm hs)
          have := ((kc_good ms).trans h z y k1 k2).2 k3
          exact absurd (sm_symm ((sm_iff ms h z).2 this.1)) hz

/-- Place p of o begins a group. -/
def Bd (ms : List Msg) (o : List Nat) (p : Nat) : Prop := ∀ x ∈ o.take p, ∀ y ∈ o.drop p, sm ms x y = false

theorem step_law (ms : List Msg) (o : List Nat) (hs : o.Pairwise (fun x y => cf ms x y ≤ 0)) (hp : o.Perm (List.range ms.length)) (p : Nat) (h : Nat) (t : List Nat) (hd : o.drop p = h :: t) (hB : Bd ms o p) :
    Bd ms o (p + (1 + (t.takeWhile (fun x => sm ms x h)).length)) ∧
    (o.take (p + (1 + (t.takeWhile (fun x => sm ms x h)).length))).filter (first ms) = (o.take p).filter (first ms) ++ (if (h :: t.takeWhile (fun x => sm ms x h)).any (dE ms) then [] else [h]) := by
  have hsd : (h :: t).Pairwise (fun x y => cf ms x y ≤ 0) := by rw [← hd]; exact hs.sublist (List.drop_sublist _ _)
  have hnd : (h :: t).Nodup := by rw [← hd]; exact (hp.nodup_iff.2 List.nodup_range).sublist (List.drop_sublist _ _)
  have haft := after_run ms h t hsd
  obtain ⟨hc1, hc2⟩ := List.pairwise_cons.1 hsd
  obtain ⟨hn1, hn2⟩ := List.nodup_cons.1 hnd
  have htw : t.takeWhile (fun x => sm ms x h) ++ t.dropWhile (fun x => sm ms x h) = t := List.takeWhile_append_dropWhile
  have hall : ∀ x ∈ t.takeWhile (fun x => sm ms x h), sm ms x h = true := fun x hx => List.all_takeWhile (p := fun x => sm ms x h) (l := t) |> fun e => (List.all_eq_true.1 e) x hx
  generalize hru : t.takeWhile (fun x => sm ms x h) = ru at *
  generalize hre : t.dropWhile (fun x => sm ms x h) = re at *
  have hdr : o.drop (p + (1 + ru.length)) = re := by
    rw [← List.drop_drop, hd, ← htw, Nat.add_comm 1, List.drop_succ_cons, List.drop_left]
  have hta : o.take (p + (1 + ru.length)) = o.take p ++ (h :: ru) := by
    rw [List.take_add, hd, ← htw, Nat.add_comm 1, List.take_succ_cons, List.take_left]
  have hrt : ∀ x ∈ ru, x ∈ t := fun x hx => by rw [← htw]; exact List.mem_append_left _ hx
  refine ⟨?_, ?_⟩
  · unfold Bd
    rw [hdr, hta]
    intro x hx y hy
    rcases List.mem_append.1 hx with hx | hx
    · exact hB x hx y (by rw [hd, ← htw]; exact List.mem_cons_of_mem _ (List.mem_append_right _ hy))
    · have hxh : sm ms x h = true := by
        rcases List.mem_cons.1 hx with rfl | hx
        · exact sm_self ms _
        · exact hall x hx
      cases e : sm ms x y with
      | false => rfl
      | true => exact absurd (sm_trans (sm_symm e) hxh) (by rw [haft y hy]; decide)
  · rw [hta, List.filter_append]
    congr 1
    have hf : ∀ x ∈ ru, first ms x = false := fun x hx => by
      cases e : first ms x with
      | false => rfl
      | true =>
        have hle := le_of_cf (hc1 x (hrt x hx)) (sm_symm (hall x hx))
        have hne : h ≠ x := fun e' => hn1 (e' ▸ hrt x hx)
        have hlt : h < ms.length := by
          have : h ∈ o := List.mem_of_mem_drop (by rw [hd]; exact List.mem_cons_self ..)
          exact List.mem_range.1 (hp.mem_iff.1 this)
        have := ((first_iff ms x).1 e h hlt (sm_symm (hall x hx))).1
        omega
    have hnil : ru.filter (first ms) = [] := List.filter_eq_nil_iff.2 fun x hx => by rw [hf x hx]; decide
    have hh : first ms h = !((h :: ru).any (dE ms)) := by
      rw [Bool.eq_iff_iff, first_iff, Bool.not_eq_true', List.any_eq_false]
      constructor
      · intro H x hx
        have hxt : sm ms x h = true := by
          rcases List.mem_cons.1 hx with rfl | hx
          · exact sm_self ms _
          · exact hall x hx
        have hxo : x ∈ o := List.mem_of_mem_drop (i := p) (by rw [hd]; rcases List.mem_cons.1 hx with rfl | hx; exact List.mem_cons_self ..; exact List.mem_cons_of_mem _ (hrt x hx))
        rw [(H x (List.mem_range.1 (hp.mem_iff.1 hxo)) hxt).2]; decide
      · intro H x hx hxs
        have hxo : x ∈ o := hp.mem_iff.2 (List.mem_range.2 hx)
        rw [← List.take_append_drop p o] at hxo
        rcases List.mem_append.1 hxo with hxo | hxo
        · have := hB x hxo h (by rw [hd]; exact List.mem_cons_self ..)
          rw [hxs] at this; cases this
        · rw [hd, ← htw] at hxo
          rcases List.mem_cons.1 hxo with rfl | hxo
          · exact ⟨Nat.le_refl _, by simpa using H x (List.mem_cons_self ..)⟩
          · rcases List.mem_append.1 hxo with hxo | hxo
            · exact ⟨le_of_cf (hc1 x (hrt x hxo)) (sm_symm hxs), by simpa using H x (List.mem_cons_of_mem _ hxo)⟩
            · have := haft x hxo
              rw [hxs] at this; cases this
    rw [List.filter_cons, hnil, hh]
    cases (h :: ru).any (dE ms) <;> rfl

theorem pw_mono {α : Type} {R S : α → α → Prop} (h : ∀ a b, R a b → S a b) : ∀ l : List α, l.Pairwise R → l.Pairwise S
  | [], _ => List.Pairwise.nil
  | x :: l, hp => List.pairwise_cons.2 ⟨fun y hy => h x y ((List.pairwise_cons.1 hp).1 y hy), pw_mono h l (List.pairwise_cons.1 hp).2⟩

/-- The sorted list of the firsts. -/
def firsts (ms : List Msg) : List Nat := (List.range ms.length).filter (first ms)

theorem sorted_firsts (ms : List Msg) (o : List Nat) (hp : o.Perm (List.range ms.length)) :
    ((o.filter (first ms)).map (fun x : Nat => (x : Int))).mergeSort (fun x y => decide (x ≤ y)) = (firsts ms).map (fun x : Nat => (x : Int)) := by
  refine List.Perm.eq_of_pairwise (le := fun x y : Int => x ≤ y) (fun a b _ _ h1 h2 => Int.le_antisymm h1 h2) ?_ ?_ ?_
  · exact pw_mono (fun a b h => by simpa using h) _ (List.pairwise_mergeSort (le := fun x y : Int => decide (x ≤ y)) (fun a b c h1 h2 => by simp at *; omega) (fun a b => by simp; omega) _)
  · rw [List.pairwise_map]
    exact pw_mono (fun a b h => by omega) _ (List.pairwise_lt_range.sublist (List.filter_sublist))
  · exact (List.mergeSort_perm _ _).trans ((hp.filter _).map _)

/-- What the sort leaves: the places, in order. -/
theorem sorted_places (ms : List Msg) (n : Nat) (d : List (Fin n)) :
    (d.mergeSort fun x y => !(ltOf (fun x y : Fin n => cf ms x y)) y x).Pairwise (fun x y : Fin n => cf ms x y ≤ 0) := by
  have htr : ∀ a b c : Fin n, (!(ltOf (fun x y : Fin n => cf ms x y)) b a) = true → (!(ltOf (fun x y : Fin n => cf ms x y)) c b) = true → (!(ltOf (fun x y : Fin n => cf ms x y)) c a) = true := by
    intro a b c h1 h2
    simp only [ltOf, Bool.not_eq_true', decide_eq_false_iff_not] at *
    have a1 : cf ms b a = - cf ms a b := (cf_good ms).anti a b
    have a2 : cf ms c b = - cf ms b c := (cf_good ms).anti b c
    have a3 : cf ms c a = - cf ms a c := (cf_good ms).anti a c
    have : cf ms a b ≤ 0 → cf ms b c ≤ 0 → cf ms a c ≤ 0 ∧ (cf ms a c = 0 → cf ms a b = 0 ∧ cf ms b c = 0) := (cf_good ms).trans a b c
    omega
  have hto : ∀ a b : Fin n, ((!(ltOf (fun x y : Fin n => cf ms x y)) b a) || (!(ltOf (fun x y : Fin n => cf ms x y)) a b)) = true := by
    intro a b
    simp only [ltOf, Bool.or_eq_true, Bool.not_eq_true', decide_eq_false_iff_not] at *
    have a1 : cf ms b a = - cf ms a b := (cf_good ms).anti a b
    omega
  refine pw_mono (fun a b h => ?_) _ (List.pairwise_mergeSort htr hto d)
  simp only [ltOf, Bool.not_eq_true', decide_eq_false_iff_not] at h
  have a1 : cf ms b a = - cf ms a b := (cf_good ms).anti a b
  omega

theorem cf_swo (ms : List Msg) (n : Nat) : Sort.SWO (ltOf (fun x y : Fin n => cf ms x y)) := by
  refine ⟨fun x => ?_, fun x y z h1 h2 => ?_, fun x y z h1 h2 => ?_⟩ <;> simp only [ltOf, decide_eq_true_eq, decide_eq_false_iff_not] at *
  · have a1 : cf ms x x = - cf ms x x := (cf_good ms).anti x x
    omega
  · have := (cf_good ms).trans x y z
    omega
  · have a1 : cf ms y x = - cf ms x y := (cf_good ms).anti x y
    have a2 : cf ms z y = - cf ms y z := (cf_good ms).anti y z
    have a3 : cf ms z x = - cf ms x z := (cf_good ms).anti x z
    have : cf ms z y ≤ 0 → cf ms y x ≤ 0 → cf ms z x ≤ 0 ∧ (cf ms z x = 0 → cf ms z y = 0 ∧ cf ms y x = 0) := (cf_good ms).trans z y x
    omega
theorem cf_total (ms : List Msg) (n : Nat) (x y : Fin n) (h1 : ltOf (fun x y : Fin n => cf ms x y) x y = false) (h2 : ltOf (fun x y : Fin n => cf ms x y) y x = false) : x = y := by
  simp only [ltOf, decide_eq_false_iff_not] at *
  have a1 : cf ms y x = - cf ms x y := (cf_good ms).anti x y
  exact Fin.ext (cf_zero ms x y (by omega))
end Go.Proofs.Ybulkccw.qm
