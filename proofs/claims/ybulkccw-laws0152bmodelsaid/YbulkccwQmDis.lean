/- The walk of disambiguatedFirsts (function 14). -/
import Derived.Test.YbulkccwQmSort
import Derived.Deep.CutBlock
namespace Go.Proofs.Ybulkccw.qm
open Go Go.ChangeShapes Go.WideShapes Go.ChangeAt Go.RowKit
set_option linter.unusedVariables false

def lenOf : Value → Nat
  | .slice _ n _ => n
  | _ => 0

theorem tw_step (p : Nat → Bool) : ∀ (t : List Nat) (j : Nat) (hj : j < t.length), j ≤ (t.takeWhile p).length → (p t[j] = true ↔ j < (t.takeWhile p).length)
  | x :: t, 0, _, _ => by
    by_cases h : p x = true
    · rw [List.takeWhile_cons_of_pos h]; simp [h]
    · rw [List.takeWhile_cons_of_neg h]; simp [h]
  | x :: t, j + 1, hj, hle => by
    by_cases h : p x = true
    · rw [List.takeWhile_cons_of_pos h] at *
      have := tw_step p t j (by simpa using hj) (by simpa using hle)
      simpa using this
    · rw [List.takeWhile_cons_of_neg h] at hle; simp at hle
theorem tw_le (p : Nat → Bool) : ∀ t : List Nat, (t.takeWhile p).length ≤ t.length
  | [] => Nat.le_refl _
  | x :: t => by
    by_cases h : p x = true
    · rw [List.takeWhile_cons_of_pos h]; simpa using tw_le p t
    · rw [List.takeWhile_cons_of_neg h]; simp

theorem cell_blk {V : World} {N : Nat} {v : Value} {t : TypeId} (h : V.heap[N]? = some (.cells #[v] t)) : V.cell? ⟨N, 0, none⟩ = some v := by simp [World.cell?, h]

def mg (ms : List Msg) (y : Nat) : Msg := ms.getD y .zero
theorem mixed : Yba.prog.follows .mixedOrders = true := by kernel_rfl

/-- What is held of the world behind the sort: the messages, the two boxes, the sorted places. -/
structure Held (b cap N : Nat) (ms : List Msg) (o : List Nat) (V : World) : Prop where
  m : Ms V b ms
  bx : V.cell? ⟨N, 0, none⟩ = some (.slice (some ⟨b, 0, none⟩) ms.length cap)
  fx : V.cell? ⟨N + 1, 0, none⟩ = some (.func (.func 15) #[] #[])
  at' : ∀ j (hj : j < o.length), V.cell? ⟨N + 1 + 1, j, none⟩ = some (.int .i32 (o[j] : Int))
  hb : b < N
  sz : N + 1 + 1 < V.heap.size

theorem Held.out {S : Nat → Prop} {b cap N : Nat} {ms : List Msg} {o : List Nat} {V V' : World} (h : Held b cap N ms o V) (u : Out S V V') (hS : ∀ k, k < N + 3 → ¬ S k) : Held b cap N ms o V' :=
  have hb := h.hb
  have hz := h.sz
  ⟨h.m.out u (by omega) (hS b (by omega)), (u.cell (p := ⟨N, 0, none⟩) (by show N < _; omega) (hS N (by omega))).trans h.bx, (u.cell (p := ⟨N + 1, 0, none⟩) (by show N + 1 < _; omega) (hS (N + 1) (by omega))).trans h.fx,
    fun j hj => (u.cell (p := ⟨N + 1 + 1, j, none⟩) (by show N + 1 + 1 < _; omega) (hS (N + 1 + 1) (by omega))).trans (h.at' j hj), hb, Nat.lt_of_lt_of_le hz u.size⟩

theorem take_run {n : Nat} (o : List (Fin n)) (oo : List Nat) (hoo : oo = o.map (·.val)) (p h : Nat) (t ru : List Nat) {f : Nat → Bool} (hd : oo.drop p = h :: t) (hru : t.takeWhile f = ru) : ((o.drop p).take (1 + ru.length)).map (·.val) = h :: ru := by
  rw [List.map_take, List.map_drop, ← hoo, hd, Nat.add_comm, List.take_succ_cons]
  congr 1
  have : ru ++ t.dropWhile f = t := by rw [← hru]; exact List.takeWhile_append_dropWhile
  rw [← this, List.take_left]

theorem con_calls (b cap N : Nat) (ms : List Msg) (o : List (Fin ms.length)) (p L h : Nat) (ru : List Nat) (V : World) (hH : Held b cap N ms (o.map (·.val)) V) (htk : ((o.drop p).take L).map (·.val) = h :: ru) (hL : p + L ≤ o.length) (hn : ms.length ≤ 1024) (h0 : 0 < ms.length) (hol : o.length = ms.length) (c : Nat) :
    Calls Yba.prog 23 #[.slice (some ⟨N + 1 + 1, p, none⟩) L c, .func (.func 24) #[] #[.pointer (some ⟨N, 0, none⟩)]] V fun e w' => e = .returned (.bool ((h :: ru).any (dE ms))) ∧ ∃ q, w' = V.drewN q := by
  have : Inhabited (Fin ms.length) := ⟨⟨0, h0⟩⟩
  refine (Yba.slices_ContainsFunc (encF ms.length) (fun x : Fin ms.length => dE ms x.val) 24 #[.pointer (some ⟨N, 0, none⟩)] (enters_of Yba.func24 (by kernel_rfl) rfl) (N + 1 + 1) p L c (o.drop p) V ?_ (by rw [List.length_drop]; omega) (by omega) ?_).mono ?_
  · intro W x hb
    have ho : Out NoOne V W := ⟨hb.os, hb.tape, hb.output, hb.size, fun k hk _ => hb.block k hk⟩
    have hW := hH.out ho (fun _ _ f => f)
    exact clo24_calls b N cap x.val ms W hW.m hW.bx hn x.isLt
  · intro j hj
    rw [List.length_drop] at hj
    rw [hH.at' (p + j) (by rw [List.length_map]; omega), getElem!_pos (o.drop p) j (by rw [List.length_drop]; exact hj)]
    simp [encF]
  · rintro e w' ⟨rfl, q, rfl⟩
    refine ⟨?_, q, rfl⟩
    rw [← htk, List.any_map]; rfl

theorem idx_calls (b cap N : Nat) (ms : List Msg) (o : List (Fin ms.length)) (p L h : Nat) (ru : List Nat) (V : World) (hH : Held b cap N ms (o.map (·.val)) V) (htk : ((o.drop p).take (1 + L)).map (·.val) = h :: ru) (hL : p + (1 + L) ≤ o.length) (hn : ms.length ≤ 1024) (h0 : 0 < ms.length) (hol : o.length = ms.length) (c q : Nat) :
    Calls Yba.prog 25 #[.slice (some ⟨N + 1 + 1, p, none⟩) (1 + L) c, .func (.func 26) #[] #[.pointer (some ⟨N + 1, 0, none⟩), .pointer (some ⟨N, 0, none⟩)]] (V.drewN q) fun e w' => e = .returned (.int .i64 0) ∧ ∃ q, w' = V.drewN q := by
  have : Inhabited (Fin ms.length) := ⟨⟨0, h0⟩⟩
  have hHq := hH.out (S := NoOne) ((Out.refl NoOne V).drewN q) (fun _ _ f => f)
  refine (Yba.slices_IndexFunc (encF ms.length) (fun x : Fin ms.length => true) 26 #[.pointer (some ⟨N + 1, 0, none⟩), .pointer (some ⟨N, 0, none⟩)] (enters_of Yba.func26 (by kernel_rfl) rfl) (N + 1 + 1) p (1 + L) c (o.drop p) (V.drewN q) ?_ (by rw [List.length_drop]; omega) (by omega) ?_).mono ?_
  · intro W x hb
    have ho : Out NoOne (V.drewN q) W := ⟨hb.os, hb.tape, hb.output, hb.size, fun k hk _ => hb.block k hk⟩
    have hW := hHq.out ho (fun _ _ f => f)
    exact clo26_calls b N (N + 1) cap x.val ms W hW.m hW.bx hW.fx hn x.isLt
  · intro j hj
    rw [List.length_drop] at hj
    rw [hHq.at' (p + j) (by rw [List.length_map]; omega), getElem!_pos (o.drop p) j (by rw [List.length_drop]; exact hj)]
    simp [encF]
  · rintro e w' ⟨rfl, q', rfl⟩
    refine ⟨?_, q + q', World.drewN_drewN ..⟩
    cases hz : (o.drop p).take (1 + L) with
    | nil => rw [hz] at htk; simp at htk
    | cons a r => rfl

theorem owns_base {w : World} {base n : Nat} {e : TypeId} {size : Nat} {v : Value} {xs : List Value} (h : w.ownsRow base e size v n xs) {k : Nat} (hk : v.ownBlock = some k) : base ≤ k ∧ k < w.heap.size := by
  rcases h.2 with ⟨rfl, _⟩ | ⟨g, cap, cur, rfl, hg, hh, r⟩
  · cases hk
  · cases hk
    refine ⟨hg, ?_⟩
    rcases Nat.lt_or_ge g w.heap.size with h | h
    · exact h
    · rw [Array.getElem?_eq_none h] at hh; cases hh

/-- What disambiguatedFirsts leaves. -/
def Dis (w : World) (ms : List Msg) (e : Ending) (w' : World) : Prop :=
  Out NoOne w w' ∧ ((firsts ms = [] ∧ ∃ v, e = .returned (.slice v 0 0)) ∨ ∃ g cap, e = .returned (.slice (some ⟨g, 0, none⟩) (firsts ms).length cap) ∧ w.heap.size ≤ g ∧ g < w'.heap.size ∧ ∀ j, j < (firsts ms).length → w'.cell? ⟨g, j, none⟩ = some (.int .i64 ((firsts ms).getD j 0 : Nat)))

/-- The sorted places as the second loop meets them, p of them done. -/
def Fst (w : World) (b cap : Nat) (ms : List Msg) (o : List Nat) (s5 s7 : Value) (wr : World) : Prop :=
  ∃ p, p ≤ ms.length ∧ (∃ a c, s5 = .slice a (ms.length - p) c ∧ (p < ms.length → a = some ⟨w.heap.size + 1 + 1, p, none⟩ ∧ c = ms.length - p)) ∧
    Out NoOne w wr ∧ Held b cap w.heap.size ms o wr ∧ Bd ms o p ∧ wr.ownsRow (w.heap.size + 3) 3 1 s7 ((o.take p).filter (first ms)).length (((o.take p).filter (first ms)).map fun x : Nat => Value.int .i64 (x : Int))

set_option maxRecDepth 100000 in
set_option maxHeartbeats 1000000 in
theorem dis_calls (b cap : Nat) (ms : List Msg) (w : World) (hm : Ms w b ms) (hb : b < w.heap.size) (hn : ms.length ≤ 1024) (h0 : 0 < ms.length) :
    Calls Yba.prog 14 #[.slice (some ⟨b, 0, none⟩) ms.length cap, .func (.func 15) #[] #[]] w (Dis w ms) := by
  have hmk := make_is ms.length (by omega)
  go_enter Yba.func14, Yba.ntmps14
  go_wp2_with fail
  go_loopw [16, 6] (fun i _ wr => ∃ (k : Nat), k ≤ ms.length ∧ i = .int .i64 k ∧ Out NoOne w wr ∧ wr.rowIs (w.heap.size + 1 + 1) 21 ms.length (fun j => if j < k then .int .i32 (j : Int) else .int .i32 0) ∧
     wr.cell? ⟨w.heap.size, 0, none⟩ = some (.slice (some ⟨b, 0, none⟩) ms.length cap) ∧ wr.cell? ⟨w.heap.size + 1, 0, none⟩ = some (.func (.func 15) #[] #[])) (fun i _ _ => ms.length - (intOf i).toNat)
  case atStart =>
    refine ⟨0, Nat.zero_le _, rfl, (((Out.refl _ w).alloc _).alloc _).alloc _, ⟨_, new_at (by simp), size_madeCells _ _, fun i hi => by simp [madeCells, hi, Nat.mod_one]⟩, ?_, ?_⟩
    · exact cell_blk (by rw [Deep.blk_alloc_lt _ _ _ (by simp; omega), Deep.blk_alloc_lt _ _ _ (by simp), Deep.blk_alloc_new])
    · exact cell_blk (by rw [Deep.blk_alloc_lt _ _ _ (by simp)]; exact new_at (by simp))
  case round =>
    obtain ⟨k, hk, rfl, hout, hrow, hb1, hb2⟩ := hrel
    by_cases hlt : k < ms.length
    · have ck := hrow.cell hlt
      have fk := hrow.frozen k
      have HR := hide (And.intro hout (And.intro hrow (And.intro hb1 hb2)))
      clear hout hrow hb1 hb2 hmk hm
      go_wp2_with fail
      case roundEnd =>
        refine ⟨⟨k + 1, by omega, rfl, HR.out.1.setCell (p := ⟨w.heap.size + 1 + 1, k, none⟩) (fun h => by have h : w.heap.size + 1 + 1 < w.heap.size := h; omega) _, (HR.out.2.1.set k _).congr (fun i hi => ?_), ?_, ?_⟩, by simp only [intOf]; omega⟩
        · show (if i = k then _ else if i < k then _ else _) = if i < k + 1 then _ else _
          by_cases e : i = k
          · rw [if_pos e, if_pos (by omega), e]
          · rw [if_neg e]
            by_cases e' : i < k
            · rw [if_pos e', if_pos (by omega)]
            · rw [if_neg e', if_neg (by omega)]
        · rw [World.cell?_setCell_other _ _ _ _ (by intro e; simp only [Addr.mk.injEq] at e; omega)]; exact HR.out.2.2.1
        · rw [World.cell?_setCell_other _ _ _ _ (by intro e; simp only [Addr.mk.injEq] at e; omega)]; exact HR.out.2.2.2
    · obtain rfl : k = ms.length := by omega
      have hrow' : wr.rowIs (w.heap.size + 1 + 1) 21 ms.length (fun j => .int .i32 (j : Int)) := hrow.congr (fun i hi => if_pos hi)
      have hlt' := hrow.lt
      have hso := sort_step b cap w.heap.size (w.heap.size + 1 + 1) ms.length ms wr rfl (hm.out hout hb (fun f => f)) (by omega) hb1 (by omega) hrow' (by omega) (by omega) hn h0
      have HF := hide (And.intro hout (And.intro hb1 (And.intro hb2 (And.intro (hm.out hout hb (fun f => f)) hlt'))))
      clear hout hrow hrow' hb1 hb2 hm hmk
      go_wp2_with (go_at_call 17; refine hso.mono ?_; rintro e ws ⟨rfl, hos, o, ho1, ho2, ho3, ho4⟩)
      have hH0 : Held b cap w.heap.size ms (o.map (·.val)) ws := by
        obtain ⟨f1, f2, f3, f4, f5⟩ := HF.out
        refine ⟨f4.out hos (by omega) (fun (e : _ = _) => by omega), (hos.cell (p := ⟨w.heap.size, 0, none⟩) (by show w.heap.size < _; omega) (fun (e : w.heap.size = w.heap.size + 1 + 1) => by omega)).trans f2, (hos.cell (p := ⟨w.heap.size + 1, 0, none⟩) (by show w.heap.size + 1 < _; omega) (fun (e : w.heap.size + 1 = w.heap.size + 1 + 1) => by omega)).trans f3, fun j hj => ?_, hb, by have := hos.size; omega⟩
        rw [ho4 j (by simpa using hj)]; simp
      obtain ⟨oo, hoo⟩ : ∃ oo, oo = o.map (·.val) := ⟨_, rfl⟩
      rw [← hoo] at ho1 ho2 hH0
      have hol : oo.length = ms.length := by rw [hoo, List.length_map]; exact ho3
      have hO0 : Out NoOne w ws := HF.out.1.trans hos (fun x hx (e : x = w.heap.size + 1 + 1) => by omega)
      have HI := hide (And.intro ho1 (And.intro ho2 (And.intro ho3 (And.intro hoo hol))))
      clear HF hos ho1 ho2 ho3 ho4 hso hoo
      go_loopw [5, 7, 8, 9, 10] (fun s5 s7 _ _ _ wr => Fst w b cap ms oo s5 s7 wr) (fun s5 _ _ _ _ _ => lenOf s5)
      case atStart =>
        refine ⟨0, Nat.zero_le _, ⟨_, _, rfl, fun _ => ⟨rfl, rfl⟩⟩, hO0, hH0, ?_, ?_⟩
        · intro x hx; simp at hx
        · exact ⟨rfl, .inl ⟨rfl, rfl⟩⟩
      case round =>
        obtain ⟨p, hp, ⟨a, c, rfl, hac⟩, hout, hH, hB, hown⟩ := hrel
        clear hH0 hO0
        by_cases hlt : p < ms.length
        · obtain ⟨rfl, rfl⟩ := hac hlt
          obtain ⟨h, t, hd⟩ : ∃ h t, oo.drop p = h :: t := ⟨_, _, List.drop_eq_getElem_cons (by omega)⟩
          have hth : t.length = ms.length - p - 1 := by have := congrArg List.length hd; rw [List.length_drop, List.length_cons] at this; omega
          obtain ⟨ru, hru⟩ : ∃ ru, t.takeWhile (fun x => sm ms x h) = ru := ⟨_, rfl⟩
          have hrl : ru.length ≤ ms.length - p - 1 := by rw [← hru, ← hth]; exact tw_le _ _
          have HW := hide (And.intro hout (And.intro hH (And.intro hB (And.intro hown (And.intro hd (And.intro hru hth))))))
          clear hac hout hH hB hown hd hru
          obtain ⟨wo, hwo⟩ : ∃ wo, wo = wr := ⟨_, rfl⟩
          subst hwo
          have hpos : 0 < ms.length - p := by omega
          go_upto_block 4 with fail
          go_cut [8] (fun s8 wc => s8 = .int .i64 ((1 + ru.length : Nat) : Int) ∧ Out NoOne wo wc)
          case first =>
            go_wp2_with fail
            go_loopw [8] (fun s8 wr => ∃ k : Nat, 1 ≤ k ∧ k ≤ 1 + ru.length ∧ s8 = .int .i64 (k : Int) ∧ Out NoOne wo wr) (fun s8 _ => ms.length - (intOf s8).toNat)
            case atStart => exact ⟨1, Nat.le_refl _, by omega, rfl, Out.refl _ _⟩
            case round =>
              obtain ⟨k, hk1, hk2, rfl, ho3⟩ := hrel
              have hH3 := HW.out.2.1.out ho3 (fun _ _ f => f)
              by_cases hk : k < ms.length - p
              · have hkt : k - 1 < t.length := by omega
                have hgx : oo[p + k]'(by omega) = t[k - 1] := by
                  have := congrArg (fun l => l[k]?) HW.out.2.2.2.2.1
                  simp only [List.getElem?_drop] at this
                  rw [List.getElem?_cons, if_neg (by omega), List.getElem?_eq_getElem (by omega), List.getElem?_eq_getElem hkt] at this
                  exact Option.some.inj this
                have hgh : oo[p]'(by omega) = h := by
                  have := congrArg (fun l => l[0]?) HW.out.2.2.2.2.1
                  simp only [List.getElem?_drop, Nat.add_zero] at this
                  rw [List.getElem?_eq_getElem (by omega)] at this
                  exact Option.some.inj this
                have hx : t[k - 1] < ms.length := by rw [← hgx]; exact List.mem_range.1 (HI.out.1.mem_iff.1 (List.getElem_mem _))
                have hhl : h < ms.length := by rw [← hgh]; exact List.mem_range.1 (HI.out.1.mem_iff.1 (List.getElem_mem _))
                have cx := hH3.at' (p + k) (by omega)
                have ch := hH3.at' p (by omega)
                rw [hgx] at cx
                rw [hgh] at ch
                have htw := tw_step (fun x => sm ms x h) t (k - 1) hkt (by rw [HW.out.2.2.2.2.2.1]; omega)
                rw [HW.out.2.2.2.2.2.1] at htw
                generalize t[k - 1] = x at *
                clear hgx hgh
                have bx := hH3.bx
                have hz := hH3.sz
                have htw' : (((mg ms x).c.toList == (mg ms h).c.toList) && ((mg ms x).s.toList == (mg ms h).s.toList)) = true ↔ k - 1 < ru.length := htw
                clear htw
                have bx' : ∀ n os, (Sort.grow (wr.drewN n) os).cell? ⟨w.heap.size, 0, none⟩ = _ := cell_grown (by show w.heap.size < _; omega) bx
                have cx' : ∀ n os, (Sort.grow (wr.drewN n) os).cell? ⟨w.heap.size + 1 + 1, p + k, none⟩ = _ := cell_grown (by show w.heap.size + 1 + 1 < _; omega) cx
                have ch' : ∀ n os, (Sort.grow (wr.drewN n) os).cell? ⟨w.heap.size + 1 + 1, p, none⟩ = _ := cell_grown (by show w.heap.size + 1 + 1 < _; omega) ch
                have hG : ∀ y, y < ms.length → ∀ n os, Calls Yba.prog 22 #[.pointer (some ⟨b, y * 15, none⟩)] (Sort.grow (wr.drewN n) os) fun e w' => e = .returned (.agg #[.string (mg ms y).c, .string (mg ms y).s]) ∧ ∃ q os', w' = Sort.grow ((Sort.grow (wr.drewN n) os).drewN q) os' := fun y hy n os =>
                  group_calls b (y * 15) (mg ms y) _ (by show b < (wr.heap ++ os).size; rw [Array.size_append]; omega) (cell_grown (by show b < _; omega) (hH3.m.c y hy) n os) (cell_grown (by show b < _; omega) (hH3.m.s y hy) n os)
                have HO3 := hide ho3
                have HQ := hide (And.intro bx' (And.intro cx' (And.intro ch' hG)))
                clear hH3 ho3 bx cx ch bx' cx' ch' hG
                by_cases hsm : ((((mg ms x).c.toList == (mg ms h).c.toList) && ((mg ms x).s.toList == (mg ms h).s.toList))) = true
                · have hkr := htw'.1 hsm
                  have hs1 : ((mg ms x).c.toList == (mg ms h).c.toList) = true := by simp only [Bool.and_eq_true] at hsm; exact hsm.1
                  have hs2 : ((mg ms x).s.toList == (mg ms h).s.toList) = true := by simp only [Bool.and_eq_true] at hsm; exact hsm.2
                  have HS := hide (And.intro hs1 hs2)
                  clear htw' hsm hs1 hs2
                  go_wp2_with fail
                  obtain ⟨bx', cx', ch', hG⟩ := HQ.out
                  obtain ⟨hs1, hs2⟩ := HS.out
                  have hmx := mixed
                  go_quiet_grown (exact Calls.grown_of (hG _ (by assumption) _ _))
                  clear bx' cx' ch' hG hs1 hs2
                  go_wp2_with fail
                  go_roundw
                  case rel => exact ⟨k + 1, by omega, by omega, by go_num, HO3.out.growN _ _⟩
                  case measure => simp [intOf]; omega
                · have hkr : k = 1 + ru.length := by
                    have : ¬ k - 1 < ru.length := fun e => hsm (htw'.2 e)
                    omega
                  have HK := hide hkr
                  clear hkr
                  by_cases hc : ((mg ms x).c.toList == (mg ms h).c.toList) = true
                  · have hs2 : ((mg ms x).s.toList == (mg ms h).s.toList) = false := by
                      cases e : ((mg ms x).s.toList == (mg ms h).s.toList) with
                      | false => rfl
                      | true => exact absurd (by rw [hc, e]; rfl) hsm
                    have HS := hide (And.intro hc hs2)
                    clear htw' hsm hc hs2
                    go_wp2_with fail
                    obtain ⟨bx', cx', ch', hG⟩ := HQ.out
                    obtain ⟨hs1, hs2⟩ := HS.out
                    have hmx := mixed
                    go_quiet_grown (exact Calls.grown_of (hG _ (by assumption) _ _))
                    clear bx' cx' ch' hG hs1 hs2
                    go_wp2_with fail
                    go_meet
                    case rel => exact ⟨by rw [HK.out], HO3.out.growN _ _⟩
                  · have hs1 : ((mg ms x).c.toList == (mg ms h).c.toList) = false := by simpa using hc
                    have HS := hide hs1
                    clear htw' hsm hc hs1
                    go_wp2_with fail
                    obtain ⟨bx', cx', ch', hG⟩ := HQ.out
                    have hs1 := HS.out
                    have hmx := mixed
                    go_quiet_grown (exact Calls.grown_of (hG _ (by assumption) _ _))
                    clear bx' cx' ch' hG hs1
                    go_wp2_with fail
                    go_meet
                    case rel => exact ⟨by rw [HK.out], HO3.out.growN _ _⟩
              · have hkr : k = 1 + ru.length := by omega
                have HO3 := hide ho3
                have HK := hide hkr
                clear hkr
                have hkd : decide ((k : Int) < ((ms.length - p : Nat) : Int)) = false := by simp; omega
                clear hH3 ho3
                go_wp2_with fail
                go_region
                go_wp2_with fail
                go_meet
                case rel => exact ⟨by rw [HK.out], HO3.out.drew⟩
          case rest =>
            obtain ⟨rfl, hoc⟩ := hcut
            obtain ⟨ho1, ho2, ho3, hoo, hol'⟩ := HI.out
            obtain ⟨hout, hH, hB, hown, hd, hru, _⟩ := HW.out
            have hHc := hH.out hoc (fun _ _ f => f)
            have hst := step_law ms oo ho2 ho1 p h t hd hB
            rw [hru] at hst
            have htk : ((o.drop p).take (1 + ru.length)).map (·.val) = h :: ru := take_run o oo hoo p h t ru hd hru
            have hcon := con_calls b cap w.heap.size ms o p (1 + ru.length) h ru wc (hoo ▸ hHc) htk (by omega) hn h0 ho3
            have hidx := idx_calls b cap w.heap.size ms o p ru.length h ru wc (hoo ▸ hHc) htk (by omega) hn h0 ho3
            have hch := hHc.at' p (by omega)
            rw [show oo[p]'(by omega) = h from by
              have := congrArg (fun l => l[0]?) hd
              simp only [List.getElem?_drop, Nat.add_zero] at this
              rw [List.getElem?_eq_getElem (by omega)] at this
              exact Option.some.inj this] at hch
            have HC := hide (And.intro hout (And.intro hHc (And.intro hown (And.intro hst hoc))))
            have HQ := hide (And.intro hcon (And.intro hidx hch))
            clear hout hHc hown hst hoc hH hB hcon hidx hch htk hoo ho1 ho2 ho3
            go_upto_region 15 with fail
            generalize hs5 : Value.slice (if ms.length - p = 1 + ru.length then some ⟨w.heap.size + 1 + 1, p, none⟩ else some ⟨w.heap.size + 1 + 1, p + (1 + ru.length), none⟩) (ms.length - p - (1 + ru.length)) (ms.length - p - (1 + ru.length)) = s5
            have H5 : Hid ((∃ a c, s5 = .slice a (ms.length - (p + (1 + ru.length))) c ∧ (p + (1 + ru.length) < ms.length → a = some ⟨w.heap.size + 1 + 1, p + (1 + ru.length), none⟩ ∧ c = ms.length - (p + (1 + ru.length)))) ∧ lenOf s5 < ms.length - p) := by
              subst hs5
              simp only [Nat.sub_sub]
              exact hide ⟨⟨_, _, rfl, fun hh => ⟨if_neg (by omega), rfl⟩⟩, by simp only [lenOf]; omega⟩
            clear hs5
            by_cases hA : (h :: ru).any (dE ms) = true
            · go_wp2_with (go_at_call 23; refine (HQ.out.1 _).mono ?_; rintro e wd ⟨rfl, q, rfl⟩)
              case roundEnd =>
                obtain ⟨hout, hHc, hown, hst, hoc⟩ := HC.out
                refine ⟨⟨p + (1 + ru.length), by omega, H5.out.1, (hout.trans hoc (fun _ _ f => f)).drewN q, hHc.out (S := NoOne) ((Out.refl NoOne wc).drewN q) (fun _ _ f => f), hst.1, ?_⟩, H5.out.2⟩
                rw [hst.2, if_pos hA, List.append_nil]
                exact owns_out hown ((hoc.drewN q)) (fun _ _ f => f)
            · have hh : h < ms.length := by
                obtain ⟨ho1, ho2, ho3, hoo, hol'⟩ := HI.out
                have : h ∈ oo := List.mem_of_mem_drop (i := p) (by rw [HW.out.2.2.2.2.1]; exact List.mem_cons_self ..)
                exact List.mem_range.1 (ho1.mem_iff.1 this)
              have hchq : ∀ q, (wc.drewN q).cell? ⟨w.heap.size + 1 + 1, p, none⟩ = some (.int .i32 (h : Int)) := fun q => HQ.out.2.2
              go_wp2_with (first
                | (go_at_call 23; refine (HQ.out.1 _).mono ?_; rintro e wd ⟨rfl, q, rfl⟩)
                | (go_at_call 25; refine (HQ.out.2.1 _ _).mono ?_; rintro e wd ⟨rfl, q', rfl⟩)
                | (at_builtin; refine wpList_append_i rfl _ _ rfl (w.heap.size + 3) u7 _ _ rfl (owns_out HC.out.2.2.1 (S := NoOne) ((HC.out.2.2.2.2.drewN _).alloc _) (fun _ _ f => f)) _ _ (h : Int) rfl ?hx ?hy ?hz ?_))
              case hx => exact cell_blk (new_at rfl)
              case hy => exact Nat.le_trans (List.length_filter_le ..) (by rw [List.length_take]; omega)
              case hz => have := HC.out.2.1.sz; simp; omega
              intro v' w4 hown4 hg4
              have HZ := hide (And.intro hown4 hg4)
              clear hown4 hg4 hchq
              go_wp2_with fail
              case roundEnd =>
                obtain ⟨hout, hHc, hown, hst, hoc⟩ := HC.out
                obtain ⟨hown4, hg4⟩ := HZ.out
                have hbs : ∀ k, u7.ownBlock = some k → w.heap.size + 3 ≤ k := fun k hk => (owns_base hown hk).1
                refine ⟨⟨p + (1 + ru.length), by omega, H5.out.1, (((hout.trans hoc (fun _ _ f => f)).drewN _).alloc _).grown hg4 (fun k e hlt => by have := hbs k e; omega), hHc.out (S := fun k => w.heap.size + 3 ≤ k) ((((Out.refl _ wc).drewN _).alloc _).grown hg4 (fun k e _ => hbs k e)) (fun k hk e => by omega), hst.1, ?_⟩, H5.out.2⟩
                rw [hst.2, if_neg hA, List.map_append, List.length_append]
                exact hown4
        · obtain rfl : p = ms.length := by omega
          obtain ⟨ho1, ho2, ho3, hoo, hol'⟩ := HI.out
          rw [← hol', List.take_length] at hown
          have hfp : (oo.filter (first ms)).Perm (firsts ms) := ho1.filter _
          have hfl : (oo.filter (first ms)).length = (firsts ms).length := hfp.length_eq
          have hso := sorted_firsts ms oo ho1
          rcases hown.2 with ⟨rfl, hl0⟩ | ⟨g, cg, cur, rfl, hbg, hgg, hnc, hcm, hcs, htake⟩
          · have HE := hide (show firsts ms = [] from List.eq_nil_of_length_eq_zero (by omega))
            have HO := hide hout
            clear hac hH hB hown ho1 ho2 ho3 hoo hol' hout hfp hfl hso hl0
            go_wp2_with (go_at_call 27; refine (Yba.slices_Sort_int_none _ _ _).mono ?_; rintro e wd ⟨rfl, rfl⟩)
            go_ret
            exact ⟨HO.out, .inl ⟨HE.out, _, rfl⟩⟩
          · have hcell := hown.cells (g := g) rfl
            have hH27 : Sort.Holds (Value.int .i64) wr g 0 ((oo.filter (first ms)).map fun x : Nat => (x : Int)).toArray := fun j hj => by
              have hj' : j < (oo.filter (first ms)).length := by simpa using hj
              refine ⟨?_, by simp [World.frozen?, hgg]⟩
              have := hcell j (.int .i64 ((oo.filter (first ms))[j] : Int)) (by simp [hj'])
              rw [getElem!_pos _ j hj]
              rw [Addr.add_mid] at this
              simpa using this
            have hglt : g < wr.heap.size := by
              rcases Nat.lt_or_ge g wr.heap.size with h | h
              · exact h
              · rw [Array.getElem?_eq_none h] at hgg; cases hgg
            have hcall := Yba.slices_Sort_int g 0 cg ((oo.filter (first ms)).map fun x : Nat => (x : Int)) wr hH27 hglt (by rw [List.length_map]; have := List.length_filter_le (first ms) oo; omega)
            rw [hso, List.length_map] at hcall
            have HO := hide (And.intro hout (And.intro hH27 (And.intro hfl (And.intro hbg hglt))))
            clear hac hH hB hown ho1 ho2 ho3 hoo hol' hout hfp hso hgg hnc hcm hcs htake hcell hH27 hfl hbg hglt
            go_wp2_with (go_at_call 27; refine hcall.mono ?_; rintro e wd ⟨rfl, q, os, rfl⟩)
            go_ret
            obtain ⟨hout, hH27, hfl, hbg, hglt⟩ := HO.out
            have hos := Out.sort (Value.int .i64) wr g 0 q ((firsts ms).map fun x : Nat => (x : Int)).toArray os
            refine ⟨hout.trans hos (fun x hx (e : x = g) => by omega), .inr ⟨g, cg, ?_, by omega, Nat.lt_of_lt_of_le hglt hos.size, fun j hj => ?_⟩⟩
            · rw [hfl]; rfl
            · have hh : Sort.Holds (Value.int .i64) (sortWorld (Value.int .i64) wr g 0 q ((firsts ms).map fun x : Nat => (x : Int)).toArray os) g 0 ((firsts ms).map fun x : Nat => (x : Int)).toArray := SW.holds ⟨q, os, rfl⟩ hglt hH27 (by simp [hfl])
              have h1 := (hh j (by simpa using hj)).1
              rw [Nat.zero_add, getElem!_pos _ j (by simpa using hj)] at h1
              refine h1.trans ?_
              simp [hj]
end Go.Proofs.Ybulkccw.qm
