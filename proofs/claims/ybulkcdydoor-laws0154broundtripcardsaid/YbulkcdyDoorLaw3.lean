/- The walk of LawS0154BCalls (function 3) where no slice is longer than 1024. -/
import Derived.Test.YbulkcdyDoorCOpen
import Derived.BigQuiet
import Derived.WalkSpells
import Derived.ChangeKeysEq
import Derived.LaidEql
namespace Go.Proofs.YbulkcdyDoor.noise
open Go Go.ChangeShapes Go.WideShapes Go.ChangeAt Go.RowKit
set_option linter.unusedVariables false

theorem Ybad.cells5 : Ybad.prog.cellsOf 5 = 1 := by kernel_rfl
set_option maxHeartbeats 1000000 in
theorem eq24 (x0 x1 x2 x3 x4 x5 x6 x7 x8 x9 x10 x11 : Int) (w : World) :
    Sem.run Ybad.prog (Op.equalIn 10000 24 (.agg #[.int .u8 x0, .int .u8 x1, .int .u8 x2, .int .u8 x3, .int .u8 x4, .int .u8 x5, .int .u8 x6, .int .u8 x7, .int .u8 x8, .int .u8 x9, .int .u8 x10, .int .u8 x11])
      (.agg #[.int .u8 x0, .int .u8 x1, .int .u8 x2, .int .u8 x3, .int .u8 x4, .int .u8 x5, .int .u8 x6, .int .u8 x7, .int .u8 x8, .int .u8 x9, .int .u8 x10, .int .u8 x11])) w = .ok true w := by
  obtain ⟨i0, hi, _, _, _⟩ := info_parts Ybad.info5
  rw [run_equalIn_array w 9999 _ _ Ybad.underlying24 hi, Ybad.cells5]
  have hr : List.range 12 = [0, 1, 2, 3, 4, 5, 6, 7, 8, 9, 10, 11] := rfl
  rw [hr]
  have he : ∀ x, Sem.run Ybad.prog (Op.equalIn 9999 5 (.int .u8 x) (.int .u8 x)) w = .ok true w := fun x => by
    rw [run_equalIn_int w 9998 5 .u8 .u8 x x Ybad.underlying5]; simp
  simp [Op.eqItems, part, isAgg, run_underlying Ybad.underlying5, he]

theorem Bs.drewN {w : World} {v : Value} {l : List Int} (h : Bs w v l) (n : Nat) : Bs (w.drewN n) v l := h.out ((Out.refl NoOne w).drewN n) (fun _ _ _ f => f)

/-- A slice that came in: it reads l, its bytes are bytes, and where there is one it lies below N. -/
structure Arg (w : World) (N : Nat) (v : Value) (l : List Int) : Prop where
  bs : Bs w v l
  by' : Bytes l
  old : l ≠ [] → ∀ k, v.ownBlock = some k → k < N

theorem Arg.out3 {w V X : World} {N A r : Nat} {v vd : Value} {l : List Int} (h : Arg w N v l) (o1 : Out NoOne w V) (o2 : Out (OrTwo A r vd) V X) (hA : N ≤ A) (hr : N ≤ r) (hd : ∀ k, vd.ownBlock = some k → N ≤ k) : Bs X v l :=
  (h.bs.out o1 (fun _ _ _ f => f)).out o2 (fun h0 k hk e => by
    have := h.old h0 k hk
    rcases e with e | e | e
    · omega
    · omega
    · have := hd k e; omega)

theorem info52 : (Ybad.prog.info? 52).map (fun i => i.comparable) = some true := by kernel_rfl
theorem info72 : (Ybad.prog.info? 72).isSome = true := by kernel_rfl
theorem eq_err (pe : Addr) (w : World) : Sem.run Ybad.prog (binOp .eql 34 (.iface 52 (.pointer (some pe))) (.iface 52 (.pointer (some pe)))) w = .ok (.bool true) w := by
  obtain ⟨i, hi, hc⟩ := Option.map_eq_some_iff.1 info52
  obtain ⟨j, hj⟩ := Option.isSome_iff_exists.1 info72
  exact run_eql_iface_ptr_same w pe Ybad.underlying34 Ybad.underlying52 hi hc hj
theorem eq_nil (w : World) : Sem.run Ybad.prog (binOp .eql 22 (.slice none 0 0) (.slice none 0 0)) w = .ok (.bool true) w := by kernel_rfl
theorem Out.end3 {w V X Y : World} {A r : Nat} {vd : Value} (o1 : Out NoOne w V) (o2 : Out (OrTwo A r vd) V X) (o3 : Out NoOne X Y) (hA : w.heap.size ≤ A) (hr : w.heap.size ≤ r) (hd : ∀ k, vd.ownBlock = some k → w.heap.size ≤ k) : Below w.heap.size w Y :=
  ((o1.any (S := OrTwo A r vd)).trans (o2.trans o3 (fun _ _ f => f.elim)) (fun _ _ e => e)).below (Nat.le_refl _) (fun k hk e => by
    rcases e with e | e | e
    · omega
    · omega
    · have := hd k e; omega)
theorem append_getD (l m : List Int) (i : Nat) (h : i < l.length) : (l ++ m).getD i 0 = l.getD i 0 := by
  simp [List.getD_eq_getElem?_getD, List.getElem?_append_left h]
theorem xor_getD (l m : List Int) (i : Nat) (h : i < m.length) : (l ++ Xor m).getD (l.length + i) 0 = bits .xor .u8 (m.getD i 0) 90 := by
  simp [List.getD_eq_getElem?_getD, List.getElem?_append_right (Nat.le_add_right _ _), Xor, List.getElem?_eq_getElem h]

/-- The nonce's byte at i. -/
def nv (n : Int) (i : Nat) : Int := (nonceL n).getD i 0

theorem want_nv (n : Int) (w : World) (hn0 : 0 ≤ n) (hn1 : n < 18446744073709551616) :
    Calls Ybad.prog 6 #[.int .u64 n] w fun e w' => e = .returned (.agg #[.int .u8 (nv n 0), .int .u8 (nv n 1), .int .u8 (nv n 2), .int .u8 (nv n 3), .int .u8 (nv n 4), .int .u8 (nv n 5), .int .u8 (nv n 6), .int .u8 (nv n 7), .int .u8 (nv n 8), .int .u8 (nv n 9), .int .u8 (nv n 10), .int .u8 (nv n 11)]) ∧ Out NoOne w w' :=
  want_calls n w hn0 hn1

/-- The three new blocks behind w1: the stand-in's record at A, the Cipher at A + 1, the room for the nonce at A + 2. -/
structure Ready (w1 V : World) (fl ck : Bool) (f : Nat → Int) : Prop where
  out : Out NoOne w1 V
  size : w1.heap.size + 1 + 1 < V.heap.size
  rec0 : Rec0 V w1.heap.size fl ck 0
  cC : V.cell? ⟨w1.heap.size + 1, 0, none⟩ = some (.iface 25 (.pointer (some ⟨w1.heap.size, 0, none⟩)))
  cr : ∀ i, i < 12 → V.cell? ⟨w1.heap.size + 1 + 1, i, none⟩ = some (.int .u8 (f i))
  fr : ∀ i, V.frozen? ⟨w1.heap.size + 1 + 1, i, none⟩ = false

theorem ready3 (w1 : World) (fl ck : Bool) (x0 x1 x2 x3 x4 x5 x6 x7 x8 x9 x10 x11 : Int) :
    Ready w1 (((w1.alloc (.cells #[.bool fl, .bool ck, .int .i64 0, .slice none 0 0, .slice none 0 0, .slice none 0 0] 27)).alloc (.cells #[.iface 25 (.pointer (some ⟨w1.heap.size, 0, none⟩))] 32)).alloc (.cells #[.int .u8 x0, .int .u8 x1, .int .u8 x2, .int .u8 x3, .int .u8 x4, .int .u8 x5, .int .u8 x6, .int .u8 x7, .int .u8 x8, .int .u8 x9, .int .u8 x10, .int .u8 x11] 24)) fl ck
      (fun i => [x0, x1, x2, x3, x4, x5, x6, x7, x8, x9, x10, x11].getD i 0) := by
  refine ⟨(((Out.refl _ w1).alloc _).alloc _).alloc _, by simp, ⟨by simp [go_sem], by simp [go_sem], by simp [go_sem], fun o => by simp [go_sem], .slice none 0 0, .slice none 0 0, .slice none 0 0, by simp [go_sem], by simp [go_sem], by simp [go_sem]⟩, by simp [go_sem], fun i hi => ?_, fun i => by simp [go_sem]⟩
  have hi' : i = 0 ∨ i = 1 ∨ i = 2 ∨ i = 3 ∨ i = 4 ∨ i = 5 ∨ i = 6 ∨ i = 7 ∨ i = 8 ∨ i = 9 ∨ i = 10 ∨ i = 11 := by omega
  rcases hi' with rfl | rfl | rfl | rfl | rfl | rfl | rfl | rfl | rfl | rfl | rfl | rfl <;> simp [go_sem]

set_option maxRecDepth 100000 in
set_option maxHeartbeats 4000000 in
theorem law3_go (l0 l2 l3 : List Int) (a0 a2 a3 : Option Addr) (c0 c2 c3 : Nat) (n : Int) (x0 x1 x2 x3 x4 x5 x6 x7 x8 x9 x10 x11 : Int) (fl : Bool) (pe : Addr) (w : World)
    (h0 : Arg w w.heap.size (.slice a0 l0.length c0) l0) (h2 : Arg w w.heap.size (.slice a2 l2.length c2) l2) (h3 : Arg w w.heap.size (.slice a3 l3.length c3) l3)
    (z0 : l0.length ≤ 1024) (z2 : l2.length ≤ 1024) (z3 : l3.length ≤ 1024) (hn0 : 0 ≤ n) (hn1 : n < 18446744073709551616)
    (hw : 0 < w.heap.size) (hg : w.cell? ⟨0, 0, none⟩ = some (.iface 52 (.pointer (some pe)))) :
    Calls Ybad.prog 3 #[.slice a0 l0.length c0, .int .u64 n, .slice a2 l2.length c2, .slice a3 l3.length c3,
      .agg #[.int .u8 x0, .int .u8 x1, .int .u8 x2, .int .u8 x3, .int .u8 x4, .int .u8 x5, .int .u8 x6, .int .u8 x7, .int .u8 x8, .int .u8 x9, .int .u8 x10, .int .u8 x11], .bool fl] w
      fun e w' => e = .returned (.bool true) ∧ Below w.heap.size w w' := by
  have H0 := hide h0
  have H2 := hide h2
  have H3 := hide h3
  clear h0 h2 h3
  have o0 : Out NoOne w (w.alloc (.cells #[.int .u8 x0, .int .u8 x1, .int .u8 x2, .int .u8 x3, .int .u8 x4, .int .u8 x5, .int .u8 x6, .int .u8 x7, .int .u8 x8, .int .u8 x9, .int .u8 x10, .int .u8 x11] 24)) := (Out.refl _ w).alloc _
  go_enter Ybad.func3, Ybad.ntmps3
  go_wp2_with (at_builtin; refine wpList_append_bs rfl _ _ rfl (w.heap.size + 1) (.slice none 0 0) [] l0 l0 rfl rfl (World.ownsRow_nil _ _ _ _) _ rfl ?hx ?hy ?hz ?_)
  case hx => exact H0.out.bs.out o0 (fun _ _ _ f => f)
  case hy => simp; omega
  case hz => simp
  intro d cd w1 hown1 hg1 _
  have o1 : Out NoOne w w1 := o0.grew hg1
  have s1 : w.heap.size < w1.heap.size := by have := hg1.size; simp at this; omega
  have kB : ∀ i, w1.cell? ⟨w.heap.size, i, none⟩ = (w.alloc (.cells #[.int .u8 x0, .int .u8 x1, .int .u8 x2, .int .u8 x3, .int .u8 x4, .int .u8 x5, .int .u8 x6, .int .u8 x7, .int .u8 x8, .int .u8 x9, .int .u8 x10, .int .u8 x11] 24)).cell? ⟨w.heap.size, i, none⟩ :=
    fun i => World.cell?_of_block (hg1.block w.heap.size (by simp) (by simp [Value.ownBlock]))
  have O1 := hide o1
  have HW1 := hide hown1
  clear hown1 hg1 o0 o1
  have RD := ready3 w1 fl false x0 x1 x2 x3 x4 x5 x6 x7 x8 x9 x10 x11
  go_upto_region 7 with fail
  generalize (((w1.alloc (.cells #[.bool fl, .bool false, .int .i64 0, .slice none 0 0, .slice none 0 0, .slice none 0 0] 27)).alloc (.cells #[.iface 25 (.pointer (some ⟨w1.heap.size, 0, none⟩))] 32)).alloc (.cells #[.int .u8 x0, .int .u8 x1, .int .u8 x2, .int .u8 x3, .int .u8 x4, .int .u8 x5, .int .u8 x6, .int .u8 x7, .int .u8 x8, .int .u8 x9, .int .u8 x10, .int .u8 x11] 24)) = V at *
  clear kB
  go_cut [17, 18, 45] (fun s17 s18 _ wc => COpenPost w1.heap.size (w.heap.size + 1) (w1.heap.size + 1 + 1) fl false 1 n l2 l3 l0 (.slice d l0.length cd) (.iface 52 (.pointer (some pe))) V (.returned (.tuple #[s17, s18])) wc)
  case first =>
    have hz := RD.size
    have oV : Out NoOne w V := O1.out.trans RD.out (fun _ _ f => f)
    have hdl := HW1.out.lt
    have hsz := O1.out.size
    have hcall := copen_calls w1.heap.size (w.heap.size + 1) (w1.heap.size + 1 + 1) (w1.heap.size + 1) (fun i => [x0, x1, x2, x3, x4, x5, x6, x7, x8, x9, x10, x11].getD i 0) fl false 0 n l2 l3 l0 a3 a2 d c3 c2 cd (.iface 52 (.pointer (some pe))) V
      (by omega) (by omega) (by omega) RD.rec0 (by omega) RD.cC (by omega) RD.size RD.cr RD.fr ((oV.cell (p := ⟨0, 0, none⟩) hw (fun f => f)).trans hg) (by omega) (by omega)
      (fun e => by have := (hdl 0 e).1; omega) (H3.out.bs.out oV (fun _ _ _ f => f)) (H2.out.bs.out oV (fun _ _ _ f => f)) (by omega)
      (fun h0 e => by have := H3.out.old h0 _ e; omega) (fun h0 e => by have := H2.out.old h0 _ e; omega) (fun h0 e => by have := H3.out.old h0 _ e; omega) (fun h0 e => by have := H2.out.old h0 _ e; omega)
      (fun e => by have := (hdl _ e).2; omega) (by omega) (by omega) (by omega) hn0 hn1 H3.out.by' (fun e => by have := (hdl _ e).2; omega) (by omega)
      (owns_out HW1.out RD.out (fun _ _ f => f)) (fun h0 k hk e => by have := H3.out.old h0 _ hk; have := (hdl _ e).1; omega)
    have HCALL := hide hcall
    clear hcall hz oV hdl hsz RD O1 HW1 H0 H2 H3
    go_wp2_with fail
    refine HCALL.out.mono ?_
    rintro e wc ⟨v, ev, rfl, hp⟩
    go_wp2_with fail
    go_meet
    case rel => exact ⟨v, ev, rfl, hp⟩
  case rest =>
    obtain ⟨v, ev, he, hrec, hout, hroom, hfail, hok⟩ := hcut
    cases he
    obtain ⟨wb, rfl⟩ : ∃ wb : World, wb = wc := ⟨_, rfl⟩
    have sV := RD.size
    have soV := hout.size
    have hroom' : ∀ i, i < 12 → wb.cell? ⟨w1.heap.size + 1 + 1, i, none⟩ = some (.int .u8 (nv n i)) := hroom
    have HREC := hide hrec
    have HOUT := hide hout
    have HF := hide hfail
    have HK := hide hok
    have HR := hide hroom
    clear hroom hrec hout hfail hok
    go_wp2_with fail
    refine (want_nv n _ hn0 hn1).mono ?_
    rintro e w2 ⟨rfl, o2⟩
    have s2 := o2.size
    have hsz2 : w1.heap.size + 1 + 1 < w2.heap.size := by omega
    have hszA : w1.heap.size < w2.heap.size := by omega
    have kc2 : ∀ b i, b < wb.heap.size → w2.cell? ⟨b, i, none⟩ = wb.cell? ⟨b, i, none⟩ := fun b i hb => o2.cell (p := ⟨b, i, none⟩) hb (fun f => f)
    have hroom2 : ∀ i, i < 12 → w2.cell? ⟨w1.heap.size + 1 + 1, i, none⟩ = some (.int .u8 (nv n i)) := fun i hi => (kc2 _ _ (by omega)).trans (hroom' i hi)
    have hc2 : w2.cell? ⟨w1.heap.size, 2, none⟩ = some (.int .i64 1) := (kc2 _ _ (by omega)).trans HREC.out.c2
    have O2 := hide o2
    have hfl : ∀ o, w2.frozen? ⟨w1.heap.size, o, none⟩ = false := fun o => (o2.frozen (p := ⟨w1.heap.size, o, none⟩) (by show w1.heap.size < wb.heap.size; omega) (fun f => f)).trans (HREC.out.fz o)
    obtain ⟨b3, k3, b4, k4, b5, k5, e3, e4, e5, s3, s4, s5, p3, p4, p5⟩ := HREC.out.sl
    have q3 : w2.cell? ⟨w1.heap.size, 3, none⟩ = some (.slice b3 (nonceL n).length k3) := (kc2 _ _ (by omega)).trans e3
    have q4 : w2.cell? ⟨w1.heap.size, 4, none⟩ = some (.slice b4 l2.length k4) := (kc2 _ _ (by omega)).trans e4
    have q5 : w2.cell? ⟨w1.heap.size, 5, none⟩ = some (.slice b5 l3.length k5) := (kc2 _ _ (by omega)).trans e5
    have o3 : Out NoOne wb (w2.alloc (.cells #[.int .u8 (nv n 0), .int .u8 (nv n 1), .int .u8 (nv n 2), .int .u8 (nv n 3), .int .u8 (nv n 4), .int .u8 (nv n 5), .int .u8 (nv n 6), .int .u8 (nv n 7), .int .u8 (nv n 8), .int .u8 (nv n 9), .int .u8 (nv n 10), .int .u8 (nv n 11)] 24)) := o2.alloc _
    have oo : Out (OrTwo w1.heap.size (w1.heap.size + 1 + 1) (.slice d l0.length cd)) V (w2.alloc (.cells #[.int .u8 (nv n 0), .int .u8 (nv n 1), .int .u8 (nv n 2), .int .u8 (nv n 3), .int .u8 (nv n 4), .int .u8 (nv n 5), .int .u8 (nv n 6), .int .u8 (nv n 7), .int .u8 (nv n 8), .int .u8 (nv n 9), .int .u8 (nv n 10), .int .u8 (nv n 11)] 24)) := HOUT.out.trans o3 (fun _ _ f => f.elim)
    have T3 := hide (s3.out o3 (fun _ _ _ f => f))
    have T4 := hide (s4.out o3 (fun _ _ _ f => f))
    have T5 := hide (s5.out o3 (fun _ _ _ f => f))
    have he24 := eq24 (nv n 0) (nv n 1) (nv n 2) (nv n 3) (nv n 4) (nv n 5) (nv n 6) (nv n 7) (nv n 8) (nv n 9) (nv n 10) (nv n 11)
    clear o2 hroom' kc2 s3 s4 s5 p3 p4 p5 e3 e4 e5
    go_upto_region 11 with fail
    have TW : Bs (w2.alloc (.cells #[.int .u8 (nv n 0), .int .u8 (nv n 1), .int .u8 (nv n 2), .int .u8 (nv n 3), .int .u8 (nv n 4), .int .u8 (nv n 5), .int .u8 (nv n 6), .int .u8 (nv n 7), .int .u8 (nv n 8), .int .u8 (nv n 9), .int .u8 (nv n 10), .int .u8 (nv n 11)] 24)) (.slice (some ⟨w2.heap.size, 0, none⟩) 12 12) (nonceL n) := by
      refine Bs.mk rfl (Nat.le_refl _) (by decide) (fun i hi => ?_)
      have hi12 : i < 12 := hi
      have hi' : i = 0 ∨ i = 1 ∨ i = 2 ∨ i = 3 ∨ i = 4 ∨ i = 5 ∨ i = 6 ∨ i = 7 ∨ i = 8 ∨ i = 9 ∨ i = 10 ∨ i = 11 := by omega
      rcases hi' with rfl | rfl | rfl | rfl | rfl | rfl | rfl | rfl | rfl | rfl | rfl | rfl <;> (rw [Nat.zero_add, World.cell?_alloc_new]; rfl)
    have q3X : (w2.alloc (.cells #[.int .u8 (nv n 0), .int .u8 (nv n 1), .int .u8 (nv n 2), .int .u8 (nv n 3), .int .u8 (nv n 4), .int .u8 (nv n 5), .int .u8 (nv n 6), .int .u8 (nv n 7), .int .u8 (nv n 8), .int .u8 (nv n 9), .int .u8 (nv n 10), .int .u8 (nv n 11)] 24)).cell? ⟨w1.heap.size, 3, none⟩ = some (.slice b3 (nonceL n).length k3) := by rw [World.cell?_alloc_lt _ _ _ hszA]; exact q3
    have q4X : (w2.alloc (.cells #[.int .u8 (nv n 0), .int .u8 (nv n 1), .int .u8 (nv n 2), .int .u8 (nv n 3), .int .u8 (nv n 4), .int .u8 (nv n 5), .int .u8 (nv n 6), .int .u8 (nv n 7), .int .u8 (nv n 8), .int .u8 (nv n 9), .int .u8 (nv n 10), .int .u8 (nv n 11)] 24)).cell? ⟨w1.heap.size, 4, none⟩ = some (.slice b4 l2.length k4) := by rw [World.cell?_alloc_lt _ _ _ hszA]; exact q4
    have q5X : (w2.alloc (.cells #[.int .u8 (nv n 0), .int .u8 (nv n 1), .int .u8 (nv n 2), .int .u8 (nv n 3), .int .u8 (nv n 4), .int .u8 (nv n 5), .int .u8 (nv n 6), .int .u8 (nv n 7), .int .u8 (nv n 8), .int .u8 (nv n 9), .int .u8 (nv n 10), .int .u8 (nv n 11)] 24)).cell? ⟨w1.heap.size, 5, none⟩ = some (.slice b5 l3.length k5) := by rw [World.cell?_alloc_lt _ _ _ hszA]; exact q5
    have oV : Out NoOne w V := O1.out.trans RD.out (fun _ _ f => f)
    have hdl := HW1.out.lt
    have D2 := hide (H2.out.out3 oV oo (by omega) (by omega) (fun k hk => by have := (hdl k hk).1; omega))
    have D3 := hide (H3.out.out3 oV oo (by omega) (by omega) (fun k hk => by have := (hdl k hk).1; omega))
    generalize w2.alloc (.cells #[.int .u8 (nv n 0), .int .u8 (nv n 1), .int .u8 (nv n 2), .int .u8 (nv n 3), .int .u8 (nv n 4), .int .u8 (nv n 5), .int .u8 (nv n 6), .int .u8 (nv n 7), .int .u8 (nv n 8), .int .u8 (nv n 9), .int .u8 (nv n 10), .int .u8 (nv n 11)] 24) = X at *
    have bN := hide (nonceL_bytes n hn0 hn1)
    have b2 := hide H2.out.by'
    have b3' := hide H3.out.by'
    have TW' := hide TW
    have OO := hide oo
    have O3 := hide o3
    have OV := hide oV
    clear he24 hroom2 hc2 hfl q3 q4 q5 o3 oo TW oV hdl
    go_cut [90] (fun s90 wx => s90 = .bool false ∧ Out NoOne X wx)
    case first =>
      go_quiet ((first
        | (go_at_call_of 7 (Value.slice b3 (nonceL n).length k3); exact Calls.quiet_of_same (equal_calls _ _ (nonceL n) (nonceL n) _ (T3.out.drewN _) (TW'.out.drewN _) bN.out bN.out))
        | (go_at_call_of 7 (Value.slice b4 l2.length k4); exact Calls.quiet_of_same (equal_calls _ _ l2 l2 _ (T4.out.drewN _) (D2.out.drewN _) b2.out b2.out))
        | (go_at_call_of 7 (Value.slice b5 l3.length k5); exact Calls.quiet_of_same (equal_calls _ _ l3 l3 _ (T5.out.drewN _) (D3.out.drewN _) b3'.out b3'.out))))
      go_wp2_with fail
      go_meet
      case rel => exact ⟨rfl, (Out.refl _ X).drewN _⟩
    case rest =>
      obtain ⟨rfl, hox⟩ := hcut
      have sx := hox.size
      have hgx : wc.cell? ⟨0, 0, none⟩ = some (.iface 52 (.pointer (some pe))) := by
        rw [hox.cell (p := ⟨0, 0, none⟩) (by show 0 < X.heap.size; have := O3.out.size; omega) (fun f => f), OO.out.cell (p := ⟨0, 0, none⟩) (by show 0 < V.heap.size; omega) (fun e => ?_), OV.out.cell (p := ⟨0, 0, none⟩) hw (fun f => f)]
        · exact hg
        · rcases e with e | e | e
          · exact absurd (show 0 = w1.heap.size from e) (by omega)
          · exact absurd (show 0 = w1.heap.size + 1 + 1 from e) (by omega)
          · have := (HW1.out.lt 0 e).1; omega
      have HOX := hide hox
      clear hox q3X q4X q5X sx
      cases fl
      · obtain ⟨r1, ar, cr, r2, r3, r4⟩ := HK.out l3 rfl (.inl ⟨rfl, rfl⟩)
        subst r1
        have hrl : (l0 ++ Xor l3).length = l0.length + l3.length := by simp [Xor]
        rw [hrl] at r2
        subst r2
        have hne : ((((l0.length + l3.length : Nat) : Int)) != (l0.length : Int) + (l3.length : Int)) = false := by simp
        have R3 := hide r3
        have R4 := hide r4
        clear r3 r4 hrl
        have hbO : Hid (Bs wc (.slice ar (l0.length + l3.length) cr) (l0 ++ Xor l3)) := hide (((Bs.ofOwn R3.out).1.out O3.out (fun _ _ _ f => f)).out HOX.out (fun _ _ _ f => f))
        have hb0 : Hid (Bs wc (.slice a0 l0.length c0) l0) := hide ((H0.out.out3 OV.out OO.out (by omega) (by omega) (fun k hk => by have := (HW1.out.lt k hk).1; omega)).out HOX.out (fun _ _ _ f => f))
        have hb3 : Hid (Bs wc (.slice a3 l3.length c3) l3) := hide (D3.out.out HOX.out (fun _ _ _ f => f))
        have hlO : (l0 ++ Xor l3).length = l0.length + l3.length := by simp [Xor]
        have HLO := hide hlO
        clear hlO
        go_upto_region 17 with fail
        go_wp2_with fail
        go_loopw [20] (fun i wr => ∃ k : Nat, k ≤ l0.length ∧ i = .int .i64 k ∧ Out NoOne wc wr) (fun i _ => l0.length - (intOf i).toNat)
        case atStart => exact ⟨0, Nat.zero_le _, rfl, Out.refl _ _⟩
        case round =>
          obtain ⟨k, hk, rfl, hor⟩ := hrel
          by_cases hlt : k < l0.length
          · obtain ⟨bo, oo, e1, m1, m2, m3⟩ := (hbO.out.out hor (fun _ _ _ f => f)).plain (by rw [HLO.out]; omega)
            obtain ⟨b0, f0, e2, n1, n2, n3⟩ := (hb0.out.out hor (fun _ _ _ f => f)).plain (by omega)
            subst e1
            subst e2
            have g1 := m3 k (by rw [HLO.out]; omega)
            rw [append_getD _ _ _ hlt] at g1
            have g2 := n3 k hlt
            have hnn : (l0.getD k 0 != l0.getD k 0) = false := by simp
            rw [HLO.out] at m1
            have HOR := hide hor
            unfold maxLen at m2 n2
            clear m3 n3 hor
            generalize l0.getD k 0 = y at g1 g2 hnn
            go_wp2_with fail
            go_quiet (fail)
            go_wp2_with fail
            go_roundw
            case rel => exact ⟨k + 1, by omega, by go_num, HOR.out.drewN _⟩
            case measure => simp [intOf]; omega
          · obtain ⟨wo, rfl⟩ : ∃ wo : World, wo = wr := ⟨_, rfl⟩
            have HOR := hide hor
            clear hor
            go_wp2_with fail
            go_loopw [21] (fun i wr => ∃ k : Nat, k ≤ l3.length ∧ i = .int .i64 k ∧ Out NoOne wc wr) (fun i _ => l3.length - (intOf i).toNat)
            case atStart => exact ⟨0, Nat.zero_le _, rfl, HOR.out⟩
            case round =>
              obtain ⟨j, hj, rfl, hor⟩ := hrel
              by_cases hlt2 : j < l3.length
              · obtain ⟨bo, oo, e1, m1, m2, m3⟩ := (hbO.out.out hor (fun _ _ _ f => f)).plain (by rw [HLO.out]; omega)
                obtain ⟨b0, f0, e2, n1, n2, n3⟩ := (hb3.out.out hor (fun _ _ _ f => f)).plain (by omega)
                subst e1
                subst e2
                have g1 := m3 (l0.length + j) (by rw [HLO.out]; omega)
                rw [xor_getD _ _ _ hlt2] at g1
                have g2 := n3 j hlt2
                have hnn : (bits .xor .u8 (l3.getD j 0) 90 != bits .xor .u8 (l3.getD j 0) 90) = false := by simp
                rw [HLO.out] at m1
                have HOR2 := hide hor
                unfold maxLen at m2 n2
                clear m3 n3 hor
                generalize l3.getD j 0 = y at g1 g2 hnn
                go_wp2_with fail
                go_quiet (fail)
                go_wp2_with fail
                go_roundw
                case rel => exact ⟨j + 1, by omega, by go_num, HOR2.out.drewN _⟩
                case measure => simp [intOf]; omega
              · have HOR2 := hide hor
                clear hor
                go_wp2_with fail
                go_ret
                exact ⟨rfl, Out.end3 OV.out OO.out (HOX.out.trans HOR2.out (fun _ _ f => f)) (by omega) (by omega) (fun k hk => by have := (HW1.out.lt k hk).1; omega)⟩
      · obtain ⟨r1, r2⟩ := HF.out (.inl rfl)
        subst r1
        subst r2
        have hee := eq_err pe
        have hnl := eq_nil
        go_wp2_with fail
        go_ret
        exact ⟨rfl, Out.end3 OV.out OO.out HOX.out (by omega) (by omega) (fun k hk => by have := (HW1.out.lt k hk).1; omega)⟩
end Go.Proofs.YbulkcdyDoor.noise
