/- The walk of addLeftOutPlain (function 9). -/
import Derived.Test.YbulkccwQmDis
import Derived.Test.YbulkccwQmIns
import Derived.Test.YbulkccwGrow
namespace Go.Proofs.Ybulkccw.qm
open Go Go.ChangeShapes Go.WideShapes Go.ChangeAt Go.RowKit
set_option linter.unusedVariables false
attribute [local go_sem ↓] putM_fold getM_fold

/-- slices.Grow at messages. -/
theorem grow_calls (B n cap k : Nat) (M : Nat → Msg) (w : World) (hr : Row w B cap n M) (hn : n ≤ 1024) (hk : k ≤ 1024) (hc : cap ≤ 2000) :
    Calls Yba.prog 16 #[.slice (some ⟨B, 0, none⟩) n cap, .int .i64 k] w fun e w' => Out NoOne w w' ∧ ∃ B' cap', e = .returned (.slice (some ⟨B', 0, none⟩) n cap') ∧ n + k ≤ cap' ∧ cap' ≤ 9223372036854775807 ∧ (B' = B ∨ w.heap.size ≤ B') ∧ RowG w' B' cap' (fun j => if j < n then some (M j) else none) := by
  by_cases hroom : n + k ≤ cap
  · refine (Any8.slices_Grow_room Yba.growM (some ⟨B, 0, none⟩) n cap k w hr.le (by omega) (by omega) hroom).mono ?_
    rintro e w' ⟨rfl, rfl⟩
    exact ⟨Out.refl _ _, B, cap, rfl, hroom, by omega, .inl rfl, hr.toG⟩
  · obtain ⟨i, hi, h0, h1, h2⟩ := info_parts Yba.info32
    obtain ⟨hle, f, ⟨c, hcb, hcs, hcf⟩, hm⟩ := hr
    refine (Any8.slices_Grow_grow Yba.growM i _ hi h0 (by omega) (some ⟨B, 0, none⟩) n cap k c.toList w hle (by omega) (by rw [h2]; omega) (by omega) (by rw [Array.length_toList, hcs, h1]) (by intro h; cases h) (fun a ha j v hv => ?_)).mono ?_
    · cases ha
      rw [Addr.add_mid, Nat.zero_add]
      simp only [World.cell?, hcb]
      rw [Array.getElem?_toList] at hv
      simpa using hv
    · rintro e w' ⟨rfl, rfl⟩
      generalize hG : grownCap w (n + k) cap (Yba.growM_ren.t 25) = G
      have hGe : n + k ≤ G := by rw [← hG]; exact grownCap_ge ..
      refine ⟨(Out.refl _ w).drew.alloc _, w.heap.size, G, rfl, hGe, ?_, .inr (Nat.le_refl _), ?_⟩
      · rw [← hG]; exact grownCap_le_maxLen w _ _ _ (by unfold maxLen; omega)
      · have hzs : (Value.agg (mcells .zero).toArray).cells.size = 15 := rfl
        have hsz : (c.toList.toArray ++ Builtin.zeroCells (Value.agg (mcells .zero).toArray).cells (n + k - cap) ++ Builtin.zeroCells (Value.agg (mcells .zero).toArray).cells (G - (n + k))).size = G * 15 := by
          rw [Array.size_append, Array.size_append, size_zeroCells, size_zeroCells, hzs, List.size_toArray, Array.length_toList, hcs]; omega
        refine ⟨fun x => (c.toList.toArray ++ Builtin.zeroCells (Value.agg (mcells .zero).toArray).cells (n + k - cap) ++ Builtin.zeroCells (Value.agg (mcells .zero).toArray).cells (G - (n + k)))[x]!, ⟨_, new_at rfl, hsz, fun j hj => (Array.getElem?_eq_getElem (by rw [hsz]; exact hj)).trans ?_⟩, ?_⟩
        · show _ = some ((_ : Array Value)[j]!)
          rw [getElem!_pos _ j (by rw [hsz]; exact hj)]
        · intro j m hj hg i' hi'
          by_cases e : j < n
          · simp only [e, if_true, Option.some.injEq] at hg
            subst hg
            rw [← hm j e i' hi']
            show some ((_ : Array Value)[j * 15 + i']!) = _
            have hlt : j * 15 + i' < c.size := by omega
            rw [getElem!_pos _ (j * 15 + i') (by rw [hsz]; omega), Array.getElem_append_left (by rw [Array.size_append, List.size_toArray, Array.length_toList]; omega), Array.getElem_append_left (by rw [List.size_toArray, Array.length_toList]; omega)]
            have := hcf (j * 15 + i') (by omega)
            rw [Array.getElem?_eq_getElem hlt] at this
            simpa using this
          · simp [e] at hg

set_option maxRecDepth 100000 in
set_option maxHeartbeats 1000000 in
theorem dis0_calls (p : Option Addr) (cap : Nat) (w : World) :
    Calls Yba.prog 14 #[.slice p 0 cap, .func (.func 15) #[] #[]] w fun e w' => e = .returned (.slice none 0 0) ∧ Out NoOne w w' := by
  have hmk : ∀ W : World, (Instr.makeSlice 48 (.int .i64 0) (.int .i64 0)).run Yba.prog W = .ok (.slice (some ⟨W.heap.size, 0, none⟩) 0 0) (W.alloc (.cells (madeCells #[.int .i32 0] 0) 21)) := make_is 0 (by omega)
  go_enter Yba.func14, Yba.ntmps14
  go_wp2_with fail
  go_loopw [16, 6] (fun i _ wr => i = .int .i64 0 ∧ Out NoOne w wr) (fun _ _ _ => 0)
  case atStart => exact ⟨rfl, (((Out.refl _ w).alloc _).alloc _).alloc _⟩
  case round =>
    obtain ⟨rfl, ho⟩ := hrel
    have HO := hide ho
    clear ho hmk
    go_wp2_with (go_at_call 17; refine (Yba.slices_SortFunc_none (α := Nat) _ _ _ _).mono ?_; rintro e wd ⟨rfl, rfl⟩)
    go_loopw [5, 7, 8, 9, 10] (fun s5 s7 _ _ _ wr => s5 = .slice (some ⟨w.heap.size + 1 + 1, 0, none⟩) 0 0 ∧ s7 = .slice none 0 0 ∧ Out NoOne w wr) (fun _ _ _ _ _ _ => 0)
    case atStart => exact ⟨rfl, rfl, HO.out⟩
    case round =>
      obtain ⟨rfl, rfl, ho⟩ := hrel
      have HO := hide ho
      clear ho
      go_wp2_with (go_at_call 27; refine (Yba.slices_Sort_int_none _ _ _).mono ?_; rintro e wd ⟨rfl, rfl⟩)
      go_ret
      exact ⟨rfl, HO.out⟩

theorem get_getD (l : List Msg) {j : Nat} (h : j < l.length) : l[j]? = some (l.getD j .zero) := by
  rw [List.getD_eq_getElem?_getD, List.getElem?_eq_getElem h]; rfl

theorem cnt_mono (ms : List Msg) {p q : Nat} (h : p ≤ q) : cnt ms p ≤ cnt ms q := by
  obtain ⟨d, rfl⟩ : ∃ d, q = p + d := ⟨q - p, by omega⟩
  clear h
  induction d with
  | zero => exact Nat.le_refl _
  | succ d ih => rw [← Nat.add_assoc, cnt_succ]; omega

/-- What addLeftOutPlain leaves. -/
def Added (w : World) (B : Nat) (ms : List Msg) (e : Ending) (w' : World) : Prop :=
  Out (Only B) w w' ∧ ∃ B' cap', e = .returned (.slice (some ⟨B', 0, none⟩) (outTo ms ms.length).length cap') ∧ (B' = B ∨ w.heap.size ≤ B') ∧ Ms w' B' (outTo ms ms.length) ∧ B' < w'.heap.size

theorem ms_none {w : World} {B cap : Nat} {ms : List Msg} (hr : Row w B cap ms.length (fun j => ms.getD j .zero)) (hf : firsts ms = []) : Ms w B (outTo ms ms.length) ∧ (outTo ms ms.length).length = ms.length := by
  have hc : cnt ms ms.length = 0 := by show (firsts ms).length = 0; rw [hf]; rfl
  have hl : (outTo ms ms.length).length = ms.length := by rw [outTo_length, hc]; omega
  refine ⟨fun j hj i hi => ?_, hl⟩
  rw [hl] at hj
  rw [hr.cell hj hi, List.getD_eq_getElem?_getD (l := outTo ms ms.length), outTo_none ms ms.length hc j hj]; rfl

theorem add0_calls (B cap : Nat) (w : World) (hr : Row w B cap 0 (fun j => ([] : List Msg).getD j .zero)) : Calls Yba.prog 9 #[.slice (some ⟨B, 0, none⟩) 0 cap] w (Added w B []) := by
  have HR := hide hr
  clear hr
  go_enter Yba.func9, Yba.ntmps9
  go_wp2_with (go_at_call 14; refine (dis0_calls _ _ _).mono ?_; rintro e wd ⟨rfl, ho⟩; have HO := hide ho; clear ho)
  go_ret
  have hr' := HR.out.out HO.out (fun f => f)
  obtain ⟨h1, h2⟩ := ms_none (ms := []) hr' rfl
  exact ⟨HO.out.any, B, cap, by rw [h2]; rfl, .inl rfl, h1, hr'.lt⟩

set_option maxRecDepth 100000 in
set_option maxHeartbeats 1000000 in
theorem add_calls (B cap : Nat) (ms : List Msg) (w : World) (hr : Row w B cap ms.length (fun j => ms.getD j .zero)) (hn : ms.length ≤ 1024) (hc : cap ≤ 2000) (h0 : 0 < ms.length) : Calls Yba.prog 9 #[.slice (some ⟨B, 0, none⟩) ms.length cap] w (Added w B ms) := by
  have hdis := dis_calls B cap ms w (hr.ms (Nat.le_refl _) (fun _ _ => rfl)) hr.lt hn h0
  have hcn : cnt ms ms.length = (firsts ms).length := rfl
  have HR := hide hr
  clear hr
  by_cases hf : firsts ms = []
  · have hdis0 : Calls Yba.prog 14 #[.slice (some ⟨B, 0, none⟩) ms.length cap, .func (.func 15) #[] #[]] w fun e w' => Out NoOne w w' ∧ ∃ v c, e = .returned (.slice v 0 c) := hdis.mono (by
      rintro e w' ⟨ho, ⟨_, v, rfl⟩ | ⟨g, cg, rfl, _⟩⟩
      · exact ⟨ho, _, _, rfl⟩
      · exact ⟨ho, _, _, by rw [hf]; rfl⟩)
    have HF := hide hf
    clear hdis hf
    go_enter Yba.func9, Yba.ntmps9
    go_wp2_with (go_at_call 14; refine hdis0.mono ?_; rintro e wd ⟨ho, v, c, rfl⟩; have HO := hide ho; clear ho)
    go_ret
    have hr' := HR.out.out HO.out (fun f => f)
    obtain ⟨h1, h2⟩ := ms_none hr' HF.out
    exact ⟨HO.out.any, B, cap, by rw [h2]; rfl, .inl rfl, h1, hr'.lt⟩
  · have hkp : 0 < cnt ms ms.length := by rw [hcn]; exact List.length_pos_iff.2 hf
    have hkn : cnt ms ms.length ≤ ms.length := by rw [hcn]; exact Nat.le_trans (List.length_filter_le ..) (by simp)
    have hdis1 : Calls Yba.prog 14 #[.slice (some ⟨B, 0, none⟩) ms.length cap, .func (.func 15) #[] #[]] w fun e w' => Out NoOne w w' ∧ ∃ g cg, e = .returned (.slice (some ⟨g, 0, none⟩) (cnt ms ms.length) cg) ∧ w.heap.size ≤ g ∧ g < w'.heap.size ∧ ∀ j, j < cnt ms ms.length → w'.cell? ⟨g, j, none⟩ = some (.int .i64 ((firsts ms).getD j 0 : Nat)) := hdis.mono (by
      rintro e w' ⟨ho, ⟨h, _⟩ | ⟨g, cg, rfl, h1, h2, h3⟩⟩
      · exact absurd h hf
      · exact ⟨ho, g, cg, rfl, h1, h2, h3⟩)
    clear hdis hcn hf
    obtain ⟨K, hK⟩ : ∃ K, cnt ms ms.length = K := ⟨_, rfl⟩
    rw [hK] at hkp hkn hdis1
    have HK := hide hK
    clear hK
    go_enter Yba.func9, Yba.ntmps9
    go_wp2_with (first
      | (go_at_call 14; refine hdis1.mono ?_; rintro e wd ⟨ho, g, cg, rfl, hg1, hg2, hg3⟩; have HO := hide (And.intro ho (And.intro hg1 (And.intro hg2 hg3))); clear ho hg1 hg2 hg3)
      | (go_at_call 16; refine (grow_calls B ms.length cap K (fun j => ms.getD j .zero) _ (HR.out.out HO.out.1 (fun f => f)) hn (by omega) hc).mono ?_; rintro e wg ⟨ho2, B', cap', rfl, hb1, hb2, hb3, hb4⟩; have HG := hide (And.intro ho2 (And.intro hb3 hb4)); clear ho2 hb3 hb4))
    go_loopw [6, 5] (fun s6 s5 wr => ∃ (p : Nat) (G : Nat → Option Msg), p ≤ ms.length ∧ s6 = .int .i64 ((p : Int) - 1) ∧ s5 = .int .i64 (cnt ms p : Nat) ∧ Out (Only B') wg wr ∧ RowG wr B' cap' G ∧ Mid ms ms.length p G) (fun s6 _ _ => (intOf s6 + 1).toNat)
    case atStart => exact ⟨ms.length, _, Nat.le_refl _, rfl, by rw [HK.out], Out.refl _ _, HG.out.2.2, Mid.start (fun j hj => if_pos hj)⟩
    case round =>
      obtain ⟨p, G, hp, rfl, rfl, hout, hrow, hmid⟩ := hrel
      by_cases h0c : cnt ms p = 0
      · have HE := hide (And.intro hout (And.intro hrow (And.intro hmid h0c)))
        rw [h0c]
        clear hout hrow hmid h0c hdis1
        go_wp2_with fail
        go_ret
        obtain ⟨hout, hrow, hmid, h0c⟩ := HE.out
        have hl : (outTo ms ms.length).length = ms.length + K := by rw [outTo_length, HK.out]
        refine ⟨(HO.out.1.trans HG.out.1 (fun _ _ f => f)).any.trans hout (fun x hx (e : x = B') => ?_), B', cap', ?_, ?_, fun j hj i hi => ?_, hrow.lt⟩
        · have := HO.out.1.size
          show x = B
          rcases HG.out.2.1 with e' | e' <;> omega
        · rw [hl]; rfl
        · have := HO.out.1.size
          rcases HG.out.2.1 with e' | e'
          · exact .inl e'
          · exact .inr (by omega)
        · have hd := hmid.done hp h0c j (by rw [← outTo_length]; exact hj)
          exact hrow.cell (by rw [hl] at hj; omega) (hd.trans (get_getD _ hj)) hi
      · obtain ⟨c', hc'⟩ : ∃ c', cnt ms p = c' + 1 := ⟨cnt ms p - 1, by omega⟩
        obtain ⟨p', rfl⟩ : ∃ p', p = p' + 1 := ⟨p - 1, by cases p with | zero => exact absurd rfl h0c | succ p => omega⟩
        rw [hc', show (((p' + 1 : Nat) : Int) - 1) = (p' : Int) by omega]
        have hcp : c' + 1 ≤ p' + 1 := by rw [← hc']; exact Nat.le_trans (List.length_filter_le ..) (by simp)
        have hG := hmid.1 p' (by omega)
        have hcK : cnt ms (p' + 1) ≤ K := by rw [← HK.out]; exact cnt_mono ms hp
        have hget := run_getM wr B' (p' * 15) (ms.getD p' .zero) (fun i hi => hrow.cell (by omega) hG hi)
        have hput := run_putM wr B' ((p' + (c' + 1)) * 15) (ms.getD p' .zero) (hrow.there (by omega))
        have HE := hide (And.intro hout (And.intro hrow (And.intro hmid hc')))
        clear hout hrow hmid h0c hdis1 hG
        generalize hmm : ms.getD p' .zero = m at *
        have hfa := firsts_at ms p' (by omega) (by rw [hc']; omega)
        have hcell := HO.out.2.2.2 c' (by omega)
        rw [hc', Nat.add_sub_cancel] at hfa
        generalize (firsts ms).getD c' 0 = fv at *
        have hgB : g ≠ B' := by
          have h1 := HO.out.2.1
          have h2 := HO.out.2.2.1
          have h3 := HR.out.lt
          rcases HG.out.2.1 with e | e <;> omega
        have hYr := HE.out.2.1.put (p' + (c' + 1)) (by omega) m
        have hYo := HE.out.1.trans (Out.put' wr B' ((p' + (c' + 1)) * 15) (mcells m)) (fun _ _ e => e)
        have hYc : (wr.setCells B' ((p' + (c' + 1)) * 15) (mcells m)).cell? ⟨g, c', none⟩ = some (.int .i64 (fv : Int)) := by
          rw [hYo.cell (p := ⟨g, c', none⟩) (by have h1 := HG.out.1.size; have h2 := HO.out.2.2.1; show g < _; omega) hgB, HG.out.1.cell (p := ⟨g, c', none⟩) HO.out.2.2.1 (fun f => f)]
          exact hcell
        have HY := hide (And.intro hYr hYo)
        clear hYr hYo hcell
        go_upto_region 10 with fail
        clear hget hput
        generalize wr.setCells B' ((p' + (c' + 1)) * 15) (mcells m) = Y at *
        by_cases hfv : fv = p'
        · have HF := hide (hfa.1 hfv)
          subst hfv
          clear hfa
          have hGy : upd G (fv + (c' + 1)) m (fv + (c' + 1)) = some m := if_pos rfl
          have cy : Y.cell? ⟨B', (fv + c' + 1) * 15, none⟩ = some (.string m.c) := HY.out.1.cell (j := fv + (c' + 1)) (i := 0) (by omega) hGy (by decide)
          have sy : Y.cell? ⟨B', (fv + c' + 1) * 15 + 1, none⟩ = some (.string m.s) := HY.out.1.cell (j := fv + (c' + 1)) (i := 1) (by omega) hGy (by decide)
          have hput2 := run_putM Y.drew B' ((fv + c') * 15) (plain m) ((World.there_drew ..).2 (HY.out.1.there (by omega)))
          simp only [plain, mcells] at hput2
          generalize hZ : Y.drew.setCells B' ((fv + c') * 15) _ = Z at hput2
          have HZ := hide hZ
          clear hZ hGy
          go_upto_region 12 with fail
          go_region
          go_wp2_with fail
          case roundEnd =>
            have hZ := HZ.out
            subst hZ
            have hs := cnt_succ ms fv
            rw [if_pos HF.out, HE.out.2.2.2] at hs
            have hM := Mid.hit HE.out.2.2.1 hp HF.out
            rw [HE.out.2.2.2, hmm, Nat.add_sub_cancel] at hM
            refine ⟨⟨fv, _, by omega, rfl, ?_, HY.out.2.trans (Out.put Y B' ((fv + c') * 15) _) (fun _ _ e => e), HY.out.1.drew.put (fv + c') (by omega) (plain m), hM⟩, ?_⟩
            · rw [show c' = cnt ms fv by omega]
            · simp only [intOf]; omega
        · have hnf : ¬ first ms p' = true := fun e => hfv (hfa.2 e)
          have HF := hide hnf
          have hne : ((p' : Int) == (fv : Int)) = false := by simp; omega
          clear hnf hfa
          go_wp2_with fail
          case roundEnd =>
            have hs := cnt_succ ms p'
            rw [if_neg HF.out, HE.out.2.2.2, Nat.add_zero] at hs
            have hM := Mid.skip HE.out.2.2.1 hp HF.out
            rw [HE.out.2.2.2, hmm] at hM
            refine ⟨⟨p', _, by omega, rfl, ?_, HY.out.2, HY.out.1, hM⟩, ?_⟩
            · rw [show c' + 1 = cnt ms p' by omega]
            · simp only [intOf]; omega
end Go.Proofs.Ybulkccw.qm
