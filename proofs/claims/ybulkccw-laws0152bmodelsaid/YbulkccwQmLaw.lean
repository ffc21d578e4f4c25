/- The walk of LawS0152BModel (function 3). -/
import Derived.Test.YbulkccwQmAdd
import Derived.Test.YbulkccwQmBuild
import Derived.Test.YbulkccwQmFirst
import Derived.Test.YbulkccwQmEq
import Derived.Deep.RegionLaw
namespace Go.Proofs.Ybulkccw.qm
open Go Go.ChangeShapes Go.WideShapes Go.ChangeAt Go.RowKit
set_option linter.unusedVariables false
attribute [local go_sem ↓] putM_fold getM_fold

/-- append of one message to an own row of messages, as a run. -/
theorem run_append_m {w : World} (ty : TypeId) (base : Nat) (v : Value) (l : List Msg) (hown : w.ownsRow base 32 15 v l.length (flat l))
    (g c : Nat) (m : Msg) (hy : ∀ i, i < 15 → w.cell? ⟨g, i, none⟩ = (mcells m)[i]?) (hn : l.length ≤ 5000) (hbase : base ≤ w.heap.size) :
    ∃ v' w', (Builtin.append_ #[23, 23] ty #[v, .slice (some ⟨g, 0, none⟩) 1 c]).run Yba.prog w = .ok v' w' ∧ w'.ownsRow base 32 15 v' (l ++ [m]).length (flat (l ++ [m])) ∧ w.grownBy w' v.ownBlock := by
  obtain ⟨i, hi, h0, h1, h2⟩ := info_parts Yba.info32
  obtain ⟨v', w', k1, k2, k3, _⟩ := run_append_own2 (P := Yba.prog) w base 23 ty 32 i _ 15 240 Yba.underlying23 hi h0 h1 h2 rfl (by decide) v l.length (flat l) hown ⟨g, 0, none⟩ 1 c (mcells m) rfl (fun j u hu => by
      rw [Addr.add_mid, Nat.zero_add, hy j (by rw [← mcells_length m]; exact (List.getElem?_eq_some_iff.1 hu).1), hu]) (fun u hu => by
      simp only [mcells, List.mem_cons, List.not_mem_nil, or_false] at hu
      rcases hu with rfl | rfl | rfl | rfl | rfl | rfl | rfl | rfl | rfl | rfl | rfl | rfl | rfl | rfl | rfl <;> rfl) (by simp only [maxLen]; omega) (by omega) hbase
  refine ⟨v', w', k1, ?_, k3⟩
  rw [flat_append, List.length_append]
  simpa [flat] using k2

theorem wpList_append_m {w : World} {ops : Array Oper} {rest : List Oper} {o : Oper} {a : Act} {Q : Exit → Act → World → Prop} (hgd : o.guard = none) (s x : Operand)
    (ho : o.op = .call { callee := .builtin .append, args := #[s, x], argTypes := #[23, 23] })
    (base : Nat) (v : Value) (l : List Msg) (hs : a.eval s = v) (hown : w.ownsRow base 32 15 v l.length (flat l))
    (g c : Nat) (m : Msg) (hx : a.eval x = .slice (some ⟨g, 0, none⟩) 1 c) (hy : ∀ i, i < 15 → w.cell? ⟨g, i, none⟩ = (mcells m)[i]?) (hn : l.length ≤ 5000) (hbase : base ≤ w.heap.size)
    (h : ∀ v' w', w'.ownsRow base 32 15 v' (l ++ [m]).length (flat (l ++ [m])) → w.grownBy w' v.ownBlock → wpList Yba.prog ops Q rest (a.put o.dst v') w') : wpList Yba.prog ops Q (o :: rest) a w := by
  refine wpList_plain hgd fun K hK => ?_
  obtain ⟨v', w', hr, h2, h3⟩ := run_append_m (w := w) o.type base v l hown g c m hy hn hbase
  unfold Oper.wp execOp
  simp only [ho, resolve, invoke, builtin, Sem.run_bind, Sem.run_pure, Result.andThen_ok, List.map_toArray, List.map_cons, List.map_nil, hs, hx, hr]
  exact hK _ _ (h v' w' h2 h3)

theorem step_append_m {w : World} {ops : Array Oper} {o : Oper} {a : Act} {K : Act → World → Prop} {Q : Exit → Act → World → Prop} {E : Prop} (hgd : o.guard = none) (s x : Operand)
    (hop : o.op = .call { callee := .builtin .append, args := #[s, x], argTypes := #[23, 23] })
    (base : Nat) (v : Value) (l : List Msg) (hs : a.eval s = v) (hown : w.ownsRow base 32 15 v l.length (flat l))
    (g c : Nat) (m : Msg) (hx : a.eval x = .slice (some ⟨g, 0, none⟩) 1 c) (hy : ∀ i, i < 15 → w.cell? ⟨g, i, none⟩ = (mcells m)[i]?) (hn : l.length ≤ 5000) (hbase : base ≤ w.heap.size)
    (h : ∀ v' w', w'.ownsRow base 32 15 v' (l ++ [m]).length (flat (l ++ [m])) → w.grownBy w' v.ownBlock → K (a.put o.dst v') w') :
    if Region.wanted o (yielded ops a.tmps) = true then Oper.wp Yba.prog o a w K Q else E := by
  have hw : Region.wanted o (yielded ops a.tmps) = true := by simp [Region.wanted, hgd]
  rw [if_pos hw]
  obtain ⟨v', w', hr, h2, h3⟩ := run_append_m (w := w) o.type base v l hown g c m hy hn hbase
  unfold Oper.wp execOp
  simp only [hop, resolve, invoke, builtin, Sem.run_bind, Sem.run_pure, Result.andThen_ok, List.map_toArray, List.map_cons, List.map_nil, hs, hx, hr]
  exact h v' w' h2 h3

def pre (fb : Bool) (m : Msg) : List Msg := if fb = true then [plain m] else []
theorem cells_new (V : World) (m : Msg) (N : Nat) (hN : N = V.heap.size) : ∀ i, i < 15 → (V.alloc (.cells (mcells m).toArray 32)).cell? ⟨N, i, none⟩ = (mcells m)[i]? := by
  subst hN
  intro i hi
  rw [World.cell?_alloc_new]
  simp

set_option maxRecDepth 100000 in
set_option maxHeartbeats 1000000 in
theorem law_calls (p : Option Addr) (n cap r : Nat) (X : Nat → Nat → Int) (w : World) (hn : n ≤ 1024) (hr : r < 256) (hX : ∀ j i, 0 ≤ X j i ∧ X j i ≤ 255)
    (hc : 0 < n → ∃ b off, p = some ⟨b, off, none⟩ ∧ b < w.heap.size ∧ ∀ j, j < n → ∀ i, i < 4 → w.cell? ⟨b, off + j * 4 + i, none⟩ = some (.int .u8 (X j i))) :
    Calls Yba.prog 3 #[.slice p n cap, .int .u8 r] w fun e w' => e = .returned (.bool true) ∧ Out NoOne w w' := by
  have hlen : (picks X n).length = n := by simp [picks]
  have hb1 := build_calls p n cap r X w hn hr hX hc
  have hb2 : ∀ w1, Out NoOne w w1 → Calls Yba.prog 8 #[.slice p n cap, .int .u8 0] w1 (Built w1 n n (picks X n)) := fun w1 ho => build_calls p n cap 0 X w1 hn (by decide) hX (fun h => by
    obtain ⟨b, off, hp, hb, hcell⟩ := hc h
    exact ⟨b, off, hp, Nat.lt_of_lt_of_le hb ho.size, fun j hj i hi => (ho.cell (p := ⟨b, off + j * 4 + i, none⟩) hb (fun f => f)).trans (hcell j hj i hi)⟩)
  have hadd : ∀ w2 B, Row w2 B (n + r % 4) n (fun j => (picks X n).getD j .zero) → Calls Yba.prog 9 #[.slice (some ⟨B, 0, none⟩) n (n + r % 4)] w2 (Added w2 B (picks X n)) := fun w2 B hrow => by
    by_cases h0 : n = 0
    · subst h0
      exact add0_calls B _ w2 hrow
    · have := add_calls B (n + r % 4) (picks X n) w2 (by rw [hlen]; exact hrow) (by rw [hlen]; exact hn) (by omega) (by omega)
      rw [hlen] at this
      exact this
  generalize picks X n = ms at *
  subst hlen
  have HA := hide (And.intro hb2 hadd)
  clear hb2 hadd hc hX
  have hnd : ¬ (1024 < (ms.length : Int)) := by omega
  go_enter Yba.func3, Yba.ntmps3
  go_upto_region 4 with (go_at_call 8; refine hb1.mono ?_; rintro e w1 ⟨B1, hB1, rfl, ho1, hrow1⟩; have H1 := hide (And.intro hB1 (And.intro ho1 hrow1)); clear hB1 ho1 hrow1)
  clear hb1
  go_upto_region 5 with (go_at_call 8; refine (HA.out.1 _ H1.out.2.1).mono ?_; rintro e w2 ⟨B2, hB2, rfl, ho2, hrow2⟩; have H2 := hide (And.intro hB2 (And.intro ho2 hrow2)); clear hB2 ho2 hrow2)
  go_wp2_with (go_at_call 9; refine (HA.out.2 _ _ (H1.out.2.2.out H2.out.2.1 (fun f => f))).mono ?_; rintro e w3 ⟨ho3, B3, cap3, rfl, hB3, hms3, hlt3⟩; have H3 := hide (And.intro ho3 (And.intro hB3 (And.intro hms3 hlt3))); clear ho3 hB3 hms3 hlt3)
  have hO3 : Out NoOne w w3 := by
    have h1 := H1.out.2.1
    exact (h1.trans H2.out.2.1 (fun _ _ f => f)).trans H3.out.1 (fun x hx (e : x = B1) => by have := H1.out.1; omega)
  have hM2 : Ms w3 B2 ms := by
    have h2 := H2.out.2.2.out H3.out.1 (fun (e : B2 = B1) => by have := H1.out.2.2.lt; have := H2.out.1; omega)
    exact h2.ms (Nat.le_refl _) (fun _ _ => rfl)
  have hl2 : B2 < w3.heap.size := Nat.lt_of_lt_of_le H2.out.2.2.lt H3.out.1.size
  have H3' := hide (And.intro H3.out.2.2 (And.intro hO3 (And.intro hM2 hl2)))
  clear H1 H2 H3 HA hO3 hM2 hl2
  go_loopw [9, 8] (fun i want wr => ∃ k : Nat, k ≤ ms.length ∧ i = .int .i64 (k : Int) ∧ Out NoOne w3 wr ∧ wr.ownsRow w3.heap.size 32 15 want (outTo ms k).length (flat (outTo ms k))) (fun i _ _ => ms.length - (intOf i).toNat)
  case atStart => exact ⟨0, Nat.zero_le _, rfl, Out.refl _ _, World.ownsRow_nil _ _ _ _⟩
  case round =>
    obtain ⟨k, hk, rfl, hout, hown⟩ := hrel
    by_cases hlt : k < ms.length
    · have hM := H3'.out.2.2.1.out hout H3'.out.2.2.2 (fun f => f)
      obtain ⟨fb, hfb⟩ : ∃ fb, first ms k = fb := ⟨_, rfl⟩
      have hfc := first_calls B2 ms.length k ms wr hM (Nat.lt_of_lt_of_le H3'.out.2.2.2 hout.size) hn hlt
      rw [hfb] at hfc
      have HFB := hide hfb
      clear hfb
      have HW := hide (And.intro hout (And.intro hown hM))
      have hol : (outTo ms k).length ≤ 2048 := by
        rw [outTo_length]
        have : cnt ms k ≤ k := Nat.le_trans (List.length_filter_le ..) (by simp)
        omega
      clear hout hown hM
      go_upto_if 29 with (go_at_call 10; refine hfc.mono ?_; rintro e wf ⟨rfl, hof⟩; have HF := hide hof; clear hof)
      have hMf := HW.out.2.2.out HF.out (Nat.lt_of_lt_of_le H3'.out.2.2.2 HW.out.1.size) (fun f => f)
      have hownf := owns_out HW.out.2.1 HF.out (fun _ _ f => f)
      have hof := HW.out.1.trans HF.out (fun _ _ f => f)
      have hck := hMf.c k hlt
      have hsk := hMf.s k hlt
      have HM := hide (And.intro hMf (And.intro hownf hof))
      clear HW HF hMf hownf hof hfc
      go_cut [8] (fun want wc => Out NoOne w3 wc ∧ wc.ownsRow w3.heap.size 32 15 want (outTo ms k ++ pre fb (ms.getD k .zero)).length (flat (outTo ms k ++ pre fb (ms.getD k .zero))))
      case first =>
        cases fb
        · go_wp2_with fail
          go_meet
          case rel =>
            rw [show pre false (ms.getD k .zero) = [] from rfl, List.append_nil]
            exact ⟨HM.out.2.2, HM.out.2.1⟩
        · generalize hmk : ms.getD k .zero = m at *
          have hB2 := H3'.out.2.2.2
          have hzf := HM.out.2.2.size
          go_wp2_with fail
          go_region_held3 (fun w' => w'.cell? ⟨B2, k * 15, none⟩ = some (.string m.c) ∧ w'.cell? ⟨B2, k * 15 + 1, none⟩ = some (.string m.s))
            (go_keep)
            (first | (refine step_append_m rfl _ _ rfl w3.heap.size u8 (outTo ms k) rfl (owns_out HM.out.2.1 (((Out.refl NoOne wf).drew).alloc _) (fun _ _ f => f)) wf.heap.size 1 (plain m) rfl (cells_new _ (plain m) _ rfl) (by omega) (by simp; omega) ?_; intro v4 w4 hown4 hg4; have ho4 : Out (fun x => w3.heap.size ≤ x) wf w4 := (((Out.refl _ wf).drew).alloc _).grown hg4 (fun x e _ => (owns_base HM.out.2.1 e).1); have hs4 := (ho4.cell (p := ⟨B2, k * 15, none⟩) (by show B2 < _; omega) (by show ¬ _ ≤ B2; omega)).trans hck; have hs5 := (ho4.cell (p := ⟨B2, k * 15 + 1, none⟩) (by show B2 < _; omega) (by show ¬ _ ≤ B2; omega)).trans hsk; have HN := hide (And.intro hown4 (And.intro hg4 ho4)); clear hown4 hg4 ho4))
          go_wp2_with fail
          go_meet
          case rel =>
            exact ⟨HM.out.2.2.trans HN.out.2.2 (fun x hx (e : w3.heap.size ≤ x) => by omega), HN.out.1⟩
      case rest =>
        obtain ⟨hoc, hownc⟩ := hcut
        have hMc := H3'.out.2.2.1.out hoc H3'.out.2.2.2 (fun f => f)
        have hget := run_getM wc B2 (k * 15) (ms.getD k .zero) (fun i hi => hMc k hlt i hi)
        have hpl : (outTo ms k ++ pre fb (ms.getD k .zero)).length ≤ 5000 := by
          rw [List.length_append]; cases fb <;> simp [pre] <;> omega
        have HC := hide (And.intro hoc hownc)
        have hzc := hoc.size
        clear hoc hownc hMc HM hck hsk
        generalize hpre : outTo ms k ++ pre fb (ms.getD k .zero) = lp at *
        have HP := hide hpre
        clear hpre
        generalize hmk : ms.getD k .zero = m at *
        have HK := hide hmk
        clear hmk
        simp only [mcells] at hget
        go_wp2_with (at_builtin; refine wpList_append_m rfl _ _ rfl w3.heap.size u8 lp rfl (owns_out HC.out.2 ((Out.refl NoOne wc).alloc _) (fun _ _ f => f)) wc.heap.size 1 m rfl ?hx hpl ?hz ?_)
        case hx => exact cells_new _ m _ rfl
        case hz => simp; omega
        intro v4 w4 hown4 hg4
        have HN := hide (And.intro hown4 hg4)
        clear hown4 hg4 hget
        go_wp2_with fail
        case roundEnd =>
          refine ⟨⟨k + 1, by omega, rfl, (HC.out.1.alloc _).grown HN.out.2 (fun x e hx => by have := (owns_base HC.out.2 e).1; omega), ?_⟩, by simp only [intOf]; omega⟩
          have hsu : outTo ms (k + 1) = lp ++ [m] := by
            rw [outTo_succ, ← HP.out, List.append_assoc]
            congr 1
            unfold piece pre
            rw [HFB.out, HK.out]
            cases fb <;> rfl
          rw [hsu, List.length_append]
          exact HN.out.1
    · obtain rfl : k = ms.length := by omega
      obtain ⟨wo, hwo⟩ : ∃ wo, wo = wr := ⟨_, rfl⟩
      subst hwo
      have hOw : Out NoOne w wo := H3'.out.2.1.trans hout (fun _ _ f => f)
      have hlb : (outTo ms ms.length).length ≤ 2048 := by
        rw [outTo_length]
        have : cnt ms ms.length ≤ ms.length := Nat.le_trans (List.length_filter_le ..) (by simp)
        omega
      have hM3 : Ms wo B3 (outTo ms ms.length) := H3'.out.1.1.out hout H3'.out.1.2 (fun f => f)
      have hl3 : B3 < wo.heap.size := Nat.lt_of_lt_of_le H3'.out.1.2 hout.size
      rcases hown.2 with ⟨rfl, hl0⟩ | ⟨g, cg, cur, rfl, hbg, hgg, hnc, hcm, hcs, htake⟩
      · have HZ := hide hOw
        clear hout hown hOw hM3 hl3 H3'
        generalize (outTo ms ms.length).length = L at *
        subst hl0
        go_wp2_with fail
        go_loopw [10] (fun i wr => i = .int .i64 0 ∧ Out NoOne w wr) (fun _ _ => 0)
        case atStart => exact ⟨rfl, HZ.out⟩
        case round =>
          obtain ⟨rfl, hout⟩ := hrel
          have HO := hide hout
          clear hout
          go_wp2_with fail
          go_ret
          exact ⟨rfl, HO.out⟩
      · have hMg : Ms wo g (outTo ms ms.length) := Ms.ofOwn hown
        have hglt := (owns_base hown (k := g) rfl).2
        have HZ := hide (And.intro hOw (And.intro hM3 (And.intro hMg (And.intro hl3 hglt))))
        clear hout hown hOw hM3 hl3 H3' hgg hnc hcm hcs htake hMg hglt
        generalize outTo ms ms.length = L at *
        go_wp2_with fail
        go_loopw [10] (fun i wr => ∃ k : Nat, k ≤ L.length ∧ i = .int .i64 (k : Int) ∧ Out NoOne wo wr) (fun i _ => L.length - (intOf i).toNat)
        case atStart => exact ⟨0, Nat.zero_le _, rfl, Out.refl _ _⟩
        case round =>
          obtain ⟨k, hk, rfl, hout⟩ := hrel
          by_cases hlt : k < L.length
          · have hm1 := HZ.out.2.1.out hout HZ.out.2.2.2.1 (fun f => f)
            have hm2 := HZ.out.2.2.1.out hout HZ.out.2.2.2.2 (fun f => f)
            have heq : ∀ q, Calls Yba.prog 11 #[.pointer (some ⟨B3, k * 15, none⟩), .pointer (some ⟨g, k * 15, none⟩)] (wr.drewN q) fun e w' => e = .returned (.bool true) ∧ ∃ m, w' = wr.drewN m := fun q =>
              (eq_calls B3 (k * 15) g (k * 15) (L.getD k .zero) (wr.drewN q) (fun i hi => hm1 k hlt i hi) (fun i hi => hm2 k hlt i hi)).mono (by
                rintro e w' ⟨rfl, n', rfl⟩
                exact ⟨rfl, q + n', World.drewN_drewN ..⟩)
            have HO := hide hout
            clear hout hm1 hm2
            go_wp2_with fail
            go_quiet (exact heq _)
            go_wp2_with fail
            case roundEnd => exact ⟨⟨k + 1, by omega, rfl, HO.out.drewN _⟩, by simp only [intOf]; omega⟩
          · obtain rfl : k = L.length := by omega
            have HO := hide hout
            clear hout
            go_wp2_with fail
            go_ret
            exact ⟨rfl, HZ.out.1.trans HO.out (fun _ _ f => f)⟩
end Go.Proofs.Ybulkccw.qm
