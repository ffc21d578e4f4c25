/- The walks of the law's own zzs0154bwant (function 6) and of the stand-in AEAD's Open (function 28). -/
import Derived.Test.YbulkcdyDoorNonce
import Derived.Handy
import Derived.Deep.Cut
import Derived.Deep.DeepCutAuto
namespace Go.Proofs.YbulkcdyDoor.noise
open Go Go.ChangeShapes Go.WideShapes Go.ChangeAt Go.RowKit
set_option linter.unusedVariables false

set_option maxHeartbeats 2000000 in
theorem want_calls (n : Int) (w : World) (hn0 : 0 ≤ n) (hn1 : n < 18446744073709551616) :
    Calls Ybad.prog 6 #[.int .u64 n] w fun e w' => e = .returned (.agg ((nonceL n).map (Value.int .u8)).toArray) ∧ Out NoOne w w' := by
  go_enter Ybad.func6, Ybad.ntmps6
  go_wp2
  go_rounds 9
  refine bodyPost_ret (v := .agg ((nonceL n).map (Value.int .u8)).toArray) (by simp [results, Ybad.results6, go_sem, nonceL]) rfl ⟨rfl, ?_⟩
  exact ((Out.refl _ w).alloc _).alloc _

/-- The stand-in's record at block A: its two switches, its count of calls, and what it has kept: slices in blocks from B on. -/
structure Rec (B : Nat) (w : World) (A : Nat) (fl ck : Bool) (calls : Int) (ln la lc : List Int) : Prop where
  c0 : w.cell? ⟨A, 0, none⟩ = some (.bool fl)
  c1 : w.cell? ⟨A, 1, none⟩ = some (.bool ck)
  c2 : w.cell? ⟨A, 2, none⟩ = some (.int .i64 calls)
  fz : ∀ o, w.frozen? ⟨A, o, none⟩ = false
  sl : ∃ a3 c3 a4 c4 a5 c5, w.cell? ⟨A, 3, none⟩ = some (.slice a3 ln.length c3) ∧ w.cell? ⟨A, 4, none⟩ = some (.slice a4 la.length c4) ∧ w.cell? ⟨A, 5, none⟩ = some (.slice a5 lc.length c5) ∧
    Bs w (.slice a3 ln.length c3) ln ∧ Bs w (.slice a4 la.length c4) la ∧ Bs w (.slice a5 lc.length c5) lc ∧
    (∀ k, Value.ownBlock (.slice a3 ln.length c3) = some k → B ≤ k) ∧ (∀ k, Value.ownBlock (.slice a4 la.length c4) = some k → B ≤ k) ∧ (∀ k, Value.ownBlock (.slice a5 lc.length c5) = some k → B ≤ k)

/-- The record, whatever it has kept. -/
structure Rec0 (w : World) (A : Nat) (fl ck : Bool) (calls : Int) : Prop where
  c0 : w.cell? ⟨A, 0, none⟩ = some (.bool fl)
  c1 : w.cell? ⟨A, 1, none⟩ = some (.bool ck)
  c2 : w.cell? ⟨A, 2, none⟩ = some (.int .i64 calls)
  fz : ∀ o, w.frozen? ⟨A, o, none⟩ = false
  sl : ∃ v3 v4 v5, w.cell? ⟨A, 3, none⟩ = some v3 ∧ w.cell? ⟨A, 4, none⟩ = some v4 ∧ w.cell? ⟨A, 5, none⟩ = some v5
theorem Rec.toRec0 {B : Nat} {w : World} {A : Nat} {fl ck : Bool} {calls : Int} {ln la lc : List Int} (h : Rec B w A fl ck calls ln la lc) : Rec0 w A fl ck calls := by
  obtain ⟨a3, c3, a4, c4, a5, c5, h3, h4, h5, _⟩ := h.sl
  exact ⟨h.c0, h.c1, h.c2, h.fz, _, _, _, h3, h4, h5⟩
theorem Rec0.out {S : Nat → Prop} {w w' : World} {A : Nat} {fl ck : Bool} {calls : Int} (h : Rec0 w A fl ck calls) (o : Out S w w') (hA : A < w.heap.size) (hSA : ¬ S A) : Rec0 w' A fl ck calls := by
  have hc : ∀ i, w'.cell? ⟨A, i, none⟩ = w.cell? ⟨A, i, none⟩ := fun i => o.cell (p := ⟨A, i, none⟩) hA hSA
  obtain ⟨v3, v4, v5, h3, h4, h5⟩ := h.sl
  exact ⟨by rw [hc]; exact h.c0, by rw [hc]; exact h.c1, by rw [hc]; exact h.c2, fun i => by rw [o.frozen (p := ⟨A, i, none⟩) hA hSA]; exact h.fz i,
    v3, v4, v5, by rw [hc]; exact h3, by rw [hc]; exact h4, by rw [hc]; exact h5⟩

theorem Rec.out {S : Nat → Prop} {B : Nat} {w w' : World} {A : Nat} {fl ck : Bool} {calls : Int} {ln la lc : List Int} (h : Rec B w A fl ck calls ln la lc) (o : Out S w w') (hA : A < w.heap.size) (hSA : ¬ S A)
    (hS : ∀ k, B ≤ k → ¬ S k) : Rec B w' A fl ck calls ln la lc := by
  have hc : ∀ i, w'.cell? ⟨A, i, none⟩ = w.cell? ⟨A, i, none⟩ := fun i => o.cell (p := ⟨A, i, none⟩) hA hSA
  obtain ⟨a3, c3, a4, c4, a5, c5, h3, h4, h5, b3, b4, b5, o3, o4, o5⟩ := h.sl
  exact ⟨by rw [hc]; exact h.c0, by rw [hc]; exact h.c1, by rw [hc]; exact h.c2, fun i => by rw [o.frozen (p := ⟨A, i, none⟩) hA hSA]; exact h.fz i,
    a3, c3, a4, c4, a5, c5, by rw [hc]; exact h3, by rw [hc]; exact h4, by rw [hc]; exact h5,
    b3.out o (fun _ k hk => hS k (o3 k hk)), b4.out o (fun _ k hk => hS k (o4 k hk)), b5.out o (fun _ k hk => hS k (o5 k hk)), o3, o4, o5⟩

/-- The stand-in's cipher: each byte xor 0x5A. -/
def Xor (l : List Int) : List Int := l.map fun c => bits .xor .u8 c 90

/-- What of the ciphertext is the body: all of it; in check mode all but the tag, which is the nonce. -/
def Body (ck : Bool) (lc ln body : List Int) : Prop := ck = false ∧ body = lc ∨ ck = true ∧ lc = body ++ ln

theorem open_err {A : Nat} {fl ck : Bool} {calls : Int} {ln la lc : List Int} {w W : World} {v : Value} (h : Rec w.heap.size W A fl ck calls ln la lc) (ow : Out (Only A) w W) (hA : A < w.heap.size) (o : Obj) :
    Rec w.heap.size (W.alloc o) A fl ck calls ln la lc ∧ Out (OrOwn A v) w (W.alloc o) :=
  ⟨h.out (S := NoOne) ((Out.refl _ W).alloc o) (Nat.lt_of_lt_of_le hA ow.size) (fun f => f) (fun _ _ f => f), (ow.alloc o).mono (fun _ e => .inl e)⟩

/-- What a call of the stand-in's Open comes to. -/
def OpenPost (A Bd : Nat) (fl ck : Bool) (calls : Int) (ln la lc ld : List Int) (vd : Value) (w : World) (e : Ending) (w' : World) : Prop :=
  ∃ v ev, e = .returned (.tuple #[v, ev]) ∧ Rec w.heap.size w' A fl ck calls ln la lc ∧ Out (OrOwn A vd) w w' ∧
    ((fl = true ∨ (ck = true ∧ ∀ body, lc ≠ body ++ ln)) → v = .slice none 0 0 ∧ ∃ p, ev = .iface 52 (.pointer (some ⟨p, 0, none⟩))) ∧
    (∀ body, fl = false → Body ck lc ln body → ev = .nilIface ∧ ∃ ar cr, v = .slice ar (ld ++ Xor body).length cr ∧
      w'.ownsRow Bd 5 1 v (ld ++ Xor body).length ((ld ++ Xor body).map (Value.int .u8)) ∧
      (∀ k, Value.ownBlock v = some k → Value.ownBlock vd = some k ∨ w.heap.size ≤ k))

theorem OpenPost.err {A Bd : Nat} {fl ck : Bool} {calls : Int} {ln la lc ld : List Int} {vd : Value} {w W : World} (h : Rec w.heap.size W A fl ck calls ln la lc) (ow : Out (Only A) w W) (hA : A < w.heap.size) (o : Obj) (p : Nat)
    (hbad : ∀ body, fl = false → ¬ Body ck lc ln body) : OpenPost A Bd fl ck calls ln la lc ld vd w (.returned (.tuple #[.slice none 0 0, .iface 52 (.pointer (some ⟨p, 0, none⟩))])) (W.alloc o) :=
  ⟨_, _, rfl, (open_err (v := vd) h ow hA o).1, (open_err h ow hA o).2, fun _ => ⟨rfl, p, rfl⟩, fun body hf hb => absurd hb (hbad body hf)⟩

theorem body_take {lc ln : List Int} (h : lc.drop (lc.length - ln.length) = ln) : lc = lc.take (lc.length - ln.length) ++ ln := by
  have := List.take_append_drop (lc.length - ln.length) lc
  rw [h] at this; exact this.symm
theorem body_drop {lc ln body : List Int} (h : lc = body ++ ln) : lc.drop (lc.length - ln.length) = ln := by
  rw [h, List.length_append, Nat.add_sub_cancel, List.drop_left]
theorem body_eq {ck : Bool} {lc ln b1 b2 : List Int} (h1 : Body ck lc ln b1) (h2 : Body ck lc ln b2) : b1 = b2 := by
  rcases h1 with ⟨e1, h1⟩ | ⟨e1, h1⟩ <;> rcases h2 with ⟨e2, h2⟩ | ⟨e2, h2⟩
  · rw [h1, h2]
  · rw [e1] at e2; cases e2
  · rw [e1] at e2; cases e2
  · rw [h1] at h2; exact List.append_cancel_right h2
theorem take_getD (l : List Int) (k i : Nat) (h : i < k) : (l.take k).getD i 0 = l.getD i 0 := by
  simp only [List.getD_eq_getElem?_getD, List.getElem?_take, if_pos h]
theorem xor_snoc (ld body r : List Int) (k : Nat) (hk : k < body.length) (h : r = ld ++ Xor (body.take k)) : r ++ [bits .xor .u8 (body.getD k 0) 90] = ld ++ Xor (body.take (k + 1)) := by
  rw [h, List.take_succ_eq_append_getElem hk, Xor, Xor, List.map_append, List.append_assoc]
  simp [List.getElem?_eq_getElem hk]
theorem one_new (w : World) (x : Int) (o : Obj) (ho : o = .cells #[.int .u8 x] 5) : Bs (w.alloc o) (.slice (some ⟨w.heap.size, 0, none⟩) 1 1) [x] := by
  subst ho
  refine Bs.mk rfl (Nat.le_refl _) (by decide) (fun i hi => ?_)
  obtain rfl : i = 0 := by simp at hi; exact hi
  simp
theorem drop_getD (l : List Int) (k i : Nat) : (l.drop k).getD i 0 = l.getD (k + i) 0 := by
  simp only [List.getD_eq_getElem?_getD, List.getElem?_drop]

set_option maxHeartbeats 4000000 in
theorem open_calls (A Bd : Nat) (fl ck : Bool) (calls : Int) (ln la lc ld : List Int) (an ac aa ad : Option Addr) (cn cc ca cd : Nat) (w : World)
    (hA : A < w.heap.size) (hk0 : 0 ≤ calls) (hk1 : calls ≤ 1000)
    (hrec : Rec0 w A fl ck calls)
    (hn : Bs w (.slice an ln.length cn) ln) (hc : Bs w (.slice ac lc.length cc) lc) (ha : Bs w (.slice aa la.length ca) la)
    (hnA : ln ≠ [] → Value.ownBlock (.slice an ln.length cn) ≠ some A) (hcA : lc ≠ [] → Value.ownBlock (.slice ac lc.length cc) ≠ some A) (haA : la ≠ [] → Value.ownBlock (.slice aa la.length ca) ≠ some A)
    (zn : ln.length ≤ 2048) (zc : lc.length ≤ 2048) (za : la.length ≤ 2048) (zd : ld.length ≤ 2048) (bn : Bytes ln) (bc : Bytes lc) (pn : 0 < ln.length)
    (hdA : Value.ownBlock (.slice ad ld.length cd) ≠ some A) (hBd : Bd ≤ w.heap.size) (hd : w.ownsRow Bd 5 1 (.slice ad ld.length cd) ld.length (ld.map (Value.int .u8)))
    (hcd : lc ≠ [] → ∀ k, Value.ownBlock (.slice ac lc.length cc) = some k → Value.ownBlock (.slice ad ld.length cd) ≠ some k) :
    Calls Ybad.prog 28 #[.pointer (some ⟨A, 0, none⟩), .slice ad ld.length cd, .slice an ln.length cn, .slice ac lc.length cc, .slice aa la.length ca] w
      (OpenPost A Bd fl ck (calls + 1) ln la lc ld (.slice ad ld.length cd) w) := by
  obtain ⟨d0, d1, d2, df, v3, v4, v5, d3, d4, d5⟩ := hrec
  have HN := hide hn
  have HCc := hide hc
  have HAa := hide ha
  clear hn hc ha
  have o1 : Out (Only A) w (w.setCell ⟨A, 2, none⟩ (.int .i64 (calls + 1))) := (Out.refl _ w).at _
  go_enter Ybad.func28, Ybad.ntmps28
  go_wp2_with (at_builtin; refine wpList_append_bs rfl _ _ rfl w.heap.size (.slice none 0 0) [] ln ln rfl rfl (World.ownsRow_nil _ _ _ _) _ rfl ?hx ?hy ?hz ?_)
  case hx => exact HN.out.out o1 (fun h0 k hk e => hnA h0 (by rw [hk, e]))
  case hy => simp; omega
  case hz => simp
  intro ad1 cap1 w2 hown2 hg2 _
  have o2 : Out (Only A) w w2 := o1.grew hg2
  have z2 := o2.size
  have kA2 : ∀ o, w2.cell? ⟨A, o, none⟩ = (w.setCell ⟨A, 2, none⟩ (.int .i64 (calls + 1))).cell? ⟨A, o, none⟩ := fun o => World.cell?_of_block (hg2.block A (by simpa using hA) (by simp [Value.ownBlock]))
  have kF2 : ∀ o, w2.frozen? ⟨A, o, none⟩ = false := fun o => by
    rw [World.frozen?_of_block (a := ⟨A, o, none⟩) (hg2.block A (by simpa using hA) (by simp [Value.ownBlock]))]; simp [df]
  have o2' := o2.at (o := 3) (.slice ad1 ln.length cap1)
  have HO2 := hide hown2
  clear hown2 hg2 o1
  go_wp2_with (at_builtin; refine wpList_append_bs rfl _ _ rfl w.heap.size (.slice none 0 0) [] la la rfl rfl (World.ownsRow_nil _ _ _ _) _ rfl ?hx ?hy ?hz ?_)
  case hx => exact HAa.out.out o2' (fun h0 k hk e => haA h0 (by rw [hk, e]))
  case hy => simp; omega
  case hz => simp; omega
  intro ad2 cap2 w3 hown3 hg3 _
  have o3 : Out (Only A) w w3 := o2'.grew hg3
  have z3 := o3.size
  have g3 := hg3.size
  have kA3 : ∀ o, w3.cell? ⟨A, o, none⟩ = (w2.setCell ⟨A, 3, none⟩ (.slice ad1 ln.length cap1)).cell? ⟨A, o, none⟩ := fun o => World.cell?_of_block (hg3.block A (by simp; omega) (by simp [Value.ownBlock]))
  have kF3 : ∀ o, w3.frozen? ⟨A, o, none⟩ = false := fun o => by
    rw [World.frozen?_of_block (a := ⟨A, o, none⟩) (hg3.block A (by simp; omega) (by simp [Value.ownBlock]))]; simp [kF2]
  have o3' := o3.at (o := 4) (.slice ad2 la.length cap2)
  have HO3 := hide hown3
  have HG3 := hide hg3
  clear hown3 hg3 o2'
  go_wp2_with (at_builtin; refine wpList_append_bs rfl _ _ rfl w.heap.size (.slice none 0 0) [] lc lc rfl rfl (World.ownsRow_nil _ _ _ _) _ rfl ?hx ?hy ?hz ?_)
  case hx => exact HCc.out.out o3' (fun h0 k hk e => hcA h0 (by rw [hk, e]))
  case hy => simp; omega
  case hz => simp; omega
  intro ad3 cap3 w4 hown4 hg4 _
  have o4 : Out (Only A) w w4 := o3'.grew hg4
  have z4 := o4.size
  have g4 := hg4.size
  have kA4 : ∀ o, w4.cell? ⟨A, o, none⟩ = (w3.setCell ⟨A, 4, none⟩ (.slice ad2 la.length cap2)).cell? ⟨A, o, none⟩ := fun o => World.cell?_of_block (hg4.block A (by simp; omega) (by simp [Value.ownBlock]))
  have kF4 : ∀ o, w4.frozen? ⟨A, o, none⟩ = false := fun o => by
    rw [World.frozen?_of_block (a := ⟨A, o, none⟩) (hg4.block A (by simp; omega) (by simp [Value.ownBlock]))]; simp [kF3]
  have o4' := o4.at (o := 5) (.slice ad3 lc.length cap3)
  have q3 : Out (Only A) w3 (w4.setCell ⟨A, 5, none⟩ (.slice ad3 lc.length cap3)) := (((Out.refl _ w3).at _).grew hg4).at _
  have q2 : Out (Only A) w2 (w4.setCell ⟨A, 5, none⟩ (.slice ad3 lc.length cap3)) := (((Out.refl _ w2).at _).grew HG3.out).trans q3 (fun _ _ t => t)
  have q4 : Out (Only A) w4 (w4.setCell ⟨A, 5, none⟩ (.slice ad3 lc.length cap3)) := (Out.refl _ w4).at _
  have hrec' : Rec w.heap.size (w4.setCell ⟨A, 5, none⟩ (.slice ad3 lc.length cap3)) A fl ck (calls + 1) ln la lc := by
    refine ⟨by simp [go_sem, kA4, kA3, kA2, d0], by simp [go_sem, kA4, kA3, kA2, d1], by simp [go_sem, kA4, kA3, kA2, d2], fun o => by simp [go_sem, kF4], ad1, cap1, ad2, cap2, ad3, cap3,
      by simp [go_sem, kA4, kA3, kA2, d3], by simp [go_sem, kA4, kA3, kA2, d4], by simp [go_sem, kA4, kA3, kA2, d5],
      (Bs.ofOwn HO2.out).1.out q2 (fun _ k hk e => ?_), (Bs.ofOwn HO3.out).1.out q3 (fun _ k hk e => ?_), (Bs.ofOwn hown4).1.out q4 (fun _ k hk e => ?_),
      fun k hk => (HO2.out.lt k hk).1, fun k hk => (HO3.out.lt k hk).1, fun k hk => (hown4.lt k hk).1⟩
    · have := (HO2.out.lt k hk).1; cases e; omega
    · have := (HO3.out.lt k hk).1; cases e; omega
    · have := (hown4.lt k hk).1; cases e; omega
  go_upto_region 5 with fail
  generalize w4.setCell ⟨A, 5, none⟩ (.slice ad3 lc.length cap3) = W at *
  clear kA4 kA3 kA2 kF4 kF3 kF2 hown4 hg4 HO2 HO3 HG3 q2 q3 q4 o2 o3 o4 z2 z3 z4 g3 g4 d0 d1 d2 d3 d4 d5 df
  have HRC := hide hrec'
  have OW := hide o4'
  have d0 := hrec'.c0
  have d1 := hrec'.c1
  have hBW : Hid (Bs W (.slice ac lc.length cc) lc) := hide (HCc.out.out o4' (fun h0 k hk e => hcA h0 (by rw [hk, e])))
  have hNW : Hid (Bs W (.slice an ln.length cn) ln) := hide (HN.out.out o4' (fun h0 k hk e => hnA h0 (by rw [hk, e])))
  have sW := o4'.size
  have HD : Hid (W.ownsRow Bd 5 1 (.slice ad ld.length cd) ld.length (ld.map (Value.int .u8))) := hide (by
    refine ⟨hd.1, ?_⟩
    rcases hd.2 with h | ⟨g, cap, cur, hv, hg, hh, r⟩
    · exact .inl h
    · refine .inr ⟨g, cap, cur, hv, hg, ?_, r⟩
      rw [o4'.block g (by rcases Nat.lt_or_ge g w.heap.size with h | h; exact h; rw [Array.getElem?_eq_none h] at hh; cases hh) (fun e => by rw [hv] at hdA; cases e; exact hdA rfl)]
      exact hh)
  have HDL : Hid (∀ x, Value.ownBlock (.slice ad ld.length cd) = some x → x < w.heap.size) := hide (fun x hx => (hd.lt x hx).2)
  clear hrec' o4' hd HN HCc HAa o3'
  cases fl
  · go_upto_if 47 with fail
    go_cut [12, 13] (fun s12 _ wc => wc = W ∧ ∃ body ab cb, s12 = .slice ab body.length cb ∧ Body ck lc ln body ∧ Bs W (.slice ab body.length cb) body ∧
      (∀ k, Value.ownBlock (.slice ab body.length cb) = some k → Value.ownBlock (.slice ac lc.length cc) = some k))
    case first =>
      cases ck
      · go_wp2_with fail
        go_meet
        case rel => exact ⟨rfl, lc, ac, cc, rfl, .inl ⟨rfl, rfl⟩, hBW.out, fun _ h => h⟩
      · by_cases hsh : lc.length < ln.length
        · go_wp2
          go_ret2
          refine OpenPost.err HRC.out OW.out hA _ _ (fun body _ hb => ?_)
          rcases hb with ⟨h, _⟩ | ⟨_, h⟩
          · cases h
          · exact absurd (congrArg List.length h) (by simp; omega)
        · obtain ⟨b, off, hac, hlc, hcm, hcell⟩ := hBW.out.plain (by omega)
          subst hac
          have hkc : lc.length - ln.length < cc := by omega
          have HBT : Hid (Bs W (.slice (some ⟨b, off + (lc.length - ln.length), none⟩) (lc.length - (lc.length - ln.length)) (cc - (lc.length - ln.length))) (lc.drop (lc.length - ln.length))) :=
            hide (Bs.mk (by rw [List.length_drop]) (by omega) (by omega) (fun i hi => by rw [drop_getD, Nat.add_assoc]; exact hcell _ (by rw [List.length_drop] at hi; omega)))
          have HBB : Hid (Bs W (.slice (some ⟨b, off, none⟩) (lc.length - ln.length) cc) (lc.take (lc.length - ln.length))) :=
            hide (Bs.mk (by rw [List.length_take]; omega) (by omega) hcm (fun i hi => by rw [List.length_take] at hi; rw [take_getD _ _ _ (by omega)]; exact hcell _ (by omega)))
          have BT : Bytes (lc.drop (lc.length - ln.length)) := fun n hn => bc n (List.mem_of_mem_drop hn)
          clear hcell
          go_wp2_with fail
          refine (equal_calls' _ _ _ _ _ HBT.out hNW.out BT bn).mono ?_
          rintro e w' ⟨rfl, rfl⟩
          by_cases htag : lc.drop (lc.length - ln.length) = ln
          · have hdec : decide (lc.drop (lc.length - ln.length) = ln) = true := by simp [htag]
            have HTG := hide htag
            clear htag
            go_wp2_with fail
            go_meet
            case rel =>
              have hlk : (lc.take (lc.length - ln.length)).length = lc.length - ln.length := by rw [List.length_take]; omega
              exact ⟨rfl, lc.take (lc.length - ln.length), some ⟨b, off, none⟩, cc, by rw [hlk], .inr ⟨rfl, body_take HTG.out⟩, by rw [hlk]; exact HBB.out, fun _ h => h⟩
          · have hdec : decide (lc.drop (lc.length - ln.length) = ln) = false := by simp [htag]
            have HTG := hide htag
            clear htag
            go_wp2
            go_ret2
            refine OpenPost.err HRC.out OW.out hA _ _ (fun body _ hb => ?_)
            rcases hb with ⟨h, _⟩ | ⟨_, h⟩
            · cases h
            · exact absurd (body_drop h) HTG.out
    case rest =>
      obtain ⟨hwc, body, ab, cb, rfl, hbody, hbs, hbb⟩ := hcut
      subst hwc
      have HBD := hide hbody
      have HBS := hide hbs
      have HBK := hide hbb
      have zb : body.length ≤ 2048 := by
        rcases hbody with ⟨_, h⟩ | ⟨_, h⟩
        · rw [h]; exact zc
        · have := congrArg List.length h; simp at this; omega
      have HHC := hide hcd
      have HBN : Hid (body ≠ [] → lc ≠ []) := hide (fun h0 h1 => by
        rcases hbody with ⟨_, h⟩ | ⟨_, h⟩
        · rw [h] at h0; exact h0 h1
        · rw [h1] at h; exact h0 (List.append_eq_nil_iff.1 h.symm).1)
      clear hbody hbs hbb hcd d0 d1
      go_wp2_with fail
      go_loopw [14, 15] (fun v i wr => ∃ (k : Nat) (ar : Option Addr) (cr : Nat) (r : List Int), k ≤ body.length ∧ i = .int .i64 k ∧ v = .slice ar r.length cr ∧ Hid (r = ld ++ Xor (body.take k)) ∧
          wr.ownsRow Bd 5 1 (.slice ar r.length cr) r.length (r.map (Value.int .u8)) ∧
          Out (fun x => Value.ownBlock (.slice ad ld.length cd) = some x) wc wr ∧
          (∀ x, Value.ownBlock (.slice ar r.length cr) = some x → Value.ownBlock (.slice ad ld.length cd) = some x ∨ wc.heap.size ≤ x)) (fun _ i _ => body.length - (intOf i).toNat)
      case atStart => exact ⟨0, ad, cd, ld, Nat.zero_le _, rfl, rfl, hide (by simp [Xor]), HD.out, Out.refl _ _, fun x h => .inl h⟩
      case round =>
        obtain ⟨k, ar, cr, r, hk, rfl, rfl, HR, hown, hout, hblk⟩ := hrel
        by_cases hlt : k < body.length
        · have hbr : Bs wr (.slice ab body.length cb) body := HBS.out.out hout (fun h0 x hx => HHC.out (HBN.out h0) x (HBK.out x hx))
          obtain ⟨b, off, hab, hlb, hcb, hcell⟩ := hbr.plain (by omega)
          subst hab
          have hck := hcell k hlt
          have hrl : r.length ≤ 4096 := by rw [HR.out]; simp [Xor]; omega
          have HOWN := hide hown
          have HOUT := hide hout
          have HBLK := hide hblk
          have hwz := hout.size
          clear hcell hbr hown hout hblk
          unfold maxLen at hcb
          go_wp2_with (at_builtin; refine wpList_append_bs rfl _ _ rfl Bd (.slice ar r.length cr) r [bits .xor .u8 (body.getD k 0) 90] (r ++ [bits .xor .u8 (body.getD k 0) 90]) rfl rfl (HOWN.out.alloc _) (.slice (some ⟨wr.heap.size, 0, none⟩) 1 1) rfl ?hx ?hy ?hz ?_)
          case hx => exact one_new _ _ _ (by simp [List.getElem?_eq_getElem hlt])
          case hy => simp; omega
          case hz => simp; omega
          intro ar' cr' w' hown' hg' hb'
          have R1 : Out (fun x => Value.ownBlock (.slice ad ld.length cd) = some x) wc w' := (HOUT.out.alloc _).grown hg' (fun x e hx => by
            rcases HBLK.out x e with h | h
            · exact h
            · omega)
          have R2 : ∀ x, Value.ownBlock (.slice ar' (r.length + 1) cr') = some x → Value.ownBlock (.slice ad ld.length cd) = some x ∨ wc.heap.size ≤ x := fun x hx => by
            rcases hb' with h | h
            · exact HBLK.out x (h.symm.trans hx)
            · rw [h] at hx; cases hx; right; omega
          have R3 := hide hown'
          have R1' := hide R1
          have R2' := hide R2
          clear hown' hg' hb' R1 R2
          go_wp2_with fail
          go_roundw
          case rel =>
            refine ⟨k + 1, ar', cr', r ++ [bits .xor .u8 (body.getD k 0) 90], by omega, by go_num, by simp, hide (xor_snoc ld body r k hlt HR.out), ?_, R1'.out, ?_⟩
            · have := R3.out
              simpa [List.getElem?_eq_getElem hlt] using this
            · simpa using R2'.out
          case measure => simp [intOf]; omega
        · have HOWN := hide hown
          have HOUT := hide hout
          have HBLK := hide hblk
          clear hown hout hblk
          go_wp2_with fail
          go_ret2
          have hkb : body.take k = body := List.take_of_length_le (by omega)
          have hr := HR.out
          rw [hkb] at hr
          refine ⟨_, _, rfl, HRC.out.out HOUT.out (by omega) (fun e => ?_) (fun x hx e => ?_), ?_, ?_, ?_⟩
          · exact hdA e
          · have := HDL.out x e; omega
          · exact (OW.out.mono (fun _ e => Or.inl e)).trans HOUT.out (fun x _ e => Or.inr e)
          · intro h
            rcases h with h | ⟨h1, h2⟩
            · cases h
            · rcases HBD.out with ⟨h3, _⟩ | ⟨_, h3⟩
              · rw [h1] at h3; cases h3
              · exact absurd h3 (h2 body)
          · intro body' _ hb'
            obtain rfl := body_eq HBD.out hb'
            refine ⟨rfl, ar, cr, ?_, ?_, ?_⟩
            · rw [← hr]; rfl
            · rw [← hr]; exact HOWN.out
            · intro x hx
              rcases HBLK.out x hx with h | h
              · exact .inl h
              · right; omega
  · go_wp2
    go_ret2
    exact OpenPost.err HRC.out OW.out hA _ _ (fun body h => by cases h)
end Go.Proofs.YbulkcdyDoor.noise
