/- The walk of (*Cipher).Open (function 5). -/
import Derived.Test.YbulkcdyDoorOpen
namespace Go.Proofs.YbulkcdyDoor.noise
open Go Go.ChangeShapes Go.WideShapes Go.ChangeAt Go.RowKit
set_option linter.unusedVariables false

theorem open_calls12 (A Bd r : Nat) (fl ck : Bool) (calls n : Int) (la lc ld : List Int) (ac aa ad : Option Addr) (cc ca cd : Nat) (w : World)
    (hA : A < w.heap.size) (hk0 : 0 ≤ calls) (hk1 : calls ≤ 1000)
    (hrec : Rec0 w A fl ck calls)
    (hn : ∀ i, i < 12 → w.cell? ⟨r, i, none⟩ = some (.int .u8 ((nonceL n).getD i 0))) (hc : Bs w (.slice ac lc.length cc) lc) (ha : Bs w (.slice aa la.length ca) la)
    (hnA : r ≠ A) (hcA : lc ≠ [] → Value.ownBlock (.slice ac lc.length cc) ≠ some A) (haA : la ≠ [] → Value.ownBlock (.slice aa la.length ca) ≠ some A)
    (zc : lc.length ≤ 2048) (za : la.length ≤ 2048) (zd : ld.length ≤ 2048) (hn0 : 0 ≤ n) (hn1 : n < 18446744073709551616) (bc : Bytes lc)
    (hdA : Value.ownBlock (.slice ad ld.length cd) ≠ some A) (hBd : Bd ≤ w.heap.size) (hd : w.ownsRow Bd 5 1 (.slice ad ld.length cd) ld.length (ld.map (Value.int .u8)))
    (hcd : lc ≠ [] → ∀ k, Value.ownBlock (.slice ac lc.length cc) = some k → Value.ownBlock (.slice ad ld.length cd) ≠ some k) :
    Calls Ybad.prog 28 #[.pointer (some ⟨A, 0, none⟩), .slice ad ld.length cd, .slice (some ⟨r, 0, none⟩) 12 12, .slice ac lc.length cc, .slice aa la.length ca] w
      (OpenPost A Bd fl ck (calls + 1) (nonceL n) la lc ld (.slice ad ld.length cd) w) :=
  open_calls A Bd fl ck calls (nonceL n) la lc ld (some ⟨r, 0, none⟩) ac aa ad 12 cc ca cd w hA hk0 hk1 hrec
    (Bs.mk rfl (by show 12 ≤ 12; decide) (by decide) (fun i hi => by rw [Nat.zero_add]; exact hn i hi)) hc ha (fun _ h => hnA (by cases h; rfl)) hcA haA (by show 12 ≤ 2048; decide) zc za zd (nonceL_bytes n hn0 hn1) bc (by show 0 < 12; decide) hdA hBd hd hcd

theorem Rec.mono {B B' : Nat} {w : World} {A : Nat} {fl ck : Bool} {calls : Int} {ln la lc : List Int} (h : Rec B w A fl ck calls ln la lc) (hB : B' ≤ B) : Rec B' w A fl ck calls ln la lc := by
  obtain ⟨a3, c3, a4, c4, a5, c5, h3, h4, h5, b3, b4, b5, o3, o4, o5⟩ := h.sl
  exact ⟨h.c0, h.c1, h.c2, h.fz, a3, c3, a4, c4, a5, c5, h3, h4, h5, b3, b4, b5, fun k hk => Nat.le_trans hB (o3 k hk), fun k hk => Nat.le_trans hB (o4 k hk), fun k hk => Nat.le_trans hB (o5 k hk)⟩

/-- Blocks A and r, and the block in which v lies. -/
def OrTwo (A r : Nat) (v : Value) (k : Nat) : Prop := k = A ∨ k = r ∨ v.ownBlock = some k

/-- What a call of Cipher.Open comes to. -/
def COpenPost (A Bd r : Nat) (fl ck : Bool) (calls n : Int) (la lc ld : List Int) (vd ge : Value) (w : World) (e : Ending) (w' : World) : Prop :=
  ∃ v ev, e = .returned (.tuple #[v, ev]) ∧ Rec w.heap.size w' A fl ck calls (nonceL n) la lc ∧ Out (OrTwo A r vd) w w' ∧
    (∀ i, i < 12 → w'.cell? ⟨r, i, none⟩ = some (.int .u8 ((nonceL n).getD i 0))) ∧
    ((fl = true ∨ (ck = true ∧ ∀ body, lc ≠ body ++ nonceL n)) → v = .slice none 0 0 ∧ ev = ge) ∧
    (∀ body, fl = false → Body ck lc (nonceL n) body → ev = .nilIface ∧ ∃ ar cr, v = .slice ar (ld ++ Xor body).length cr ∧
      w'.ownsRow Bd 5 1 v (ld ++ Xor body).length ((ld ++ Xor body).map (Value.int .u8)) ∧
      (∀ k, Value.ownBlock v = some k → Value.ownBlock vd = some k ∨ w.heap.size ≤ k))

/-- What the call of the AEAD inside Cipher.Open comes to. -/
def CMid (A Bd r : Nat) (fl ck : Bool) (calls n : Int) (la lc ld : List Int) (vd : Value) (w : World) (v ev : Value) (w' : World) : Prop :=
  Rec w.heap.size w' A fl ck calls (nonceL n) la lc ∧ Out (OrTwo A r vd) w w' ∧
    (∀ i, i < 12 → w'.cell? ⟨r, i, none⟩ = some (.int .u8 ((nonceL n).getD i 0))) ∧
    (ev = .nilIface ∨ ∃ p, ev = .iface 52 (.pointer (some ⟨p, 0, none⟩))) ∧
    ((fl = true ∨ (ck = true ∧ ∀ body, lc ≠ body ++ nonceL n)) → v = .slice none 0 0 ∧ ∃ p, ev = .iface 52 (.pointer (some ⟨p, 0, none⟩))) ∧
    (∀ body, fl = false → Body ck lc (nonceL n) body → ev = .nilIface ∧ ∃ ar cr, v = .slice ar (ld ++ Xor body).length cr ∧
      w'.ownsRow Bd 5 1 v (ld ++ Xor body).length ((ld ++ Xor body).map (Value.int .u8)) ∧
      (∀ k, Value.ownBlock v = some k → Value.ownBlock vd = some k ∨ w.heap.size ≤ k))

theorem body_or (fl ck : Bool) (lc ln : List Int) : (fl = true ∨ (ck = true ∧ ∀ body, lc ≠ body ++ ln)) ∨ (fl = false ∧ ∃ body, Body ck lc ln body) := by
  cases fl
  · cases ck
    · exact .inr ⟨rfl, lc, .inl ⟨rfl, rfl⟩⟩
    · by_cases h : ∃ body, lc = body ++ ln
      · obtain ⟨b, h⟩ := h; exact .inr ⟨rfl, b, .inr ⟨rfl, h⟩⟩
      · exact .inl (.inr ⟨rfl, fun b e => h ⟨b, e⟩⟩)
  · exact .inl (.inl rfl)

theorem copen_second (A Bd r C : Nat) (f : Nat → Int) (fl ck : Bool) (calls n : Int) (la lc ld : List Int) (ac aa ad : Option Addr) (cc ca cd : Nat) (ge : Value) (w : World)
    (hA : A < w.heap.size) (hk0 : 0 ≤ calls) (hk1 : calls ≤ 1000)
    (hrec : Rec0 w A fl ck calls)
    (hC : C < w.heap.size) (hcC : w.cell? ⟨C, 0, none⟩ = some (.iface 25 (.pointer (some ⟨A, 0, none⟩)))) (hCr : C ≠ r)
    (hr : r < w.heap.size) (hrc : ∀ i, i < 12 → w.cell? ⟨r, i, none⟩ = some (.int .u8 (f i))) (hrf : ∀ i, w.frozen? ⟨r, i, none⟩ = false)
    (hg : w.cell? ⟨0, 0, none⟩ = some ge) (hA0 : A ≠ 0) (hr0 : r ≠ 0) (hd0 : Value.ownBlock (.slice ad ld.length cd) ≠ some 0)
    (hc : Bs w (.slice ac lc.length cc) lc) (ha : Bs w (.slice aa la.length ca) la)
    (hnA : r ≠ A) (hcA : lc ≠ [] → Value.ownBlock (.slice ac lc.length cc) ≠ some A) (haA : la ≠ [] → Value.ownBlock (.slice aa la.length ca) ≠ some A)
    (hcr : lc ≠ [] → Value.ownBlock (.slice ac lc.length cc) ≠ some r) (har : la ≠ [] → Value.ownBlock (.slice aa la.length ca) ≠ some r) (hdr : Value.ownBlock (.slice ad ld.length cd) ≠ some r)
    (zc : lc.length ≤ 2048) (za : la.length ≤ 2048) (zd : ld.length ≤ 2048) (hn0 : 0 ≤ n) (hn1 : n < 18446744073709551616) (bc : Bytes lc)
    (hdA : Value.ownBlock (.slice ad ld.length cd) ≠ some A) (hBd : Bd ≤ w.heap.size) (hd : w.ownsRow Bd 5 1 (.slice ad ld.length cd) ld.length (ld.map (Value.int .u8)))
    (hcd : lc ≠ [] → ∀ k, Value.ownBlock (.slice ac lc.length cc) = some k → Value.ownBlock (.slice ad ld.length cd) ≠ some k)
    (w1 : World) (o1 : Out (Only r) w w1) (c1 : ∀ i, i < 12 → w1.cell? ⟨r, i, none⟩ = some (.int .u8 ((nonceL n).getD i 0))) :
    Calls Ybad.prog 28 #[.pointer (some ⟨A, 0, none⟩), .slice ad ld.length cd, .slice (some ⟨r, 0, none⟩) 12 12, .slice ac lc.length cc, .slice aa la.length ca] w1
      fun e w' => ∃ v ev, e = .returned (.tuple #[v, ev]) ∧ CMid A Bd r fl ck (calls + 1) n la lc ld (.slice ad ld.length cd) w v ev w' := by
  have hs := o1.size
  have hd1 : w1.ownsRow Bd 5 1 (.slice ad ld.length cd) ld.length (ld.map (Value.int .u8)) := by
    refine ⟨hd.1, ?_⟩
    rcases hd.2 with h | ⟨g, cap, cur, hv, hg', hh, rr⟩
    · exact .inl h
    · refine .inr ⟨g, cap, cur, hv, hg', ?_, rr⟩
      rw [o1.block g (by rcases Nat.lt_or_ge g w.heap.size with h | h; exact h; rw [Array.getElem?_eq_none h] at hh; cases hh) (fun e => by rw [hv] at hdr; cases e; exact hdr rfl)]
      exact hh
  have hdl : ∀ x, Value.ownBlock (.slice ad ld.length cd) = some x → x < w.heap.size := fun x hx => (hd.lt x hx).2
  refine (open_calls12 A Bd r fl ck calls n la lc ld ac aa ad cc ca cd w1 (by omega) hk0 hk1 (hrec.out o1 hA (fun e => hnA (by cases e; rfl))) c1
    (hc.out o1 (fun h0 k hk e => hcr h0 (by rw [hk, e]))) (ha.out o1 (fun h0 k hk e => har h0 (by rw [hk, e]))) hnA hcA haA zc za zd hn0 hn1 bc hdA (by omega) hd1 hcd).mono ?_
  rintro e w2 ⟨v, ev, he, h1, h2, h3, h4⟩
  have oo : Out (OrTwo A r (.slice ad ld.length cd)) w w2 := (o1.mono (fun _ e => Or.inr (Or.inl e))).trans h2 (fun x _ e => by
    rcases e with e | e
    · exact .inl e
    · exact .inr (.inr e))
  refine ⟨v, ev, he, h1.mono hs, oo, fun i hi => ?_, ?_, h3, fun body hf hb => ?_⟩
  · rw [h2.cell (p := ⟨r, i, none⟩) (by show r < w1.heap.size; omega) (fun e => ?_)]
    · exact c1 i hi
    · rcases e with e | e
      · exact hnA e
      · exact hdr e
  · rcases body_or fl ck lc (nonceL n) with h | ⟨hf, body, hb⟩
    · exact .inr (h3 h).2
    · exact .inl (h4 body hf hb).1
  · obtain ⟨q1, ar, cr, q2, q3, q4⟩ := h4 body hf hb
    exact ⟨q1, ar, cr, q2, q3, fun k hk => by
      rcases q4 k hk with h | h
      · exact .inl h
      · right; omega⟩

set_option maxHeartbeats 4000000 in
theorem copen_calls (A Bd r C : Nat) (f : Nat → Int) (fl ck : Bool) (calls n : Int) (la lc ld : List Int) (ac aa ad : Option Addr) (cc ca cd : Nat) (ge : Value) (w : World)
    (hA : A < w.heap.size) (hk0 : 0 ≤ calls) (hk1 : calls ≤ 1000)
    (hrec : Rec0 w A fl ck calls)
    (hC : C < w.heap.size) (hcC : w.cell? ⟨C, 0, none⟩ = some (.iface 25 (.pointer (some ⟨A, 0, none⟩)))) (hCr : C ≠ r)
    (hr : r < w.heap.size) (hrc : ∀ i, i < 12 → w.cell? ⟨r, i, none⟩ = some (.int .u8 (f i))) (hrf : ∀ i, w.frozen? ⟨r, i, none⟩ = false)
    (hg : w.cell? ⟨0, 0, none⟩ = some ge) (hA0 : A ≠ 0) (hr0 : r ≠ 0) (hd0 : Value.ownBlock (.slice ad ld.length cd) ≠ some 0)
    (hc : Bs w (.slice ac lc.length cc) lc) (ha : Bs w (.slice aa la.length ca) la)
    (hnA : r ≠ A) (hcA : lc ≠ [] → Value.ownBlock (.slice ac lc.length cc) ≠ some A) (haA : la ≠ [] → Value.ownBlock (.slice aa la.length ca) ≠ some A)
    (hcr : lc ≠ [] → Value.ownBlock (.slice ac lc.length cc) ≠ some r) (har : la ≠ [] → Value.ownBlock (.slice aa la.length ca) ≠ some r) (hdr : Value.ownBlock (.slice ad ld.length cd) ≠ some r)
    (zc : lc.length ≤ 2048) (za : la.length ≤ 2048) (zd : ld.length ≤ 2048) (hn0 : 0 ≤ n) (hn1 : n < 18446744073709551616) (bc : Bytes lc)
    (hdA : Value.ownBlock (.slice ad ld.length cd) ≠ some A) (hBd : Bd ≤ w.heap.size) (hd : w.ownsRow Bd 5 1 (.slice ad ld.length cd) ld.length (ld.map (Value.int .u8)))
    (hcd : lc ≠ [] → ∀ k, Value.ownBlock (.slice ac lc.length cc) = some k → Value.ownBlock (.slice ad ld.length cd) ≠ some k) :
    Calls Ybad.prog 5 #[.pointer (some ⟨C, 0, none⟩), .slice ad ld.length cd, .int .u64 n, .slice aa la.length ca, .slice ac lc.length cc, .pointer (some ⟨r, 0, none⟩)] w
      (COpenPost A Bd r fl ck (calls + 1) n la lc ld (.slice ad ld.length cd) ge w) := by
  go_enter Ybad.func5, Ybad.ntmps5
  have hsec := copen_second A Bd r C f fl ck calls n la lc ld ac aa ad cc ca cd ge w hA hk0 hk1 hrec hC hcC hCr hr hrc hrf hg hA0 hr0 hd0 hc ha hnA hcA haA hcr har hdr zc za zd hn0 hn1 bc hdA hBd hd hcd
  have HSEC := hide hsec
  clear hsec hd hc ha hcd
  go_upto_region 1 with fail
  go_cut [14, 15, 16] (fun s14 s15 _ wc => CMid A Bd r fl ck (calls + 1) n la lc ld (.slice ad ld.length cd) w s14 s15 wc)
  case first =>
    go_region_with (first
      | (go_at_call 9; refine (nonce_calls r f n _ ?_ hn0 hn1 ?_ ?_).mono ?_; exact hr; exact hrc; exact hrf; rintro e w1 ⟨rfl, o1, c1⟩; have hcC1 : w1.cell? ⟨C, 0, none⟩ = some (.iface 25 (.pointer (some ⟨A, 0, none⟩))) := (o1.cell (p := ⟨C, 0, none⟩) hC hCr).trans hcC)
      | (go_at_call 28; refine (HSEC.out _ ?_ ?_).mono ?_; exact ⟨o1.os, o1.tape, o1.output, o1.size, o1.block⟩; exact c1; rintro e w2 ⟨v, ev, rfl, hmid⟩))
    all_goals
      go_wp2_with fail
      go_meet
      case rel => exact hmid
  case rest =>
    have HM := hide hcut
    have h4 := hcut.2.2.2.1
    have hg1 : wc.cell? ⟨0, 0, none⟩ = some ge := (hcut.2.1.cell (p := ⟨0, 0, none⟩) (by show 0 < w.heap.size; omega) (fun e => by
      rcases e with e | e | e
      · exact hA0 e.symm
      · exact hr0 e.symm
      · exact hd0 e)).trans hg
    clear hcut
    rcases h4 with rfl | ⟨p, rfl⟩
    · go_wp2_with fail
      go_ret2
      obtain ⟨m1, m2, m3, m4, m5, m6⟩ := HM.out
      refine ⟨_, _, rfl, m1, m2, m3, ?_, m6⟩
      intro h
      obtain ⟨_, q, hq⟩ := m5 h
      cases hq
    · go_wp2_with fail
      go_region
      go_wp2_with fail
      go_ret2
      obtain ⟨m1, m2, m3, m4, m5, m6⟩ := HM.out
      have o' : Out NoOne wc wc.drew := (Out.refl _ wc).drew
      exact ⟨_, _, rfl, m1.out o' (Nat.lt_of_lt_of_le hA m2.size) (fun f => f) (fun _ _ f => f), m2.drew, m3, fun _ => ⟨rfl, rfl⟩, fun body hf hb => absurd (m6 body hf hb).1 (by simp)⟩
end Go.Proofs.YbulkcdyDoor.noise
