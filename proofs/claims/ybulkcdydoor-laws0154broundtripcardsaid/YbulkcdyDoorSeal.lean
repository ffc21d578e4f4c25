/- The walks of the stand-in AEAD's Seal (function 29) and of (*Cipher).Seal (function 8). -/
import Derived.Test.YbulkcdyDoorAid
namespace Go.Proofs.YbulkcdyDoor.noise
open Go Go.ChangeShapes Go.WideShapes Go.ChangeAt Go.RowKit
set_option linter.unusedVariables false

/-- What a call of the stand-in's Seal, and of Cipher.Seal, comes to, the destination nil. -/
def SealPost (S : Nat → Prop) (r : List Int) (w : World) (e : Ending) (w' : World) : Prop :=
  ∃ ar cr, e = .returned (.slice ar r.length cr) ∧ w'.ownsRow w.heap.size 5 1 (.slice ar r.length cr) r.length (r.map (Value.int .u8)) ∧ Out S w w'

set_option maxRecDepth 100000 in
set_option maxHeartbeats 4000000 in
theorem seal_calls (A r : Nat) (n : Int) (lp : List Int) (ap aa : Option Addr) (cp la ca : Nat) (w : World)
    (hn : ∀ i, i < 12 → w.cell? ⟨r, i, none⟩ = some (.int .u8 ((nonceL n).getD i 0))) (hp : Bs w (.slice ap lp.length cp) lp) (zp : lp.length ≤ 1024) :
    Calls Ybad.prog 29 #[.pointer (some ⟨A, 0, none⟩), .slice none 0 0, .slice (some ⟨r, 0, none⟩) 12 12, .slice ap lp.length cp, .slice aa la ca] w
      (SealPost NoOne (Xor lp ++ nonceL n) w) := by
  have HP := hide hp
  have HN := hide (Bs.mk (w := w) (b := r) (off := 0) (n := 12) (cap := 12) (l := nonceL n) rfl (Nat.le_refl _) (by decide) (fun i hi => by rw [Nat.zero_add]; exact hn i hi))
  clear hp hn
  go_enter Ybad.func29, Ybad.ntmps29
  go_wp2_with fail
  go_loopw [11, 12] (fun v i wr => ∃ (k : Nat) (ar : Option Addr) (cr : Nat) (q : List Int), k ≤ lp.length ∧ i = .int .i64 k ∧ v = .slice ar q.length cr ∧ Hid (q = [] ++ Xor (lp.take k)) ∧
      wr.ownsRow w.heap.size 5 1 (.slice ar q.length cr) q.length (q.map (Value.int .u8)) ∧ Out NoOne w wr) (fun _ i _ => lp.length - (intOf i).toNat)
  case atStart => exact ⟨0, none, 0, [], Nat.zero_le _, rfl, rfl, hide (by simp [Xor]), World.ownsRow_nil _ _ _ _, Out.refl _ _⟩
  case round =>
    obtain ⟨k, ar, cr, q, hk, rfl, rfl, HR, hown, hout⟩ := hrel
    have hrl : q.length ≤ 1024 := by rw [HR.out]; simp [Xor]; omega
    have HOWN := hide hown
    have HOUT := hide hout
    have hwz := hout.size
    by_cases hlt : k < lp.length
    · have hbr : Bs wr (.slice ap lp.length cp) lp := HP.out.out hout (fun _ _ _ f => f)
      obtain ⟨b, off, hab, hlb, hcb, hcell⟩ := hbr.plain (by omega)
      subst hab
      have hck := hcell k hlt
      clear hcell hbr hown hout
      unfold maxLen at hcb
      go_wp2_with (at_builtin; refine wpList_append_bs rfl _ _ rfl w.heap.size (.slice ar q.length cr) q [bits .xor .u8 (lp.getD k 0) 90] (q ++ [bits .xor .u8 (lp.getD k 0) 90]) rfl rfl (HOWN.out.alloc _) (.slice (some ⟨wr.heap.size, 0, none⟩) 1 1) rfl ?hx ?hy ?hz ?_)
      case hx => exact one_new _ _ _ (by simp [List.getElem?_eq_getElem hlt])
      case hy => simp; omega
      case hz => simp; omega
      intro ar' cr' w' hown' hg' hb'
      have R1 : Out NoOne w w' := (HOUT.out.alloc _).grown hg' (fun x e hx => by
        have := (HOWN.out.lt x e).1
        omega)
      have R3 := hide hown'
      have R1' := hide R1
      clear hown' hg' hb' R1
      go_wp2_with fail
      go_roundw
      case rel =>
        refine ⟨k + 1, ar', cr', q ++ [bits .xor .u8 (lp.getD k 0) 90], by omega, by go_num, by simp, hide (xor_snoc [] lp q k hlt HR.out), ?_, R1'.out⟩
        have := R3.out
        simpa [List.getElem?_eq_getElem hlt] using this
      case measure => simp [intOf]; omega
    · clear hown hout
      have hq : q = Xor lp := by have h := HR.out; rw [List.take_of_length_le (by omega)] at h; simpa using h
      have HQ := hide hq
      clear hq
      go_wp2_with (at_builtin; refine wpList_append_bs rfl _ _ rfl w.heap.size (.slice ar q.length cr) q (nonceL n) (q ++ nonceL n) rfl rfl HOWN.out (.slice (some ⟨r, 0, none⟩) 12 12) rfl ?hx ?hy ?hz ?_)
      case hx => exact HN.out.out HOUT.out (fun _ _ _ f => f)
      case hy => show q.length + 12 ≤ 1000000; omega
      case hz => exact hwz
      intro ar' cr' w' hown' hg' hb'
      have R1 : Out NoOne w w' := HOUT.out.grown hg' (fun x e hx => by
        have := (HOWN.out.lt x e).1
        omega)
      have R3 := hide hown'
      have R1' := hide R1
      clear hown' hg' hb' R1
      go_wp2_with fail
      go_ret
      have hl : q.length + (nonceL n).length = (Xor lp ++ nonceL n).length := by rw [HQ.out, List.length_append]
      have h3 := R3.out
      rw [hl, ← List.map_append, HQ.out] at h3
      exact ⟨ar', cr', by rw [← hl]; rfl, h3, R1'.out⟩

theorem cseal_second (A r : Nat) (n : Int) (lp : List Int) (ap aa : Option Addr) (cp la ca : Nat) (w : World) (hp : Bs w (.slice ap lp.length cp) lp) (zp : lp.length ≤ 1024)
    (hpr : lp ≠ [] → Value.ownBlock (.slice ap lp.length cp) ≠ some r)
    (w1 : World) (o1 : Out (Only r) w w1) (c1 : ∀ i, i < 12 → w1.cell? ⟨r, i, none⟩ = some (.int .u8 ((nonceL n).getD i 0))) :
    Calls Ybad.prog 29 #[.pointer (some ⟨A, 0, none⟩), .slice none 0 0, .slice (some ⟨r, 0, none⟩) 12 12, .slice ap lp.length cp, .slice aa la ca] w1
      (SealPost (Only r) (Xor lp ++ nonceL n) w) := by
  refine (seal_calls A r n lp ap aa cp la ca w1 c1 (hp.out o1 (fun h0 k hk e => hpr h0 (by rw [hk, e]))) zp).mono ?_
  rintro e w2 ⟨ar, cr, he, ho, o2⟩
  refine ⟨ar, cr, he, ⟨ho.1, ?_⟩, o1.trans o2 (fun _ _ f => f.elim)⟩
  have hs := o1.size
  rcases ho.2 with h | ⟨g, cap, cur, hv, hg, rr⟩
  · exact .inl h
  · exact .inr ⟨g, cap, cur, hv, by omega, rr⟩

set_option maxRecDepth 100000 in
set_option maxHeartbeats 4000000 in
theorem cseal_calls (A r C : Nat) (f : Nat → Int) (n : Int) (lp : List Int) (ap aa : Option Addr) (cp la ca : Nat) (w : World)
    (hC : C < w.heap.size) (hcC : w.cell? ⟨C, 0, none⟩ = some (.iface 25 (.pointer (some ⟨A, 0, none⟩)))) (hCr : C ≠ r)
    (hr : r < w.heap.size) (hrc : ∀ i, i < 12 → w.cell? ⟨r, i, none⟩ = some (.int .u8 (f i))) (hrf : ∀ i, w.frozen? ⟨r, i, none⟩ = false)
    (hp : Bs w (.slice ap lp.length cp) lp) (zp : lp.length ≤ 1024) (hpr : lp ≠ [] → Value.ownBlock (.slice ap lp.length cp) ≠ some r) (hn0 : 0 ≤ n) (hn1 : n < 18446744073709551616) :
    Calls Ybad.prog 8 #[.pointer (some ⟨C, 0, none⟩), .slice none 0 0, .int .u64 n, .slice aa la ca, .slice ap lp.length cp, .pointer (some ⟨r, 0, none⟩)] w
      (SealPost (Only r) (Xor lp ++ nonceL n) w) := by
  have hsec := cseal_second A r n lp ap aa cp la ca w hp zp hpr
  generalize Xor lp ++ nonceL n = q at hsec ⊢
  have HSEC := hide hsec
  clear hsec hp
  go_enter Ybad.func8, Ybad.ntmps8
  go_upto_region 1 with fail
  go_region_with (first
    | (go_at_call 9; refine (nonce_calls r f n _ ?_ hn0 hn1 ?_ ?_).mono ?_; exact hr; exact hrc; exact hrf; rintro e w1 ⟨rfl, o1, c1⟩; have hcC1 : w1.cell? ⟨C, 0, none⟩ = some (.iface 25 (.pointer (some ⟨A, 0, none⟩))) := (o1.cell (p := ⟨C, 0, none⟩) hC hCr).trans hcC)
    | (go_at_call 29; refine (HSEC.out _ ?_ ?_).mono ?_; exact ⟨o1.os, o1.tape, o1.output, o1.size, o1.block⟩; exact c1; rintro e w2 ⟨ar, cr, rfl, hmid⟩))
  all_goals
    go_wp2_with fail
    go_ret
    exact ⟨ar, cr, rfl, hmid⟩
end Go.Proofs.YbulkcdyDoor.noise
