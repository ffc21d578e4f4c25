/- The walk of LawS0154BRoundTrip (function 4) where no slice is longer than 1024. -/
import Derived.Test.YbulkcdyDoorSeal
namespace Go.Proofs.YbulkcdyDoor.noise
open Go Go.ChangeShapes Go.WideShapes Go.ChangeAt Go.RowKit
set_option linter.unusedVariables false

theorem xor_byte (c : Int) (h0 : 0 ≤ c) (h1 : c < 256) : 0 ≤ bits .xor .u8 c 90 ∧ bits .xor .u8 c 90 < 256 ∧ bits .xor .u8 (bits .xor .u8 c 90) 90 = c := by
  obtain ⟨a, rfl⟩ := Int.eq_ofNat_of_zero_le h0
  have ha : a < 256 := by omega
  have e1 : bits .xor .u8 (a : Int) 90 = ((a ^^^ 90 : Nat) : Int) := u8_xor_nat a 90 ha (by decide)
  have h2 : a ^^^ 90 < 256 := Nat.xor_lt_two_pow (n := 8) ha (by decide)
  rw [e1]
  refine ⟨by omega, by omega, ?_⟩
  have e2 : bits .xor .u8 ((a ^^^ 90 : Nat) : Int) 90 = ((a ^^^ 90 ^^^ 90 : Nat) : Int) := u8_xor_nat _ 90 h2 (by decide)
  rw [e2, Nat.xor_assoc, Nat.xor_self, Nat.xor_zero]

theorem Xor_bytes {l : List Int} (h : Bytes l) : Bytes (Xor l) := by
  intro x hx
  obtain ⟨c, hc, rfl⟩ := List.mem_map.1 hx
  have := xor_byte c (h c hc).1 (h c hc).2
  exact ⟨this.1, this.2.1⟩
theorem Xor_Xor {l : List Int} (h : Bytes l) : Xor (Xor l) = l := by
  unfold Xor
  rw [List.map_map]
  conv => rhs; rw [← List.map_id l]
  exact List.map_congr_left (fun c hc => (xor_byte c (h c hc).1 (h c hc).2).2.2)
theorem Bytes.append {l m : List Int} (h : Bytes l) (k : Bytes m) : Bytes (l ++ m) := fun x hx => (List.mem_append.1 hx).elim (h x) (k x)

theorem flip (n : Int) (h0 : 0 ≤ n) (h1 : n < 18446744073709551616) : 0 ≤ bits .xor .u64 n 1 ∧ bits .xor .u64 n 1 < 18446744073709551616 ∧ bits .xor .u64 n 1 ≠ n := by
  obtain ⟨a, rfl⟩ := Int.eq_ofNat_of_zero_le h0
  have ha : a < 18446744073709551616 := by omega
  have e1 : bits .xor .u64 (a : Int) 1 = ((a ^^^ 1 : Nat) : Int) := u64_xor_nat a 1 ha (by decide)
  have h2 : a ^^^ 1 < 18446744073709551616 := Nat.xor_lt_two_pow (n := 64) ha (by decide)
  rw [e1]
  refine ⟨by omega, by omega, fun h => ?_⟩
  have h3 : a ^^^ 1 = a := by omega
  have h4 : (a ^^^ 1).testBit 0 = a.testBit 0 := by rw [h3]
  rw [Nat.testBit_xor] at h4
  simp at h4

theorem tail_ne {l a b body : List Int} (hl : a.length = b.length) (hne : a ≠ b) : l ++ a ≠ body ++ b := by
  intro h
  exact hne (List.append_inj_right' h hl)

/-- The five new blocks of law 4: the record at N, the Cipher at N + 1, three rooms. -/
structure Ready4 (w V : World) : Prop where
  out : Out NoOne w V
  size : V.heap.size = w.heap.size + 5
  rec0 : Rec0 V w.heap.size false true 0
  cC : V.cell? ⟨w.heap.size + 1, 0, none⟩ = some (.iface 25 (.pointer (some ⟨w.heap.size, 0, none⟩)))
  c1 : ∀ i, i < 12 → V.cell? ⟨w.heap.size + 1 + 1, i, none⟩ = some (.int .u8 0)
  c2 : ∀ i, i < 12 → V.cell? ⟨w.heap.size + 1 + 1 + 1, i, none⟩ = some (.int .u8 0)
  c3 : ∀ i, i < 12 → V.cell? ⟨w.heap.size + 1 + 1 + 1 + 1, i, none⟩ = some (.int .u8 0)
  f1 : ∀ i, V.frozen? ⟨w.heap.size + 1 + 1, i, none⟩ = false
  f2 : ∀ i, V.frozen? ⟨w.heap.size + 1 + 1 + 1, i, none⟩ = false
  f3 : ∀ i, V.frozen? ⟨w.heap.size + 1 + 1 + 1 + 1, i, none⟩ = false

theorem at_new (w : World) (N : Nat) (hN : w.heap.size = N) (c : Array Value) (t : TypeId) (i : Nat) : (w.alloc (.cells c t)).cell? ⟨N, i, none⟩ = c[i]? := by
  subst hN; exact World.cell?_alloc_new w c t i

theorem ready4 (w : World) : Ready4 w (((((w.alloc (.cells #[.bool false, .bool true, .int .i64 0, .slice none 0 0, .slice none 0 0, .slice none 0 0] 27)).alloc (.cells #[.iface 25 (.pointer (some ⟨w.heap.size, 0, none⟩))] 32)).alloc (.cells #[.int .u8 0, .int .u8 0, .int .u8 0, .int .u8 0, .int .u8 0, .int .u8 0, .int .u8 0, .int .u8 0, .int .u8 0, .int .u8 0, .int .u8 0, .int .u8 0] 24)).alloc (.cells #[.int .u8 0, .int .u8 0, .int .u8 0, .int .u8 0, .int .u8 0, .int .u8 0, .int .u8 0, .int .u8 0, .int .u8 0, .int .u8 0, .int .u8 0, .int .u8 0] 24)).alloc (.cells #[.int .u8 0, .int .u8 0, .int .u8 0, .int .u8 0, .int .u8 0, .int .u8 0, .int .u8 0, .int .u8 0, .int .u8 0, .int .u8 0, .int .u8 0, .int .u8 0] 24)) := by
  have tw : ∀ i, i < 12 → (#[.int .u8 0, .int .u8 0, .int .u8 0, .int .u8 0, .int .u8 0, .int .u8 0, .int .u8 0, .int .u8 0, .int .u8 0, .int .u8 0, .int .u8 0, .int .u8 0] : Array Value)[i]? = some (.int .u8 0) := by
    intro i hi
    have hi' : i = 0 ∨ i = 1 ∨ i = 2 ∨ i = 3 ∨ i = 4 ∨ i = 5 ∨ i = 6 ∨ i = 7 ∨ i = 8 ∨ i = 9 ∨ i = 10 ∨ i = 11 := by omega
    rcases hi' with rfl | rfl | rfl | rfl | rfl | rfl | rfl | rfl | rfl | rfl | rfl | rfl <;> rfl
  refine ⟨(((((Out.refl _ w).alloc _).alloc _).alloc _).alloc _).alloc _, by simp, ⟨by simp [go_sem], by simp [go_sem], by simp [go_sem], fun o => by simp [go_sem], .slice none 0 0, .slice none 0 0, .slice none 0 0, by simp [go_sem], by simp [go_sem], by simp [go_sem]⟩,
    by simp [go_sem], fun i hi => ?_, fun i hi => ?_, fun i hi => ?_, fun i => by simp [go_sem], fun i => by simp [go_sem], fun i => by simp [go_sem]⟩
  · rw [World.cell?_alloc_lt _ _ _ (by simp), World.cell?_alloc_lt _ _ _ (by simp), at_new _ _ (by simp)]; exact tw i hi
  · rw [World.cell?_alloc_lt _ _ _ (by simp), at_new _ _ (by simp)]; exact tw i hi
  · rw [at_new _ _ (by simp)]; exact tw i hi

/-- Law 4's state ahead of an Open: what was there stands; the record, the Cipher, the room r that is next, the sealed text. -/
structure St4 (w W : World) (r : Nat) (calls : Int) (q : List Int) (vs : Value) : Prop where
  out : Out NoOne w W
  size : w.heap.size + 5 ≤ W.heap.size
  rec0 : Rec0 W w.heap.size false true calls
  cC : W.cell? ⟨w.heap.size + 1, 0, none⟩ = some (.iface 25 (.pointer (some ⟨w.heap.size, 0, none⟩)))
  cr : ∀ i, i < 12 → W.cell? ⟨r, i, none⟩ = some (.int .u8 0)
  fr : ∀ i, W.frozen? ⟨r, i, none⟩ = false
  bs : Bs W vs q
  new : ∀ k, vs.ownBlock = some k → w.heap.size + 5 ≤ k

theorem law4_open (w W : World) (r : Nat) (calls n : Int) (q la : List Int) (asd aa : Option Addr) (cs ca : Nat) (pe : Addr) (S : St4 w W r calls q (.slice asd q.length cs)) (h0 : 0 ≤ calls) (h1 : calls ≤ 1000)
    (hr : w.heap.size + 1 < r) (hr5 : r < w.heap.size + 5) (ha : Arg w w.heap.size (.slice aa la.length ca) la) (zq : q.length ≤ 2048) (za : la.length ≤ 1024) (hn0 : 0 ≤ n) (hn1 : n < 18446744073709551616) (bq : Bytes q)
    (hw : 0 < w.heap.size) (hg : w.cell? ⟨0, 0, none⟩ = some (.iface 52 (.pointer (some pe)))) :
    Calls Ybad.prog 5 #[.pointer (some ⟨w.heap.size + 1, 0, none⟩), .slice none 0 0, .int .u64 n, .slice aa la.length ca, .slice asd q.length cs, .pointer (some ⟨r, 0, none⟩)] W
      (COpenPost w.heap.size W.heap.size r false true (calls + 1) n la q [] (.slice none 0 0) (.iface 52 (.pointer (some pe))) W) := by
  have hs := S.size
  exact copen_calls w.heap.size W.heap.size r (w.heap.size + 1) (fun _ => 0) false true calls n la q [] asd aa none cs ca 0 (.iface 52 (.pointer (some pe))) W
    (by omega) h0 h1 S.rec0 (by omega) S.cC (by omega) (by omega) S.cr S.fr ((S.out.cell (p := ⟨0, 0, none⟩) hw (fun f => f)).trans hg) (by omega) (by omega)
    (fun e => by cases e) S.bs (ha.bs.out S.out (fun _ _ _ f => f)) (by omega)
    (fun _ e => by have := S.new _ e; omega) (fun h0 e => by have := ha.old h0 _ e; omega) (fun _ e => by have := S.new _ e; omega) (fun h0 e => by have := ha.old h0 _ e; omega)
    (fun e => by cases e) (by omega) (by omega) (by decide) hn0 hn1 bq (fun e => by cases e) (Nat.le_refl _) (World.ownsRow_nil _ _ _ _) (fun _ _ _ e => by cases e)

theorem out_two {w W W' : World} {r : Nat} (o : Out NoOne w W) (h : Out (OrTwo w.heap.size r (.slice none 0 0)) W W') (hr : w.heap.size ≤ r) : Out NoOne w W' :=
  o.trans h (fun x hx e => by
    rcases e with e | e | e
    · omega
    · omega
    · cases e)

set_option maxRecDepth 100000 in
set_option maxHeartbeats 4000000 in
theorem law4_go (lp la : List Int) (ap aa : Option Addr) (cp ca : Nat) (n : Int) (pe : Addr) (w : World)
    (hp : Arg w w.heap.size (.slice ap lp.length cp) lp) (ha : Arg w w.heap.size (.slice aa la.length ca) la)
    (zp : lp.length ≤ 1024) (za : la.length ≤ 1024) (hn0 : 0 ≤ n) (hn1 : n < 18446744073709551616)
    (hw : 0 < w.heap.size) (hg : w.cell? ⟨0, 0, none⟩ = some (.iface 52 (.pointer (some pe)))) :
    Calls Ybad.prog 4 #[.slice ap lp.length cp, .slice aa la.length ca, .int .u64 n] w fun e w' => e = .returned (.bool true) ∧ Below w.heap.size w w' := by
  have HP := hide hp
  have HA := hide ha
  clear hp ha
  have RD := ready4 w
  go_enter Ybad.func4, Ybad.ntmps4
  go_upto_region 6 with fail
  generalize (((((w.alloc (.cells #[.bool false, .bool true, .int .i64 0, .slice none 0 0, .slice none 0 0, .slice none 0 0] 27)).alloc (.cells #[.iface 25 (.pointer (some ⟨w.heap.size, 0, none⟩))] 32)).alloc (.cells #[.int .u8 0, .int .u8 0, .int .u8 0, .int .u8 0, .int .u8 0, .int .u8 0, .int .u8 0, .int .u8 0, .int .u8 0, .int .u8 0, .int .u8 0, .int .u8 0] 24)).alloc (.cells #[.int .u8 0, .int .u8 0, .int .u8 0, .int .u8 0, .int .u8 0, .int .u8 0, .int .u8 0, .int .u8 0, .int .u8 0, .int .u8 0, .int .u8 0, .int .u8 0] 24)).alloc (.cells #[.int .u8 0, .int .u8 0, .int .u8 0, .int .u8 0, .int .u8 0, .int .u8 0, .int .u8 0, .int .u8 0, .int .u8 0, .int .u8 0, .int .u8 0, .int .u8 0] 24)) = V at *
  have oV := RD.out
  have sV := RD.size
  have hseal := cseal_calls w.heap.size (w.heap.size + 1 + 1) (w.heap.size + 1) (fun _ => 0) n lp ap aa cp la.length ca V (by omega) RD.cC (by omega) (by omega) RD.c1 RD.f1 (HP.out.bs.out oV (fun _ _ _ f => f)) zp
    (fun h0 e => by have := HP.out.old h0 _ e; omega) hn0 hn1
  have bq : Bytes (Xor lp ++ nonceL n) := (Xor_bytes HP.out.by').append (nonceL_bytes n hn0 hn1)
  have zq : (Xor lp ++ nonceL n).length ≤ 2048 := by
    have : (Xor lp ++ nonceL n).length = lp.length + 12 := by rw [List.length_append]; simp [Xor, nonceL]
    omega
  have hb1 : Body true (Xor lp ++ nonceL n) (nonceL n) (Xor lp) := .inr ⟨rfl, rfl⟩
  have fl := flip n hn0 hn1
  have hb2 : ∀ body, Xor lp ++ nonceL n ≠ body ++ nonceL (bits .xor .u64 n 1) := fun body => tail_ne rfl (fun h => fl.2.2 (nonceL_inj _ _ hn0 hn1 fl.1 fl.2.1 h).symm)
  generalize Xor lp ++ nonceL n = q at *
  have HB1 := hide hb1
  have HB2 := hide hb2
  have HS := hide hseal
  have HRD := hide RD
  have BQ := hide bq
  clear hseal RD oV hb1 hb2 bq
  go_wp2_with fail
  refine HS.out.mono ?_
  rintro e w1 ⟨asd, cs, rfl, own1, o1⟩
  have st1 : St4 w w1 (w.heap.size + 1 + 1 + 1) 0 q (.slice asd q.length cs) := by
    have hsz := o1.size
    refine ⟨HRD.out.out.trans o1 (fun x hx e => by cases e; omega), by omega, HRD.out.rec0.out o1 (by omega) (fun e => by have e : w.heap.size = w.heap.size + 1 + 1 := e; omega), ?_, fun i hi => ?_, fun i => ?_, (Bs.ofOwn own1).1, fun k hk => by have := (own1.lt k hk).1; omega⟩
    · rw [o1.cell (p := ⟨w.heap.size + 1, 0, none⟩) (by show w.heap.size + 1 < _; omega) (fun e => by have e : w.heap.size + 1 = w.heap.size + 1 + 1 := e; omega)]; exact HRD.out.cC
    · rw [o1.cell (p := ⟨w.heap.size + 1 + 1 + 1, i, none⟩) (by show w.heap.size + 1 + 1 + 1 < _; omega) (fun e => by have e : w.heap.size + 1 + 1 + 1 = w.heap.size + 1 + 1 := e; omega)]; exact HRD.out.c2 i hi
    · rw [o1.frozen (p := ⟨w.heap.size + 1 + 1 + 1, i, none⟩) (by show w.heap.size + 1 + 1 + 1 < _; omega) (fun e => by have e : w.heap.size + 1 + 1 + 1 = w.heap.size + 1 + 1 := e; omega)]; exact HRD.out.f2 i
  have r3c : ∀ i, i < 12 → w1.cell? ⟨w.heap.size + 1 + 1 + 1 + 1, i, none⟩ = some (.int .u8 0) := fun i hi => by
    rw [o1.cell (p := ⟨w.heap.size + 1 + 1 + 1 + 1, i, none⟩) (by show w.heap.size + 1 + 1 + 1 + 1 < _; omega) (fun e => by have e : w.heap.size + 1 + 1 + 1 + 1 = w.heap.size + 1 + 1 := e; omega)]; exact HRD.out.c3 i hi
  have r3f : ∀ i, w1.frozen? ⟨w.heap.size + 1 + 1 + 1 + 1, i, none⟩ = false := fun i => by
    rw [o1.frozen (p := ⟨w.heap.size + 1 + 1 + 1 + 1, i, none⟩) (by show w.heap.size + 1 + 1 + 1 + 1 < _; omega) (fun e => by have e : w.heap.size + 1 + 1 + 1 + 1 = w.heap.size + 1 + 1 := e; omega)]; exact HRD.out.f3 i
  have ho1 := law4_open w w1 (w.heap.size + 1 + 1 + 1) 0 n q la asd aa cs ca pe st1 (by omega) (by omega) (by omega) (by omega) HA.out zq za hn0 hn1 BQ.out hw hg
  have HO1 := hide ho1
  have ST1 := hide st1
  have R3C := hide r3c
  have R3F := hide r3f
  have OW1 := hide own1
  clear ho1 st1 r3c r3f own1 o1
  go_wp2_with fail
  refine HO1.out.mono ?_
  rintro e w2 ⟨v, ev, rfl, hrec, hout, _, _, hok⟩
  obtain ⟨e1, ar, cr, e2, own2, blk2⟩ := hok (Xor lp) rfl HB1.out
  have exx : [] ++ Xor (Xor lp) = lp := by rw [List.nil_append]; exact Xor_Xor HP.out.by'
  rw [exx] at e2 own2
  subst e1
  subst e2
  have o2 : Out NoOne w w2 := out_two ST1.out.out hout (by omega)
  have hs2 := hout.size
  have hs1 := ST1.out.size
  have nA : ∀ x, OrTwo w.heap.size (w.heap.size + 1 + 1 + 1) (.slice none 0 0) x → x = w.heap.size ∨ x = w.heap.size + 1 + 1 + 1 := fun x e => by
    rcases e with e | e | e
    · exact .inl e
    · exact .inr e
    · cases e
  have st2 : St4 w w2 (w.heap.size + 1 + 1 + 1 + 1) 1 q (.slice asd q.length cs) := by
    refine ⟨o2, by omega, hrec.toRec0, ?_, fun i hi => ?_, fun i => ?_, ST1.out.bs.out hout (fun _ k hk e => ?_), ST1.out.new⟩
    · rw [hout.cell (p := ⟨w.heap.size + 1, 0, none⟩) (by show w.heap.size + 1 < _; omega) (fun e => by have e : w.heap.size + 1 = _ ∨ w.heap.size + 1 = _ := nA _ e; omega)]; exact ST1.out.cC
    · rw [hout.cell (p := ⟨w.heap.size + 1 + 1 + 1 + 1, i, none⟩) (by show w.heap.size + 1 + 1 + 1 + 1 < _; omega) (fun e => by have e : w.heap.size + 1 + 1 + 1 + 1 = _ ∨ w.heap.size + 1 + 1 + 1 + 1 = _ := nA _ e; omega)]; exact R3C.out i hi
    · rw [hout.frozen (p := ⟨w.heap.size + 1 + 1 + 1 + 1, i, none⟩) (by show w.heap.size + 1 + 1 + 1 + 1 < _; omega) (fun e => by have e : w.heap.size + 1 + 1 + 1 + 1 = _ ∨ w.heap.size + 1 + 1 + 1 + 1 = _ := nA _ e; omega)]; exact R3F.out i
    · have := ST1.out.new k hk
      have := nA k e
      omega
  have ho2 := law4_open w w2 (w.heap.size + 1 + 1 + 1 + 1) 1 (bits .xor .u64 n 1) q la asd aa cs ca pe st2 (by omega) (by omega) (by omega) (by omega) HA.out zq za fl.1 fl.2.1 BQ.out hw hg
  have heq := equal_calls' (.slice ar lp.length cr) (.slice ap lp.length cp) lp lp w2 (Bs.ofOwn own2).1 (HP.out.bs.out o2 (fun _ _ _ f => f)) HP.out.by' HP.out.by'
  have HO2 := hide ho2
  have HEQ := hide heq
  have O2 := hide o2
  have hdec : decide (lp = lp) = true := by simp
  clear hrec hout hok own2 blk2 exx nA st2 ho2 heq o2 hs2 hs1
  go_wp2_with fail
  refine HEQ.out.mono ?_
  rintro e w2' ⟨rfl, rfl⟩
  go_wp2_with fail
  refine HO2.out.mono ?_
  rintro e w3 ⟨v, ev, rfl, _, hout, _, hbad, _⟩
  obtain ⟨e1, e2⟩ := hbad (.inr ⟨rfl, HB2.out⟩)
  subst e1
  subst e2
  have o3 : Out NoOne w w3 := out_two O2.out hout (by omega)
  have hg3 : w3.cell? ⟨0, 0, none⟩ = some (.iface 52 (.pointer (some pe))) := (o3.cell (p := ⟨0, 0, none⟩) hw (fun f => f)).trans hg
  have O3 := hide o3
  have hee := eq_err pe
  have hnl := eq_nil
  clear hout hbad o3
  go_wp2_with fail
  go_ret
  exact ⟨rfl, O3.out.below (Nat.le_refl _) (fun _ _ f => f)⟩
end Go.Proofs.YbulkcdyDoor.noise
