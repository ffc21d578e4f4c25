/- The walk of zzs0152bbuild (function 8). -/
import Derived.Test.YbulkccwQmRow
import Derived.BigRegion
import Derived.BigQuiet
import Derived.Deep.QuietTactic
import Derived.Deep.Cut
import Derived.Deep.DeepCutAuto
namespace Go.Proofs.Ybulkccw.qm
open Go Go.ChangeShapes Go.WideShapes Go.ChangeAt Go.RowKit
set_option linter.unusedVariables false
attribute [local go_sem ↓] putM_fold

def sA : ByteArray := ⟨#[65]⟩
def sB : ByteArray := ⟨#[66]⟩
def sx : ByteArray := ⟨#[120]⟩
def sy : ByteArray := ⟨#[121]⟩
def sd : ByteArray := ⟨#[100]⟩
def se : ByteArray := ⟨#[101]⟩
def tri (a b c : ByteArray) (n : Int) : ByteArray := if n % 3 = 0 then a else if n % 3 = 1 then b else c
/-- The message that a quadruple picks. -/
def pick (c s d t : Int) : Msg := ⟨tri e0 sA sB c, tri sx sy e0 s, tri e0 sd se d, t % 4⟩
/-- The messages that the quadruples X pick, n of them. -/
def picks (X : Nat → Nat → Int) (n : Nat) : List Msg := (List.range n).map fun j => pick (X j 0) (X j 1) (X j 2) (X j 3)

/-- What lies behind the head of build: the three tables. -/
structure Tabs (N : Nat) (V : World) : Prop where
  c : ∀ x : Int, 0 ≤ x → V.cell? ⟨N, (x % 3).toNat, none⟩ = some (.string (tri e0 sA sB x))
  s : ∀ x : Int, 0 ≤ x → V.cell? ⟨N + 1, (x % 3).toNat, none⟩ = some (.string (tri sx sy e0 x))
  d : ∀ x : Int, 0 ≤ x → V.cell? ⟨N + 1 + 1, (x % 3).toNat, none⟩ = some (.string (tri e0 sd se x))

theorem tri_cell {a b c : ByteArray} {V : World} {N : Nat} (h0 : V.cell? ⟨N, 0, none⟩ = some (.string a)) (h1 : V.cell? ⟨N, 1, none⟩ = some (.string b)) (h2 : V.cell? ⟨N, 2, none⟩ = some (.string c)) (x : Int) (hx : 0 ≤ x) :
    V.cell? ⟨N, (x % 3).toNat, none⟩ = some (.string (tri a b c x)) := by
  have : x % 3 = 0 ∨ x % 3 = 1 ∨ x % 3 = 2 := by omega
  unfold tri
  rcases this with e | e | e <;> rw [e] <;> first | exact h0 | exact h1 | exact h2

theorem Tabs.out {S : Nat → Prop} {N : Nat} {V V' : World} (h : Tabs N V) (o : Out S V V') (hs : ∀ k, k < 3 → ¬ S (N + k)) (hN : N + 3 ≤ V.heap.size) : Tabs N V' :=
  ⟨fun x hx => by rw [o.cell (p := ⟨N, _, none⟩) (by show N < _; omega) (hs 0 (by decide))]; exact h.c x hx,
   fun x hx => by rw [o.cell (p := ⟨N + 1, _, none⟩) (by show N + 1 < _; omega) (hs 1 (by decide))]; exact h.s x hx,
   fun x hx => by rw [o.cell (p := ⟨N + 1 + 1, _, none⟩) (by show N + 1 + 1 < _; omega) (hs 2 (by decide))]; exact h.d x hx⟩

theorem tri_block {a b c : ByteArray} {V : World} {N : Nat} (h : V.heap[N]? = some (.cells #[.string a, .string b, .string c] 40)) (x : Int) (hx : 0 ≤ x) : V.cell? ⟨N, (x % 3).toNat, none⟩ = some (.string (tri a b c x)) :=
  tri_cell (by simp [World.cell?, h]) (by simp [World.cell?, h]) (by simp [World.cell?, h]) x hx

theorem tabs_start (w : World) (o : Obj) : Tabs w.heap.size ((((w.alloc (.cells #[.string ⟨#[]⟩, .string ⟨#[65]⟩, .string ⟨#[66]⟩] 40)).alloc (.cells #[.string ⟨#[120]⟩, .string ⟨#[121]⟩, .string ⟨#[]⟩] 40)).alloc (.cells #[.string ⟨#[]⟩, .string ⟨#[100]⟩, .string ⟨#[101]⟩] 40)).alloc o) := by
  refine ⟨tri_block (a := ⟨#[]⟩) (b := ⟨#[65]⟩) (c := ⟨#[66]⟩) ?_, tri_block (a := ⟨#[120]⟩) (b := ⟨#[121]⟩) (c := ⟨#[]⟩) ?_, tri_block (a := ⟨#[]⟩) (b := ⟨#[100]⟩) (c := ⟨#[101]⟩) ?_⟩
  · rw [Deep.blk_alloc_lt _ _ _ (by simp; omega), Deep.blk_alloc_lt _ _ _ (by simp; omega), Deep.blk_alloc_lt _ _ _ (by simp), Deep.blk_alloc_new]
  · rw [Deep.blk_alloc_lt _ _ _ (by simp), Deep.blk_alloc_lt _ _ _ (by simp)]
    exact new_at (by simp)
  · rw [Deep.blk_alloc_lt _ _ _ (by simp)]
    exact new_at (by simp)

/-- What build leaves: n messages in a new block. -/
def Built (w : World) (n cap : Nat) (ms : List Msg) (e : Ending) (w' : World) : Prop :=
  ∃ B, w.heap.size ≤ B ∧ e = .returned (.slice (some ⟨B, 0, none⟩) n cap) ∧ Out NoOne w w' ∧ Row w' B cap n (fun j => ms.getD j .zero)

set_option maxRecDepth 100000 in
set_option maxHeartbeats 2000000 in
theorem build_calls (p : Option Addr) (n cap r : Nat) (X : Nat → Nat → Int) (w : World) (hn : n ≤ 1024) (hr : r < 256) (hX : ∀ j i, 0 ≤ X j i ∧ X j i ≤ 255)
    (hc : 0 < n → ∃ b off, p = some ⟨b, off, none⟩ ∧ b < w.heap.size ∧ ∀ j, j < n → ∀ i, i < 4 → w.cell? ⟨b, off + j * 4 + i, none⟩ = some (.int .u8 (X j i))) :
    Calls Yba.prog 8 #[.slice p n cap, .int .u8 r] w (Built w n (n + r % 4) (picks X n)) := by
  have hmk := make_ms n (n + r % 4) ((n : Int) + (r : Int) % 4) (by omega) (by omega) (by omega)
  go_enter Yba.func8, Yba.ntmps8
  go_wp2_with fail
  go_loopw [9, 10] (fun i _ wr => ∃ (k : Nat), k ≤ n ∧ i = .int .i64 k ∧ Tabs w.heap.size wr ∧ Out NoOne w wr ∧ w.heap.size + 1 + 1 + 1 < wr.heap.size ∧
      ∃ M, Row wr (w.heap.size + 1 + 1 + 1) (n + r % 4) n M ∧ ∀ j, j < k → M j = pick (X j 0) (X j 1) (X j 2) (X j 3)) (fun i _ _ => n - (intOf i).toNat)
  case atStart =>
    refine ⟨0, Nat.zero_le _, rfl, tabs_start w _, ((((Out.refl _ w).alloc _).alloc _).alloc _).alloc _, by simp, fun _ => .zero, ?_, fun j hj => absurd hj (Nat.not_lt_zero _)⟩
    exact Row.made _ (n + r % 4) n _ (by omega) (by simp)
  case round =>
    obtain ⟨k, hk, rfl, hT, hout, hsz, M, hrow, hf⟩ := hrel
    by_cases hlt : k < n
    · obtain ⟨b, off, rfl, hb, hc⟩ := hc (by omega)
      have i0 := (hout.cell (p := ⟨b, off + k * 4 + 0, none⟩) hb (fun f => f)).trans (hc k hlt 0 (by decide))
      have i1 := (hout.cell (p := ⟨b, off + k * 4 + 1, none⟩) hb (fun f => f)).trans (hc k hlt 1 (by decide))
      have i2 := (hout.cell (p := ⟨b, off + k * 4 + 2, none⟩) hb (fun f => f)).trans (hc k hlt 2 (by decide))
      have i3 := (hout.cell (p := ⟨b, off + k * 4 + 3, none⟩) hb (fun f => f)).trans (hc k hlt 3 (by decide))
      rw [Nat.add_zero] at i0
      have x0 := hX k 0
      have x1 := hX k 1
      have x2 := hX k 2
      have x3 := hX k 3
      have zb : b < wr.heap.size := by omega
      have HM := hide hf
      have hOr : Out NoOne wr (wr.alloc (.cells #[.int .u8 (X k 0), .int .u8 (X k 1), .int .u8 (X k 2), .int .u8 (X k 3)] 42)) := (Out.refl _ wr).alloc _
      have hT' := hT.out hOr (fun _ _ f => f) (by omega)
      have hrow' := hrow.out hOr (fun f => f)
      have hO' := hout.trans hOr (fun _ _ f => f)
      have y0 : ∀ o, (wr.alloc (.cells #[.int .u8 (X k 0), .int .u8 (X k 1), .int .u8 (X k 2), .int .u8 (X k 3)] 42)).cell? ⟨wr.heap.size, o, none⟩ = (#[.int .u8 (X k 0), .int .u8 (X k 1), .int .u8 (X k 2), .int .u8 (X k 3)] : Array Value)[o]? := fun o => World.cell?_alloc_new _ _ _ _
      have t0 := hT'.c (X k 0) x0.1
      have t1 := hT'.s (X k 1) x1.1
      have t2 := hT'.d (X k 2) x2.1
      have HY := hide (And.intro hOr (And.intro hT' (And.intro hrow' hO')))
      clear hc hX hrow hT hout hf hmk hOr hT' hrow' hO'
      go_upto_region 9 with fail
      generalize wr.alloc (.cells #[.int .u8 (X k 0), .int .u8 (X k 1), .int .u8 (X k 2), .int .u8 (X k 3)] 42) = Y at *
      have hth : Y.drew.there (w.heap.size + 1 + 1 + 1) (k * 15) 15 := (World.there_drew ..).2 (HY.out.2.2.1.there (by omega))
      have hst : Sem.run Yba.prog (putM (.pointer (some ⟨w.heap.size + 1 + 1 + 1, k * 15, none⟩)) (.agg #[.string (tri e0 sA sB (X k 0)), .string (tri sx sy e0 (X k 1)), .string ⟨#[]⟩, .string (tri e0 sd se (X k 2)), .bool false, .string ⟨#[]⟩, .string ⟨#[]⟩, .string ⟨#[]⟩, .string ⟨#[]⟩, .slice none 0 0, .bool false, .slice none 0 0, .int .i64 (X k 3 % 4), .slice none 0 0, .string ⟨#[]⟩])) Y.drew =
        .ok () (Y.drew.setCells (w.heap.size + 1 + 1 + 1) (k * 15) (mcells (pick (X k 0) (X k 1) (X k 2) (X k 3)))) := run_putM Y.drew _ _ (pick (X k 0) (X k 1) (X k 2) (X k 3)) hth
      generalize hZ : Y.drew.setCells (w.heap.size + 1 + 1 + 1) (k * 15) (mcells (pick (X k 0) (X k 1) (X k 2) (X k 3))) = Z at hst
      have HZ := hide hZ
      clear hZ hth i0 i1 i2 i3
      go_region
      go_wp2_with fail
      case roundEnd =>
        have hZ := HZ.out
        subst hZ
        refine ⟨⟨k + 1, by omega, rfl, ?_, ?_, ?_, _, (HY.out.2.2.1.drew.put k hlt _), fun j hj => ?_⟩, by simp only [intOf]; omega⟩
        · exact HY.out.2.1.out (Out.put Y _ _ _) (fun k hk (e : _ = _) => by omega) (by have := HY.out.1.size; omega)
        · exact (HY.out.2.2.2.trans (Out.put Y _ _ _) (fun x hx (e : _ = _) => by omega))
        · have := (Out.put Y (w.heap.size + 1 + 1 + 1) (k * 15) (mcells (pick (X k 0) (X k 1) (X k 2) (X k 3)))).size
          have := HY.out.1.size
          omega
        · show (if j = k then _ else M j) = _
          by_cases e : j = k
          · rw [if_pos e, e]
          · rw [if_neg e]; exact HM.out j (by omega)
    · obtain rfl : k = n := by omega
      have HM := hide (And.intro hout (And.intro hrow hf))
      clear hc hX hrow hT hout hf hmk
      go_wp2_with fail
      go_ret
      refine ⟨_, ?_, rfl, HM.out.1, HM.out.2.1.congr fun j hj => ?_⟩
      · omega
      · rw [HM.out.2.2 j hj]
        simp [picks, List.getD, hj]
end Go.Proofs.Ybulkccw.qm
