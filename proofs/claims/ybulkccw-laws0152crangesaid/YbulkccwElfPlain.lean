/- The plain law of the two hashes: one round of each, in the walk's own spelling, and that the two agree. No Go in sight. -/
import Derived.Laws.BitsAllLaws
namespace Go.Proofs.Ybulkccw.elf
open Go

/-- One round of 'Update': the hash y, the byte c. -/
def updStep (y c : Int) : Int :=
  bits .andNot .u32
    (if (bits .and .u32 ((y * 16 + c) % 4294967296) 4026531840 != 0) = true
      then bits .xor .u32 ((y * 16 + c) % 4294967296) (bits .and .u32 ((y * 16 + c) % 4294967296) 4026531840 / 16777216)
      else (y * 16 + c) % 4294967296)
    (bits .and .u32 ((y * 16 + c) % 4294967296) 4026531840)

/-- One round of the model. -/
def modStep (y c : Int) : Int :=
  bits .and .u32 (bits .xor .u32 ((y * 16 + c) % 4294967296) ((y * 16 + c) % 4294967296 / 268435456 * 16)) 268435455

theorem mask_bit (i : Nat) : (4026531840 : Nat).testBit i = (decide (i < 32) && !decide (i < 28)) := by
  rw [show (4026531840 : Nat) = 2 ^ 32 - (268435455 + 1) from rfl, Nat.testBit_two_pow_sub_succ (by decide), show (268435455 : Nat) = 2 ^ 28 - 1 from rfl, Nat.testBit_two_pow_sub_one]

theorem low_bit (i : Nat) : (268435455 : Nat).testBit i = decide (i < 28) := by
  rw [show (268435455 : Nat) = 2 ^ 28 - 1 from rfl, Nat.testBit_two_pow_sub_one]

theorem agree_nat (x : Nat) (hx : x < 4294967296) :
    (x ^^^ ((x &&& 4026531840) / 16777216)) &&& (4294967295 - (x &&& 4026531840)) = (x ^^^ (x / 268435456 * 16)) &&& 268435455 := by
  apply Nat.eq_of_testBit_eq
  intro i
  have hG : x &&& 4026531840 < 2 ^ 32 := Nat.and_lt_two_pow _ (by decide)
  have hhi : ∀ j, 32 ≤ j → x.testBit j = false := fun j hj => Nat.testBit_lt_two_pow (Nat.lt_of_lt_of_le hx (Nat.pow_le_pow_right (n := 2) (by decide) hj))
  rw [show 4294967295 - (x &&& 4026531840) = 2 ^ 32 - ((x &&& 4026531840) + 1) from by omega]
  rw [Nat.testBit_and, Nat.testBit_and, Nat.testBit_xor, Nat.testBit_xor, Nat.testBit_two_pow_sub_succ hG, low_bit]
  rw [show (16777216 : Nat) = 2 ^ 24 from rfl, show (268435456 : Nat) = 2 ^ 28 from rfl, show (16 : Nat) = 2 ^ 4 from rfl]
  rw [Nat.testBit_div_two_pow, Nat.testBit_mul_two_pow, Nat.testBit_div_two_pow, Nat.testBit_and, Nat.testBit_and, mask_bit, mask_bit]
  by_cases h28 : i < 28
  · by_cases h4 : 4 ≤ i
    · by_cases h8 : i < 8
      · have e1 : i - 4 + 28 = i + 24 := by omega
        simp [h28, h4, e1, show i < 32 by omega, show i + 24 < 32 by omega, show ¬ (i + 24 < 28) by omega]
      · have e1 : i - 4 + 28 = i + 24 := by omega
        simp [h28, e1, show i < 32 by omega, hhi (i + 24) (by omega)]
    · simp [h28, h4, show i < 32 by omega, show i + 24 < 28 by omega]
  · by_cases h32 : i < 32
    · simp [h28, h32, show ¬ (i + 24 < 32) by omega]
    · simp [h28, h32]

theorem low_lt (x : Nat) : x &&& 268435455 < 268435456 := Nat.and_lt_two_pow (n := 28) _ (by decide)

theorem xor_lt (x y : Nat) (hx : x < 4294967296) (hy : y < 4294967296) : x ^^^ y < 4294967296 := Nat.xor_lt_two_pow (n := 32) hx hy

theorem mod_form (x : Nat) (hx : x < 4294967296) :
    bits .and .u32 (bits .xor .u32 (x : Int) ((x : Int) / 268435456 * 16)) 268435455 = (((x ^^^ (x / 268435456 * 16)) &&& 268435455 : Nat) : Int) := by
  have e1 : (x : Int) / 268435456 * 16 = ((x / 268435456 * 16 : Nat) : Int) := by omega
  have hlt : x / 268435456 * 16 < 4294967296 := by omega
  rw [e1, u32_xor_nat _ _ hx hlt]
  exact u32_and_nat _ 268435455 (xor_lt _ _ hx hlt) (by decide)

theorem upd_form (x : Nat) (hx : x < 4294967296) :
    bits .andNot .u32
      (if (bits .and .u32 (x : Int) 4026531840 != 0) = true
        then bits .xor .u32 (x : Int) (bits .and .u32 (x : Int) 4026531840 / 16777216)
        else (x : Int))
      (bits .and .u32 (x : Int) 4026531840)
    = (((x ^^^ ((x &&& 4026531840) / 16777216)) &&& (4294967295 - (x &&& 4026531840)) : Nat) : Int) := by
  have hG : x &&& 4026531840 < 4294967296 := Nat.and_lt_two_pow (n := 32) _ (by decide)
  have eG : bits .and .u32 (x : Int) 4026531840 = ((x &&& 4026531840 : Nat) : Int) := u32_and_nat x 4026531840 hx (by decide)
  have hd : (x &&& 4026531840) / 16777216 < 4294967296 := by omega
  rw [eG]
  have ed : ((x &&& 4026531840 : Nat) : Int) / 16777216 = (((x &&& 4026531840) / 16777216 : Nat) : Int) := by omega
  rw [ed, u32_xor_nat _ _ hx hd]
  have hif : (if (((x &&& 4026531840 : Nat) : Int) != 0) = true then ((x ^^^ ((x &&& 4026531840) / 16777216) : Nat) : Int) else (x : Int)) = ((x ^^^ ((x &&& 4026531840) / 16777216) : Nat) : Int) := by
    by_cases h0 : x &&& 4026531840 = 0
    · rw [h0]; simp
    · rw [if_pos]
      simp only [bne_iff_ne, ne_eq]
      omega
  rw [hif]
  exact u32_andNot_nat _ _ (xor_lt _ _ hx hd) hG

theorem x_nat (y c : Int) : ∃ x : Nat, x < 4294967296 ∧ (y * 16 + c) % 4294967296 = (x : Int) :=
  ⟨((y * 16 + c) % 4294967296).toNat, by omega, by omega⟩

theorem step_agree (y c : Int) : updStep y c = modStep y c := by
  unfold updStep modStep
  obtain ⟨x, hx, e⟩ := x_nat y c
  rw [e, upd_form x hx, mod_form x hx, agree_nat x hx]

theorem modStep_range (y c : Int) : 0 ≤ modStep y c ∧ modStep y c < 268435456 := by
  unfold modStep
  obtain ⟨x, hx, e⟩ := x_nat y c
  rw [e, mod_form x hx]
  have := low_lt (x ^^^ (x / 268435456 * 16))
  omega

theorem updStep_range (y c : Int) : 0 ≤ updStep y c ∧ updStep y c < 268435456 := by
  rw [step_agree]; exact modStep_range y c

/-- The hash of the bytes l upon h, as 'Update' reckons it. -/
def upd (h : Int) (l : List UInt8) : Int := l.foldl (fun y c => updStep y (c.toNat : Int)) h
/-- The same, as the model reckons it. -/
def mdl (h : Int) (l : List UInt8) : Int := l.foldl (fun y c => modStep y (c.toNat : Int)) h

theorem upd_snoc (h : Int) (l : List UInt8) (c : UInt8) : upd h (l ++ [c]) = updStep (upd h l) (c.toNat : Int) := by
  unfold upd; rw [List.foldl_append]; rfl
theorem mdl_snoc (h : Int) (l : List UInt8) (c : UInt8) : mdl h (l ++ [c]) = modStep (mdl h l) (c.toNat : Int) := by
  unfold mdl; rw [List.foldl_append]; rfl
theorem upd_mdl (h : Int) (l : List UInt8) : upd h l = mdl h l := by
  unfold upd mdl
  rw [show (fun (y : Int) (c : UInt8) => updStep y (c.toNat : Int)) = (fun y c => modStep y (c.toNat : Int)) from funext fun y => funext fun c => step_agree y _]
theorem upd_nil (h : Int) : upd h [] = h := rfl
theorem upd_range (h : Int) (l : List UInt8) (hl : l ≠ []) : 0 ≤ upd h l ∧ upd h l < 268435456 := by
  obtain ⟨m, c, rfl⟩ : ∃ m c, l = m ++ [c] := ⟨l.dropLast, l.getLast hl, (List.dropLast_concat_getLast hl).symm⟩
  rw [upd_snoc]; exact updStep_range _ _
theorem upd_wf (h : Int) (l : List UInt8) (h0 : 0 ≤ h) (h1 : h < 4294967296) : 0 ≤ upd h l ∧ upd h l < 4294967296 := by
  by_cases hl : l = []
  · subst hl; exact ⟨h0, h1⟩
  · have := upd_range h l hl; omega
theorem mdl_wf (h : Int) (l : List UInt8) (h0 : 0 ≤ h) (h1 : h < 4294967296) : 0 ≤ mdl h l ∧ mdl h l < 4294967296 := by
  rw [← upd_mdl]; exact upd_wf h l h0 h1
theorem take_snoc (s : ByteArray) (k : Nat) (h : k < s.size) : s.data.toList.take (k + 1) = s.data.toList.take k ++ [s[k]] := by
  rw [List.take_succ_eq_append_getElem (by simpa using h)]; rfl
end Go.Proofs.Ybulkccw.elf
