import Derived.Laws.Bits64
import Derived.WalkSmall
import Derived.Laws.Bits64b
namespace Go.Proofs.Qxb6000357a
set_option linter.unusedVariables false

/-- bit p of the number whose words are F 0, F 1, .. F (n-1) -/
def bitN (F : Nat → Nat) (n : Nat) (p : Int) : Nat := if 0 ≤ p ∧ p < 64 * (n : Int) then F (p.toNat / 64) / 2 ^ (p.toNat % 64) % 2 else 0
/-- the 64 bits from bit i on -/
def wordN (F : Nat → Nat) (n : Nat) (i : Int) : Nat :=
  if i ≤ -64 then 0
  else if i < 0 then F 0 * 2 ^ (-i).toNat % 2 ^ 64
  else if 0 < i.toNat % 64 ∧ i.toNat / 64 + 1 < n then (F (i.toNat / 64) / 2 ^ (i.toNat % 64)) ||| (F (i.toNat / 64 + 1) * 2 ^ (64 - i.toNat % 64) % 2 ^ 64)
  else F (i.toNat / 64) / 2 ^ (i.toNat % 64)

theorem mod_of_bit {x y i j : Nat} (h : x.testBit i = y.testBit j) : x / 2 ^ i % 2 = y / 2 ^ j % 2 := by
  rw [Nat.testBit_eq_decide_div_mod_eq, Nat.testBit_eq_decide_div_mod_eq, decide_eq_decide] at h
  have h1 := Nat.mod_two_eq_zero_or_one (x / 2 ^ i)
  have h2 := Nat.mod_two_eq_zero_or_one (y / 2 ^ j)
  omega
theorem mod_of_no {x i : Nat} (h : x.testBit i = false) : x / 2 ^ i % 2 = 0 := by
  rw [Nat.testBit_eq_decide_div_mod_eq, decide_eq_false_iff_not] at h
  have h1 := Nat.mod_two_eq_zero_or_one (x / 2 ^ i)
  omega
theorem bit_high {x i : Nat} (hx : x < 2 ^ 64) (hi : 64 ≤ i) : x.testBit i = false :=
  Nat.testBit_lt_two_pow (Nat.lt_of_lt_of_le hx (Nat.pow_le_pow_right (by decide) hi))

theorem bitN_in {F : Nat → Nat} {n : Nat} {p : Int} (q : Nat) (hp : p = (q : Int)) (hq : q < 64 * n) : bitN F n p = F (q / 64) / 2 ^ (q % 64) % 2 := by
  subst hp
  unfold bitN
  rw [if_pos (by omega), Int.toNat_natCast]
theorem bitN_out {F : Nat → Nat} {n : Nat} {p : Int} (h : ¬ (0 ≤ p ∧ p < 64 * (n : Int))) : bitN F n p = 0 := if_neg h

theorem wordN_neg {F : Nat → Nat} {n : Nat} {i : Int} (h1 : ¬ i ≤ -64) (h2 : i < 0) : wordN F n i = F 0 * 2 ^ (-i).toNat % 2 ^ 64 := by
  unfold wordN; rw [if_neg h1, if_pos h2]
theorem wordN_two {F : Nat → Nat} {n j : Nat} (h : 0 < j % 64 ∧ j / 64 + 1 < n) : wordN F n (j : Int) = (F (j / 64) / 2 ^ (j % 64)) ||| (F (j / 64 + 1) * 2 ^ (64 - j % 64) % 2 ^ 64) := by
  unfold wordN; rw [if_neg (by omega), if_neg (by omega), Int.toNat_natCast, if_pos h]
theorem wordN_one {F : Nat → Nat} {n j : Nat} (h : ¬ (0 < j % 64 ∧ j / 64 + 1 < n)) : wordN F n (j : Int) = F (j / 64) / 2 ^ (j % 64) := by
  unfold wordN; rw [if_neg (by omega), if_neg (by omega), Int.toNat_natCast, if_neg h]
theorem wordN_low {F : Nat → Nat} {n : Nat} {i : Int} (h : i ≤ -64) : wordN F n i = 0 := if_pos h

theorem word_bit (F : Nat → Nat) (n : Nat) (hF : ∀ j, j < n → F j < 2 ^ 64) (i : Int) (hn : 0 < n) (hi : i < 64 * (n : Int)) (k : Nat) (hk : k < 64) :
    wordN F n i / 2 ^ k % 2 = bitN F n (i + k) := by
  by_cases h1 : i ≤ -64
  · rw [wordN_low h1, bitN_out (by omega)]; simp
  by_cases h2 : i < 0
  · rw [wordN_neg h1 h2]
    have hb : (F 0 * 2 ^ (-i).toNat % 2 ^ 64).testBit k = (decide (k < 64) && (decide (k ≥ (-i).toNat) && (F 0).testBit (k - (-i).toNat))) := by
      rw [Nat.testBit_mod_two_pow, Nat.testBit_mul_two_pow]
    by_cases h3 : (-i).toNat ≤ k
    · rw [bitN_in (k - (-i).toNat) (by omega) (by omega), show (k - (-i).toNat) / 64 = 0 by omega, show (k - (-i).toNat) % 64 = k - (-i).toNat by omega]
      apply mod_of_bit
      rw [hb, decide_eq_true hk, decide_eq_true h3]; rfl
    · rw [bitN_out (by omega)]
      apply mod_of_no
      rw [hb, decide_eq_false h3]; simp
  obtain ⟨j, rfl⟩ := Int.eq_ofNat_of_zero_le (show 0 ≤ i by omega)
  have hj : j / 64 < n := by omega
  by_cases h3 : 0 < j % 64 ∧ j / 64 + 1 < n
  · rw [wordN_two h3, bitN_in (j + k) (by omega) (by omega)]
    have hb : ((F (j / 64) / 2 ^ (j % 64)) ||| (F (j / 64 + 1) * 2 ^ (64 - j % 64) % 2 ^ 64)).testBit k
        = ((F (j / 64)).testBit (j % 64 + k) || (decide (k < 64) && (decide (k ≥ 64 - j % 64) && (F (j / 64 + 1)).testBit (k - (64 - j % 64))))) := by
      rw [Nat.testBit_or, Nat.testBit_div_two_pow, Nat.testBit_mod_two_pow, Nat.testBit_mul_two_pow, Nat.add_comm k]
    by_cases h4 : j % 64 + k < 64
    · rw [show (j + k) / 64 = j / 64 by omega, show (j + k) % 64 = j % 64 + k by omega]
      apply mod_of_bit
      rw [hb, decide_eq_false (show ¬ k ≥ 64 - j % 64 by omega)]; simp
    · rw [show (j + k) / 64 = j / 64 + 1 by omega, show (j + k) % 64 = k - (64 - j % 64) by omega]
      apply mod_of_bit
      rw [hb, bit_high (hF _ hj) (by omega), decide_eq_true hk, decide_eq_true (show k ≥ 64 - j % 64 by omega)]; rfl
  · rw [wordN_one h3]
    have hb : (F (j / 64) / 2 ^ (j % 64)).testBit k = (F (j / 64)).testBit (j % 64 + k) := by rw [Nat.testBit_div_two_pow, Nat.add_comm]
    by_cases h4 : j % 64 + k < 64
    · rw [bitN_in (j + k) (by omega) (by omega), show (j + k) / 64 = j / 64 by omega, show (j + k) % 64 = j % 64 + k by omega]
      exact mod_of_bit hb
    · rw [bitN_out (by omega)]
      apply mod_of_no
      rw [hb, bit_high (hF _ hj) (by omega)]

theorem wordN_lt (F : Nat → Nat) (n : Nat) (hF : ∀ j, j < n → F j < 2 ^ 64) (i : Int) (hn : 0 < n) (hi : i < 64 * (n : Int)) : wordN F n i < 2 ^ 64 := by
  by_cases h1 : i ≤ -64
  · rw [wordN_low h1]; decide
  by_cases h2 : i < 0
  · rw [wordN_neg h1 h2]; exact Nat.mod_lt _ (by decide)
  obtain ⟨j, rfl⟩ := Int.eq_ofNat_of_zero_le (show 0 ≤ i by omega)
  have hj : j / 64 < n := by omega
  have ha : F (j / 64) / 2 ^ (j % 64) < 2 ^ 64 := Nat.lt_of_le_of_lt (Nat.div_le_self _ _) (hF _ hj)
  by_cases h3 : 0 < j % 64 ∧ j / 64 + 1 < n
  · rw [wordN_two h3]; exact Nat.or_lt_two_pow ha (Nat.mod_lt _ (by decide))
  · rw [wordN_one h3]; exact ha

/-! ### from the walk's spelling -/
theorem and_one_nat (a : Nat) (ha : a < 2 ^ 64) : bits BinOp.and IntKind.u64 (a : Int) 1 = ((a % 2 : Nat) : Int) := by
  have h := bits_and_u64_nat a 1 (by simpa using ha) (by omega)
  rw [Nat.and_one_is_mod] at h
  exact h
theorem div_pow_cast (a b : Nat) : (a : Int) / 2 ^ b = ((a / 2 ^ b : Nat) : Int) := by
  rw [Int.natCast_ediv, Int.natCast_pow]; rfl
theorem shl_cast (a b : Nat) : IntKind.u64.wrap ((a : Int) * 2 ^ b) = ((a * 2 ^ b % 2 ^ 64 : Nat) : Int) := by
  rw [IntKind.wrap_u64, Int.natCast_emod, Int.natCast_mul, Int.natCast_pow]; rfl
theorem or_cast (a b : Nat) (ha : a < 2 ^ 64) (hb : b < 2 ^ 64) : bits BinOp.or IntKind.u64 (a : Int) (b : Int) = ((a ||| b : Nat) : Int) :=
  bits_or_u64_nat a b (by simpa using ha) (by simpa using hb)

end Go.Proofs.Qxb6000357a
