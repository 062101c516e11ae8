/- PLAIN: words of 64 bits. No walk. -/
import Derived.Laws.Bits64
namespace Go.Proofs.Qxb6613222a.Bit
open Go

theorem toNat_ofInt (a : Nat) (ha : a < 18446744073709551616) : (BitVec.ofInt 64 (a : Int)).toNat = a := by
  rw [BitVec.ofInt_natCast, BitVec.toNat_ofNat]; exact Nat.mod_eq_of_lt (by omega)

theorem bits_or (a b : Nat) (ha : a < 18446744073709551616) (hb : b < 18446744073709551616) : bits .or .u64 (a : Int) (b : Int) = ((a ||| b : Nat) : Int) := by
  have hx : a ||| b < 2 ^ 64 := Nat.or_lt_two_pow (by omega) (by omega)
  show IntKind.u64.wrap ((BitVec.ofInt 64 (a : Int) ||| BitVec.ofInt 64 (b : Int)).toNat : Int) = _
  rw [BitVec.toNat_or, toNat_ofInt a ha, toNat_ofInt b hb, IntKind.wrap_u64]
  omega

theorem bits_and (a b : Nat) (ha : a < 18446744073709551616) (hb : b < 18446744073709551616) : bits .and .u64 (a : Int) (b : Int) = ((a &&& b : Nat) : Int) := by
  have hx : a &&& b < 2 ^ 64 := Nat.and_lt_two_pow _ (by omega)
  show IntKind.u64.wrap ((BitVec.ofInt 64 (a : Int) &&& BitVec.ofInt 64 (b : Int)).toNat : Int) = _
  rw [BitVec.toNat_and, toNat_ofInt a ha, toNat_ofInt b hb, IntKind.wrap_u64]
  omega

theorem div_cast (x m : Nat) : (x : Int) / 2 ^ m = ((x / 2 ^ m : Nat) : Int) := by
  rw [Int.natCast_ediv, Int.natCast_pow]
  rfl

/-- 'x >> m & 1 == 1' is the bit m of x. -/
theorem test_bit (x m : Nat) (hx : x < 18446744073709551616) : (bits .and .u64 ((x : Int) / 2 ^ m) 1 == 1) = x.testBit m := by
  have h := bits_and (x / 2 ^ m) 1 (Nat.lt_of_le_of_lt (Nat.div_le_self _ _) hx) (by decide)
  rw [div_cast]
  rw [show ((1 : Int)) = ((1 : Nat) : Int) from rfl, h, Nat.and_one_is_mod, Nat.testBit_eq_decide_div_mod_eq]
  generalize x / 2 ^ m % 2 = r
  rw [Bool.eq_iff_iff]
  simp only [beq_iff_eq, decide_eq_true_eq]
  omega

/-- Word j of the levels of which 'lv' speaks, once the first k have been packed. -/
def wd (lv : Nat → Bool) (j : Nat) : Nat → Nat
  | 0 => 0
  | k + 1 => if j = k / 64 ∧ lv k = true then wd lv j k ||| 2 ^ (k % 64) else wd lv j k

theorem wd_lt (lv : Nat → Bool) (j k : Nat) : wd lv j k < 2 ^ 64 := by
  induction k with
  | zero => simp [wd]
  | succ k ih =>
    unfold wd
    split
    · exact Nat.or_lt_two_pow ih (Nat.pow_lt_pow_right (by omega) (Nat.mod_lt _ (by omega)))
    · exact ih

theorem wd_bit (lv : Nat → Bool) (j k m : Nat) (hm : m < 64) : (wd lv j k).testBit m = (decide (64 * j + m < k) && lv (64 * j + m)) := by
  induction k with
  | zero => simp [wd]
  | succ k ih =>
    unfold wd
    by_cases h : j = k / 64 ∧ lv k = true
    · rw [if_pos h, Nat.testBit_or, ih, Nat.testBit_two_pow]
      by_cases hk : 64 * j + m = k
      · have : k % 64 = m := by omega
        simp [hk, this, h.2]
      · have h1 : ¬ k % 64 = m := by omega
        have h2 : decide (64 * j + m < k + 1) = decide (64 * j + m < k) := by
          rw [Bool.eq_iff_iff]; simp; omega
        simp [h1, h2]
    · rw [if_neg h, ih]
      by_cases hk : 64 * j + m = k
      · have hj : j = k / 64 := by omega
        have hl : lv k = false := by
          cases e : lv k
          · rfl
          · exact absurd ⟨hj, e⟩ h
        rw [hk, hl]; simp
      · have h2 : decide (64 * j + m < k + 1) = decide (64 * j + m < k) := by
          rw [Bool.eq_iff_iff]; simp; omega
        rw [h2]

/-- The word of level d bears its bit. -/
theorem wd_at (lv : Nat → Bool) (n d : Nat) (hd : d < n) : (wd lv (d / 64) n).testBit (d % 64) = lv d := by
  rw [wd_bit lv (d / 64) n (d % 64) (Nat.mod_lt _ (by omega))]
  have : 64 * (d / 64) + d % 64 = d := by omega
  rw [this]
  simp [hd]

theorem wrap_pow (m : Nat) (hm : m < 64) : IntKind.u64.wrap (2 ^ m) = ((2 ^ m : Nat) : Int) := by
  have h : 2 ^ m < 2 ^ 64 := Nat.pow_lt_pow_right (by omega) hm
  have e : (2 : Int) ^ m = ((2 ^ m : Nat) : Int) := by rw [Int.natCast_pow]; rfl
  rw [e, IntKind.wrap_u64]
  generalize 2 ^ m = p at h
  omega

theorem or_word (x m : Nat) (hx : x < 2 ^ 64) (hm : m < 64) : bits .or .u64 (x : Int) (IntKind.u64.wrap (2 ^ m)) = ((x ||| 2 ^ m : Nat) : Int) := by
  have h : 2 ^ m < 2 ^ 64 := Nat.pow_lt_pow_right (by omega) hm
  rw [wrap_pow m hm]
  exact bits_or x (2 ^ m) (by omega) (by omega)

theorem xor_word (x m : Nat) (hx : x < 2 ^ 64) (hm : m < 64) : bits .xor .u64 (x : Int) (IntKind.u64.wrap (2 ^ m)) = ((x ^^^ 2 ^ m : Nat) : Int) := by
  have h : 2 ^ m < 2 ^ 64 := Nat.pow_lt_pow_right (by omega) hm
  rw [wrap_pow m hm]
  exact bits_xor_u64_nat x (2 ^ m) (by omega) (by omega)

theorem xor_self_bit (x m : Nat) : (x ^^^ 2 ^ m).testBit m = !x.testBit m := by
  rw [Nat.testBit_xor, Nat.testBit_two_pow]
  simp

theorem xor_other_bit (x m q : Nat) (h : q ≠ m) : (x ^^^ 2 ^ q).testBit m = x.testBit m := by
  rw [Nat.testBit_xor, Nat.testBit_two_pow]
  simp [h]

theorem xor_lt (x m : Nat) (hx : x < 18446744073709551616) (hm : m < 64) : x ^^^ 2 ^ m < 18446744073709551616 := by
  have h : 2 ^ m < 2 ^ 64 := Nat.pow_lt_pow_right (by omega) hm
  have := @Nat.xor_lt_two_pow x (2 ^ m) 64 (by omega) h
  omega

theorem wd_same (lv : Nat → Bool) (j k : Nat) (h : lv k = false ∨ j ≠ k / 64) : wd lv j (k + 1) = wd lv j k := by
  conv => lhs; unfold wd
  rw [if_neg]
  rcases h with h | h
  · simp [h]
  · exact fun e => h e.1

theorem wd_hit (lv : Nat → Bool) (k : Nat) (h : lv k = true) : wd lv (k / 64) (k + 1) = wd lv (k / 64) k ||| 2 ^ (k % 64) := by
  conv => lhs; unfold wd
  rw [if_pos ⟨rfl, h⟩]

end Go.Proofs.Qxb6613222a.Bit
