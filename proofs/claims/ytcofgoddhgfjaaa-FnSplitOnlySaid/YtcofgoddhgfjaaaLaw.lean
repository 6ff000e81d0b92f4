/-
  Plain lemmas: the decoded immediate with its sign; bits outside a mask are zero. No program in sight.
-/
import Derived.Test.YtcofgoddhgfjaaaFields
namespace Go.Proofs.Ytcofgoddhgfjaaa
open Go Go.RowKit
set_option linter.unusedVariables false
set_option linter.unusedSimpArgs false

theorem and_lit_u32 (x : Int) (m : Nat) (K M : Int) (hm : m ≤ 32) (hK : (2 : Int) ^ m = K) (hM : K - 1 = M) (h0 : 0 ≤ x) (h1 : x < 4294967296) : bits .and .u32 x M = x % K := by
  subst hM hK; exact and_mask_u32 x m hm h0 h1
theorem and_lit_i64 (x : Int) (m : Nat) (K M : Int) (hm : m ≤ 62) (hK : (2 : Int) ^ m = K) (hM : K - 1 = M) : bits .and .i64 x M = x % K := by
  subst hM hK; exact and_mask_i64 x m hm
theorem or_lit_u32 (a b : Int) (m : Nat) (K : Int) (hK : (2 : Int) ^ m = K) (ha : 0 ≤ a) (ha' : a < 4294967296) (hd : a % K = 0) (hb : 0 ≤ b) (hb' : b < K) (hm : m ≤ 32) : bits .or .u32 a b = a + b := by
  subst hK; exact or_low_u32 a b m ha ha' hd hb hb' hm
theorem or_lit_i64 (a b : Int) (m : Nat) (K : Int) (hK : (2 : Int) ^ m = K) (ha : -9223372036854775808 ≤ a) (hs : a + b < 9223372036854775808) (hd : a % K = 0) (hb : 0 ≤ b) (hb' : b < K) (hm : m ≤ 62) : bits .or .i64 a b = a + b := by
  subst hK; exact or_low_i64 a b m ha hs hd hb hb' hm

theorem decV_eq (bits : Nat) (fs : List Fd) (v D K H : Int) (hD : decL v fs 0 = D) (hK : (2 : Int) ^ bits = K) (hH : (2 : Int) ^ (bits - 1) = H) (h0 : 0 ≤ D) (h1 : D < K) (hb : bits ≤ 60) :
    decV bits fs v = if D / H = 1 then D - K else D := by
  have a1 : K ≤ 1152921504606846976 := hK ▸ pow_le_pow bits 60 hb
  have a0 := two_pow_pos bits
  unfold decV
  rw [hD, hK, hH, IntWalk.wrap64_in K ⟨by omega, by omega⟩, IntWalk.wrap64_in (D - K) ⟨by omega, by omega⟩]
  by_cases h : D / H = 1
  · simp [h]
  · simp [h]

theorem and_blk_val (a s k : Nat) : a &&& ((2 ^ k - 1) <<< s) = (a / 2 ^ s % 2 ^ k) <<< s := by
  apply Nat.eq_of_testBit_eq
  intro i
  rw [Nat.testBit_and, Nat.testBit_shiftLeft, Nat.testBit_shiftLeft]
  by_cases hi : s ≤ i
  · rw [Nat.testBit_two_pow_sub_one, Nat.testBit_mod_two_pow, Nat.testBit_div_two_pow, show i - s + s = i by omega]
    simp only [hi, decide_true, Bool.true_and]
    exact Bool.and_comm _ _
  · simp [hi]
theorem and_two_eq (x y s1 k1 s2 k2 : Nat) (h1 : x / 2 ^ s1 % 2 ^ k1 = y / 2 ^ s1 % 2 ^ k1) (h2 : x / 2 ^ s2 % 2 ^ k2 = y / 2 ^ s2 % 2 ^ k2) :
    x &&& ((2 ^ k1 - 1) <<< s1 ||| (2 ^ k2 - 1) <<< s2) = y &&& ((2 ^ k1 - 1) <<< s1 ||| (2 ^ k2 - 1) <<< s2) := by
  rw [Nat.and_or_distrib_left, Nat.and_or_distrib_left, and_blk_val, and_blk_val, and_blk_val, and_blk_val, h1, h2]
/-- n &^ 1 on int64. -/
theorem andNot_one_i64 (n : Int) (h0 : -9223372036854775808 ≤ n) (h1 : n < 9223372036854775808) : bits .andNot .i64 n 1 = n - n % 2 := by
  show IntKind.i64.wrap ((BitVec.ofInt 64 n &&& ~~~BitVec.ofInt 64 1).toNat : Int) = _
  rw [BitVec.toNat_and, ofInt_nat, show (~~~BitVec.ofInt 64 1).toNat = (2 ^ 63 - 1) <<< 1 from by decide, and_blk_val, Nat.shiftLeft_eq]
  apply wrap64_of
  · omega
  · omega
  · omega
/-- n | 1 on int64 is odd. -/
theorem or_one_odd (n : Int) : bits .or .i64 n 1 % 2 = 1 := by
  show IntKind.i64.wrap ((BitVec.ofInt 64 n ||| BitVec.ofInt 64 1).toNat : Int) % 2 = 1
  rw [BitVec.toNat_or, show (BitVec.ofInt 64 1).toNat = 1 from by decide]
  have h : ((BitVec.ofInt 64 n).toNat ||| 1) % 2 = 1 := by
    have t : ((BitVec.ofInt 64 n).toNat ||| 1).testBit 0 = true := by rw [Nat.testBit_or]; simp
    rw [Nat.testBit_zero] at t
    exact of_decide_eq_true t
  rw [IntKind.wrap_i64]
  omega
theorem and_blk (a s k : Nat) (h : a / 2 ^ s % 2 ^ k = 0) : a &&& ((2 ^ k - 1) <<< s) = 0 := by
  apply Nat.eq_of_testBit_eq
  intro i
  rw [Nat.testBit_and, Nat.testBit_shiftLeft, Nat.zero_testBit]
  by_cases hi : s ≤ i
  · simp only [hi, decide_true, Bool.true_and, Nat.testBit_two_pow_sub_one]
    by_cases hk : i - s < k
    · have e : a.testBit i = (a / 2 ^ s % 2 ^ k).testBit (i - s) := by
        rw [Nat.testBit_mod_two_pow, Nat.testBit_div_two_pow]
        simp [hk, hi]
      rw [e, h]; simp
    · simp [hk]
  · simp [hi]
theorem and_or_zero (a x y : Nat) (h1 : a &&& x = 0) (h2 : a &&& y = 0) : a &&& (x ||| y) = 0 := by
  rw [Nat.and_or_distrib_left, h1, h2]; rfl

theorem andNot_zero (E M : Int) (a C : Nat) (hE : E = a) (ha : a < 4294967296) (hM0 : 0 ≤ M) (hM1 : M < 4294967296) (hC : 4294967295 - M.toNat = C) (h : a &&& C = 0) : bits .andNot .u32 E M = 0 := by
  subst hE
  rw [u32_andNot _ _ (by omega) (by omega) hM0 hM1, hC, Int.toNat_natCast, h]; rfl
end Go.Proofs.Ytcofgoddhgfjaaa
