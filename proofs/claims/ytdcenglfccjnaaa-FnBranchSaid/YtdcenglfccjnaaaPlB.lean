/-
  The plain law of the format B: its encoding is a sum of fields, decoding undoes it, no other bit is set. No program in sight. Conditions: the number is an immediate of the format.
-/
import Derived.Test.YtdcenglfccjnaaaLaw
namespace Go.Proofs.Ytdcenglfccjnaaa
open Go Go.RowKit
set_option linter.unusedVariables false
set_option linter.unusedSimpArgs false
def fsB : List Fd := [⟨12, 31, 1⟩, ⟨5, 25, 6⟩, ⟨1, 8, 4⟩, ⟨11, 7, 1⟩]
def valB (n : Int) : Int := wrap64 (bits BinOp.or IntKind.u32 (bits BinOp.or IntKind.u32 (bits BinOp.or IntKind.u32 (n % 4294967296 / 4096 * 2147483648 % 4294967296) (bits BinOp.and IntKind.u32 (n % 4294967296 / 32) 63 * 33554432 % 4294967296)) (bits BinOp.and IntKind.u32 (n % 4294967296 / 2) 15 * 256 % 4294967296)) (bits BinOp.and IntKind.u32 (n % 4294967296 / 2048) 1 * 128 % 4294967296))
def eB (n : Int) : Int := 0 + n / 4096 % 2 * 2147483648 + n / 32 % 64 * 33554432 + n / 2 % 16 * 256 + n / 2048 % 2 * 128
theorem encB (n : Int) : encL n fsB 0 = eB n := by
  have b0 : 0 ≤ n / 4096 % 2 ∧ n / 4096 % 2 < 2 := ⟨by omega, by omega⟩
  have b1 : 0 ≤ n / 32 % 64 ∧ n / 32 % 64 < 64 := ⟨by omega, by omega⟩
  have b2 : 0 ≤ n / 2 % 16 ∧ n / 2 % 16 < 16 := ⟨by omega, by omega⟩
  have b3 : 0 ≤ n / 2048 % 2 ∧ n / 2048 % 2 < 2 := ⟨by omega, by omega⟩
  have g0 : fld n 12 31 1 = n / 4096 % 2 * 2147483648 := by simp only [fld, Int.reducePow]
  have g1 : fld n 5 25 6 = n / 32 % 64 * 33554432 := by simp only [fld, Int.reducePow]
  have g2 : fld n 1 8 4 = n / 2 % 16 * 256 := by simp only [fld, Int.reducePow]
  have g3 : fld n 11 7 1 = n / 2048 % 2 * 128 := by simp only [fld, Int.reducePow]
  unfold fsB eB
  generalize n / 4096 % 2 = a0 at *
  generalize n / 32 % 64 = a1 at *
  generalize n / 2 % 16 = a2 at *
  generalize n / 2048 % 2 = a3 at *
  obtain ⟨m0, n0⟩ := b0
  obtain ⟨m1, n1⟩ := b1
  obtain ⟨m2, n2⟩ := b2
  obtain ⟨m3, n3⟩ := b3
  obtain ⟨h0, l0, u0⟩ := encL_cons n 0 12 31 1 [⟨5, 25, 6⟩, ⟨1, 8, 4⟩, ⟨11, 7, 1⟩] (by decide) (by decide) (by simp) (by decide)
  rw [g0] at h0 l0 u0
  rw [h0]
  clear h0
  obtain ⟨h1, l1, u1⟩ := encL_cons n (0 + a0 * 2147483648) 5 25 6 [⟨1, 8, 4⟩, ⟨11, 7, 1⟩] l0 u0 (by clear g0 g1 g2 g3; simp only [Int.reducePow]; omega) (by decide)
  rw [g1] at h1 l1 u1
  rw [h1]
  clear h1
  obtain ⟨h2, l2, u2⟩ := encL_cons n (0 + a0 * 2147483648 + a1 * 33554432) 1 8 4 [⟨11, 7, 1⟩] l1 u1 (by clear g0 g1 g2 g3; simp only [Int.reducePow]; omega) (by decide)
  rw [g2] at h2 l2 u2
  rw [h2]
  clear h2
  obtain ⟨h3, l3, u3⟩ := encL_cons n (0 + a0 * 2147483648 + a1 * 33554432 + a2 * 256) 11 7 1 [] l2 u2 (by clear g0 g1 g2 g3; simp only [Int.reducePow]; omega) (by decide)
  rw [g3] at h3 l3 u3
  rw [h3]
  clear h3
  rfl
theorem eB_bound (n : Int) : 0 ≤ eB n ∧ eB n < 4294967296 := by
  have b0 : 0 ≤ n / 4096 % 2 ∧ n / 4096 % 2 < 2 := ⟨by omega, by omega⟩
  have b1 : 0 ≤ n / 32 % 64 ∧ n / 32 % 64 < 64 := ⟨by omega, by omega⟩
  have b2 : 0 ≤ n / 2 % 16 ∧ n / 2 % 16 < 16 := ⟨by omega, by omega⟩
  have b3 : 0 ≤ n / 2048 % 2 ∧ n / 2048 % 2 < 2 := ⟨by omega, by omega⟩
  unfold eB
  generalize n / 4096 % 2 = a0 at *
  generalize n / 32 % 64 = a1 at *
  generalize n / 2 % 16 = a2 at *
  generalize n / 2048 % 2 = a3 at *
  omega
theorem valB_u32 (n : Int) (c1 : -4096 ≤ n) (c2 : n < 4096) (c3 : n % 2 = 0) : valB n % 4294967296 = eB n := by
  unfold valB eB
  rw [and_lit_u32 (n % 4294967296 / 32) 6 64 63 (by decide) (by decide) (by decide) (by omega) (by omega), and_lit_u32 (n % 4294967296 / 2) 4 16 15 (by decide) (by decide) (by decide) (by omega) (by omega), and_lit_u32 (n % 4294967296 / 2048) 1 2 1 (by decide) (by decide) (by decide) (by omega) (by omega)]
  rw [show n % 4294967296 / 4096 * 2147483648 % 4294967296 = n / 4096 % 2 * 2147483648 by omega]
  rw [show n % 4294967296 / 32 % 64 * 33554432 % 4294967296 = n / 32 % 64 * 33554432 by omega]
  rw [show n % 4294967296 / 2 % 16 * 256 % 4294967296 = n / 2 % 16 * 256 by omega]
  rw [show n % 4294967296 / 2048 % 2 * 128 % 4294967296 = n / 2048 % 2 * 128 by omega]
  have b0 : 0 ≤ n / 4096 % 2 ∧ n / 4096 % 2 < 2 := ⟨by omega, by omega⟩
  have b1 : 0 ≤ n / 32 % 64 ∧ n / 32 % 64 < 64 := ⟨by omega, by omega⟩
  have b2 : 0 ≤ n / 2 % 16 ∧ n / 2 % 16 < 16 := ⟨by omega, by omega⟩
  have b3 : 0 ≤ n / 2048 % 2 ∧ n / 2048 % 2 < 2 := ⟨by omega, by omega⟩
  generalize n / 4096 % 2 = a0 at *
  generalize n / 32 % 64 = a1 at *
  generalize n / 2 % 16 = a2 at *
  generalize n / 2048 % 2 = a3 at *
  rw [or_lit_u32 (a0 * 2147483648) (a1 * 33554432) 31 2147483648 (by decide) (by omega) (by omega) (by omega) (by omega) (by omega) (by decide)]
  rw [or_lit_u32 (a0 * 2147483648 + a1 * 33554432) (a2 * 256) 25 33554432 (by decide) (by omega) (by omega) (by omega) (by omega) (by omega) (by decide)]
  rw [or_lit_u32 (a0 * 2147483648 + a1 * 33554432 + a2 * 256) (a3 * 128) 8 256 (by decide) (by omega) (by omega) (by omega) (by omega) (by omega) (by decide)]
  rw [IntWalk.wrap64_in _ ⟨by omega, by omega⟩]
  omega
theorem fitB (n : Int) : -4096 ≤ fitv 13 1 n ∧ fitv 13 1 n < 4096 ∧ fitv 13 1 n % 2 = 0 := by
  unfold fitv; simp only [Int.reducePow, Nat.reduceSub, Int.reduceNeg]; omega
theorem fitsDecB (n : Int) : fitsB 13 1 n = decide (-4096 ≤ n ∧ n < 4096 ∧ n % 2 = 0) := by
  unfold fitsB; simp only [Int.reducePow, Nat.reduceSub]
theorem sumB (n : Int) (c3 : n % 2 = 0) : n % 8192 = 0 + n / 4096 % 2 * 4096 + n / 32 % 64 * 32 + n / 2 % 16 * 2 + n / 2048 % 2 * 2048 := by
  have s0 : n % 32 = n % 2 + n / 2 % 16 * 2 := by omega
  have s1 : n % 2048 = n % 32 + n / 32 % 64 * 32 := by omega
  have s2 : n % 4096 = n % 2048 + n / 2048 % 2 * 2048 := by omega
  have s3 : n % 8192 = n % 4096 + n / 4096 % 2 * 4096 := by omega
  have z : n % 2 = 0 := c3
  rw [s3, s2, s1, s0, z]
  clear c3
  clear z s0 s1 s2 s3
  generalize n / 4096 % 2 = a0 at *
  generalize n / 32 % 64 = a1 at *
  generalize n / 2 % 16 = a2 at *
  generalize n / 2048 % 2 = a3 at *
  omega
theorem decB (n : Int) (c1 : -4096 ≤ n) (c2 : n < 4096) (c3 : n % 2 = 0) : decV 13 fsB (eB n) = n := by
  obtain ⟨v0, v1⟩ := eB_bound n
  have hs := sumB n c3
  have b0 : 0 ≤ n / 4096 % 2 ∧ n / 4096 % 2 < 2 := ⟨by omega, by omega⟩
  have b1 : 0 ≤ n / 32 % 64 ∧ n / 32 % 64 < 64 := ⟨by omega, by omega⟩
  have b2 : 0 ≤ n / 2 % 16 ∧ n / 2 % 16 < 16 := ⟨by omega, by omega⟩
  have b3 : 0 ≤ n / 2048 % 2 ∧ n / 2048 % 2 < 2 := ⟨by omega, by omega⟩
  have hn : (if n % 8192 / 4096 = 1 then n % 8192 - 8192 else n % 8192) = n := by split <;> omega
  have hk0 : 0 ≤ n % 8192 := by omega
  have hk1 : n % 8192 < 8192 := by omega
  generalize hv : eB n = v at *
  unfold eB at hv
  clear c1 c2 c3
  generalize n / 4096 % 2 = a0 at *
  generalize n / 32 % 64 = a1 at *
  generalize n / 2 % 16 = a2 at *
  generalize n / 2048 % 2 = a3 at *
  generalize n % 8192 = D at *
  obtain ⟨m0, n0⟩ := b0
  obtain ⟨m1, n1⟩ := b1
  obtain ⟨m2, n2⟩ := b2
  obtain ⟨m3, n3⟩ := b3
  have q0 : v / 2147483648 % 2 = a0 := by clear hn hs; omega
  have q1 : v / 33554432 % 64 = a1 := by clear hn hs; omega
  have q2 : v / 256 % 16 = a2 := by clear hn hs; omega
  have q3 : v / 128 % 2 = a3 := by clear hn hs; omega
  have g0 : fld v 31 12 1 = a0 * 4096 := by simp only [fld, Int.reducePow, q0]
  have g1 : fld v 25 5 6 = a1 * 32 := by simp only [fld, Int.reducePow, q1]
  have g2 : fld v 8 1 4 = a2 * 2 := by simp only [fld, Int.reducePow, q2]
  have g3 : fld v 7 11 1 = a3 * 2048 := by simp only [fld, Int.reducePow, q3]
  clear hv q0 q1 q2 q3
  have hD : decL v fsB 0 = D := by
    unfold fsB
    rw [decL_cons v 0 12 31 1 [⟨5, 25, 6⟩, ⟨1, 8, 4⟩, ⟨11, 7, 1⟩] v0 v1 (by decide) (by decide) (by simp) (by decide), g0]
    rw [decL_cons v (0 + a0 * 4096) 5 25 6 [⟨1, 8, 4⟩, ⟨11, 7, 1⟩] v0 v1 (by clear hn g0 g1 g2 g3; omega) (by clear hn g0 g1 g2 g3; simp only [Int.reducePow]; omega) (by clear hn g0 g1 g2 g3; simp only [Int.reducePow]; omega) (by decide), g1]
    rw [decL_cons v (0 + a0 * 4096 + a1 * 32) 1 8 4 [⟨11, 7, 1⟩] v0 v1 (by clear hn g0 g1 g2 g3; omega) (by clear hn g0 g1 g2 g3; simp only [Int.reducePow]; omega) (by clear hn g0 g1 g2 g3; simp only [Int.reducePow]; omega) (by decide), g2]
    rw [decL_cons v (0 + a0 * 4096 + a1 * 32 + a2 * 2) 11 7 1 [] v0 v1 (by clear hn g0 g1 g2 g3; omega) (by clear hn g0 g1 g2 g3; simp only [Int.reducePow]; omega) (by clear hn g0 g1 g2 g3; simp only [Int.reducePow]; omega) (by decide), g3]
    rw [hs]; rfl
  rw [decV_eq 13 fsB v D 8192 4096 hD (by decide) (by decide) hk0 hk1 (by decide)]
  exact hn
theorem mskB (n : Int) : bits .andNot .u32 (eB n) (maskL fsB 0) = 0 := by
  obtain ⟨v0, v1⟩ := eB_bound n
  have hM : maskL fsB 0 = 4261416832 := by decide +kernel
  rw [hM]
  refine andNot_zero (eB n) 4261416832 (eB n).toNat 33550463 (by omega) (by omega) (by decide) (by decide) (by decide) ?_
  have b0 : 0 ≤ n / 4096 % 2 ∧ n / 4096 % 2 < 2 := ⟨by omega, by omega⟩
  have b1 : 0 ≤ n / 32 % 64 ∧ n / 32 % 64 < 64 := ⟨by omega, by omega⟩
  have b2 : 0 ≤ n / 2 % 16 ∧ n / 2 % 16 < 16 := ⟨by omega, by omega⟩
  have b3 : 0 ≤ n / 2048 % 2 ∧ n / 2048 % 2 < 2 := ⟨by omega, by omega⟩
  generalize hv : eB n = v at *
  unfold eB at hv
  generalize n / 4096 % 2 = a0 at *
  generalize n / 32 % 64 = a1 at *
  generalize n / 2 % 16 = a2 at *
  generalize n / 2048 % 2 = a3 at *
  obtain ⟨m0, n0⟩ := b0
  obtain ⟨m1, n1⟩ := b1
  obtain ⟨m2, n2⟩ := b2
  obtain ⟨m3, n3⟩ := b3
  obtain ⟨V, rfl⟩ := Int.eq_ofNat_of_zero_le v0
  rw [Int.toNat_natCast]
  rw [show 33550463 = (2 ^ 7 - 1) <<< 0 ||| (2 ^ 13 - 1) <<< 12 from by decide]
  exact and_or_zero _ _ _ (and_blk _ 0 7 (by simp only [Nat.reducePow]; omega)) (and_blk _ 12 13 (by simp only [Nat.reducePow]; omega))
theorem oneB (n m : Int) (c1 : -4096 ≤ n) (c2 : n < 4096) (c3 : n % 2 = 0) (d1 : -4096 ≤ m) (d2 : m < 4096) (d3 : m % 2 = 0) : ((valB n % 4294967296 == valB m % 4294967296) == (n == m)) = true := by
  rw [valB_u32 n c1 c2 c3, valB_u32 m d1 d2 d3]
  by_cases h : n = m
  · subst h; simp
  · have h' : eB n ≠ eB m := fun he => h (by rw [← decB n c1 c2 c3, ← decB m d1 d2 d3, he])
    rw [beq_false_of_ne h', beq_false_of_ne h]; rfl
end Go.Proofs.Ytdcenglfccjnaaa
