/-
  The plain law of the format J: its encoding is a sum of fields, decoding undoes it, no other bit is set. No program in sight. Conditions: the number is an immediate of the format.
-/
import Derived.Test.YtpnihechnlkhpaaLaw
namespace Go.Proofs.Ytpnihechnlkhpaa
open Go Go.RowKit
set_option linter.unusedVariables false
set_option linter.unusedSimpArgs false
def fsJ : List Fd := [⟨20, 31, 1⟩, ⟨1, 21, 10⟩, ⟨11, 20, 1⟩, ⟨12, 12, 8⟩]
def valJ (n : Int) : Int := wrap64 (bits BinOp.or IntKind.u32 (bits BinOp.or IntKind.u32 (bits BinOp.or IntKind.u32 (n % 4294967296 / 1048576 * 2147483648 % 4294967296) (bits BinOp.and IntKind.u32 (n % 4294967296 / 2) 1023 * 2097152 % 4294967296)) (bits BinOp.and IntKind.u32 (n % 4294967296 / 2048) 1 * 1048576 % 4294967296)) (bits BinOp.and IntKind.u32 (n % 4294967296 / 4096) 255 * 4096 % 4294967296))
def eJ (n : Int) : Int := 0 + n / 1048576 % 2 * 2147483648 + n / 2 % 1024 * 2097152 + n / 2048 % 2 * 1048576 + n / 4096 % 256 * 4096
theorem encJ (n : Int) : encL n fsJ 0 = eJ n := by
  have b0 : 0 ≤ n / 1048576 % 2 ∧ n / 1048576 % 2 < 2 := ⟨by omega, by omega⟩
  have b1 : 0 ≤ n / 2 % 1024 ∧ n / 2 % 1024 < 1024 := ⟨by omega, by omega⟩
  have b2 : 0 ≤ n / 2048 % 2 ∧ n / 2048 % 2 < 2 := ⟨by omega, by omega⟩
  have b3 : 0 ≤ n / 4096 % 256 ∧ n / 4096 % 256 < 256 := ⟨by omega, by omega⟩
  have g0 : fld n 20 31 1 = n / 1048576 % 2 * 2147483648 := by simp only [fld, Int.reducePow]
  have g1 : fld n 1 21 10 = n / 2 % 1024 * 2097152 := by simp only [fld, Int.reducePow]
  have g2 : fld n 11 20 1 = n / 2048 % 2 * 1048576 := by simp only [fld, Int.reducePow]
  have g3 : fld n 12 12 8 = n / 4096 % 256 * 4096 := by simp only [fld, Int.reducePow]
  unfold fsJ eJ
  generalize n / 1048576 % 2 = a0 at *
  generalize n / 2 % 1024 = a1 at *
  generalize n / 2048 % 2 = a2 at *
  generalize n / 4096 % 256 = a3 at *
  obtain ⟨m0, n0⟩ := b0
  obtain ⟨m1, n1⟩ := b1
  obtain ⟨m2, n2⟩ := b2
  obtain ⟨m3, n3⟩ := b3
  obtain ⟨h0, l0, u0⟩ := encL_cons n 0 20 31 1 [⟨1, 21, 10⟩, ⟨11, 20, 1⟩, ⟨12, 12, 8⟩] (by decide) (by decide) (by simp) (by decide)
  rw [g0] at h0 l0 u0
  rw [h0]
  clear h0
  obtain ⟨h1, l1, u1⟩ := encL_cons n (0 + a0 * 2147483648) 1 21 10 [⟨11, 20, 1⟩, ⟨12, 12, 8⟩] l0 u0 (by clear g0 g1 g2 g3; simp only [Int.reducePow]; omega) (by decide)
  rw [g1] at h1 l1 u1
  rw [h1]
  clear h1
  obtain ⟨h2, l2, u2⟩ := encL_cons n (0 + a0 * 2147483648 + a1 * 2097152) 11 20 1 [⟨12, 12, 8⟩] l1 u1 (by clear g0 g1 g2 g3; simp only [Int.reducePow]; omega) (by decide)
  rw [g2] at h2 l2 u2
  rw [h2]
  clear h2
  obtain ⟨h3, l3, u3⟩ := encL_cons n (0 + a0 * 2147483648 + a1 * 2097152 + a2 * 1048576) 12 12 8 [] l2 u2 (by clear g0 g1 g2 g3; simp only [Int.reducePow]; omega) (by decide)
  rw [g3] at h3 l3 u3
  rw [h3]
  clear h3
  rfl
theorem eJ_bound (n : Int) : 0 ≤ eJ n ∧ eJ n < 4294967296 := by
  have b0 : 0 ≤ n / 1048576 % 2 ∧ n / 1048576 % 2 < 2 := ⟨by omega, by omega⟩
  have b1 : 0 ≤ n / 2 % 1024 ∧ n / 2 % 1024 < 1024 := ⟨by omega, by omega⟩
  have b2 : 0 ≤ n / 2048 % 2 ∧ n / 2048 % 2 < 2 := ⟨by omega, by omega⟩
  have b3 : 0 ≤ n / 4096 % 256 ∧ n / 4096 % 256 < 256 := ⟨by omega, by omega⟩
  unfold eJ
  generalize n / 1048576 % 2 = a0 at *
  generalize n / 2 % 1024 = a1 at *
  generalize n / 2048 % 2 = a2 at *
  generalize n / 4096 % 256 = a3 at *
  omega
theorem valJ_u32 (n : Int) (c1 : -1048576 ≤ n) (c2 : n < 1048576) (c3 : n % 2 = 0) : valJ n % 4294967296 = eJ n := by
  unfold valJ eJ
  rw [and_lit_u32 (n % 4294967296 / 2) 10 1024 1023 (by decide) (by decide) (by decide) (by omega) (by omega), and_lit_u32 (n % 4294967296 / 2048) 1 2 1 (by decide) (by decide) (by decide) (by omega) (by omega), and_lit_u32 (n % 4294967296 / 4096) 8 256 255 (by decide) (by decide) (by decide) (by omega) (by omega)]
  rw [show n % 4294967296 / 1048576 * 2147483648 % 4294967296 = n / 1048576 % 2 * 2147483648 by omega]
  rw [show n % 4294967296 / 2 % 1024 * 2097152 % 4294967296 = n / 2 % 1024 * 2097152 by omega]
  rw [show n % 4294967296 / 2048 % 2 * 1048576 % 4294967296 = n / 2048 % 2 * 1048576 by omega]
  rw [show n % 4294967296 / 4096 % 256 * 4096 % 4294967296 = n / 4096 % 256 * 4096 by omega]
  have b0 : 0 ≤ n / 1048576 % 2 ∧ n / 1048576 % 2 < 2 := ⟨by omega, by omega⟩
  have b1 : 0 ≤ n / 2 % 1024 ∧ n / 2 % 1024 < 1024 := ⟨by omega, by omega⟩
  have b2 : 0 ≤ n / 2048 % 2 ∧ n / 2048 % 2 < 2 := ⟨by omega, by omega⟩
  have b3 : 0 ≤ n / 4096 % 256 ∧ n / 4096 % 256 < 256 := ⟨by omega, by omega⟩
  generalize n / 1048576 % 2 = a0 at *
  generalize n / 2 % 1024 = a1 at *
  generalize n / 2048 % 2 = a2 at *
  generalize n / 4096 % 256 = a3 at *
  rw [or_lit_u32 (a0 * 2147483648) (a1 * 2097152) 31 2147483648 (by decide) (by omega) (by omega) (by omega) (by omega) (by omega) (by decide)]
  rw [or_lit_u32 (a0 * 2147483648 + a1 * 2097152) (a2 * 1048576) 21 2097152 (by decide) (by omega) (by omega) (by omega) (by omega) (by omega) (by decide)]
  rw [or_lit_u32 (a0 * 2147483648 + a1 * 2097152 + a2 * 1048576) (a3 * 4096) 20 1048576 (by decide) (by omega) (by omega) (by omega) (by omega) (by omega) (by decide)]
  rw [IntWalk.wrap64_in _ ⟨by omega, by omega⟩]
  omega
theorem fitJ (n : Int) : -1048576 ≤ fitv 21 1 n ∧ fitv 21 1 n < 1048576 ∧ fitv 21 1 n % 2 = 0 := by
  unfold fitv; simp only [Int.reducePow, Nat.reduceSub, Int.reduceNeg]; omega
theorem fitsDecJ (n : Int) : fitsB 21 1 n = decide (-1048576 ≤ n ∧ n < 1048576 ∧ n % 2 = 0) := by
  unfold fitsB; simp only [Int.reducePow, Nat.reduceSub]
theorem sumJ (n : Int) (c3 : n % 2 = 0) : n % 2097152 = 0 + n / 1048576 % 2 * 1048576 + n / 2 % 1024 * 2 + n / 2048 % 2 * 2048 + n / 4096 % 256 * 4096 := by
  have s0 : n % 2048 = n % 2 + n / 2 % 1024 * 2 := by omega
  have s1 : n % 4096 = n % 2048 + n / 2048 % 2 * 2048 := by omega
  have s2 : n % 1048576 = n % 4096 + n / 4096 % 256 * 4096 := by omega
  have s3 : n % 2097152 = n % 1048576 + n / 1048576 % 2 * 1048576 := by omega
  have z : n % 2 = 0 := c3
  rw [s3, s2, s1, s0, z]
  clear c3
  clear z s0 s1 s2 s3
  generalize n / 1048576 % 2 = a0 at *
  generalize n / 2 % 1024 = a1 at *
  generalize n / 2048 % 2 = a2 at *
  generalize n / 4096 % 256 = a3 at *
  omega
theorem decJ (n : Int) (c1 : -1048576 ≤ n) (c2 : n < 1048576) (c3 : n % 2 = 0) : decV 21 fsJ (eJ n) = n := by
  obtain ⟨v0, v1⟩ := eJ_bound n
  have hs := sumJ n c3
  have b0 : 0 ≤ n / 1048576 % 2 ∧ n / 1048576 % 2 < 2 := ⟨by omega, by omega⟩
  have b1 : 0 ≤ n / 2 % 1024 ∧ n / 2 % 1024 < 1024 := ⟨by omega, by omega⟩
  have b2 : 0 ≤ n / 2048 % 2 ∧ n / 2048 % 2 < 2 := ⟨by omega, by omega⟩
  have b3 : 0 ≤ n / 4096 % 256 ∧ n / 4096 % 256 < 256 := ⟨by omega, by omega⟩
  have hn : (if n % 2097152 / 1048576 = 1 then n % 2097152 - 2097152 else n % 2097152) = n := by split <;> omega
  have hk0 : 0 ≤ n % 2097152 := by omega
  have hk1 : n % 2097152 < 2097152 := by omega
  generalize hv : eJ n = v at *
  unfold eJ at hv
  clear c1 c2 c3
  generalize n / 1048576 % 2 = a0 at *
  generalize n / 2 % 1024 = a1 at *
  generalize n / 2048 % 2 = a2 at *
  generalize n / 4096 % 256 = a3 at *
  generalize n % 2097152 = D at *
  obtain ⟨m0, n0⟩ := b0
  obtain ⟨m1, n1⟩ := b1
  obtain ⟨m2, n2⟩ := b2
  obtain ⟨m3, n3⟩ := b3
  have q0 : v / 2147483648 % 2 = a0 := by clear hn hs; omega
  have q1 : v / 2097152 % 1024 = a1 := by clear hn hs; omega
  have q2 : v / 1048576 % 2 = a2 := by clear hn hs; omega
  have q3 : v / 4096 % 256 = a3 := by clear hn hs; omega
  have g0 : fld v 31 20 1 = a0 * 1048576 := by simp only [fld, Int.reducePow, q0]
  have g1 : fld v 21 1 10 = a1 * 2 := by simp only [fld, Int.reducePow, q1]
  have g2 : fld v 20 11 1 = a2 * 2048 := by simp only [fld, Int.reducePow, q2]
  have g3 : fld v 12 12 8 = a3 * 4096 := by simp only [fld, Int.reducePow, q3]
  clear hv q0 q1 q2 q3
  have hD : decL v fsJ 0 = D := by
    unfold fsJ
    rw [decL_cons v 0 20 31 1 [⟨1, 21, 10⟩, ⟨11, 20, 1⟩, ⟨12, 12, 8⟩] v0 v1 (by decide) (by decide) (by simp) (by decide), g0]
    rw [decL_cons v (0 + a0 * 1048576) 1 21 10 [⟨11, 20, 1⟩, ⟨12, 12, 8⟩] v0 v1 (by clear hn g0 g1 g2 g3; omega) (by clear hn g0 g1 g2 g3; simp only [Int.reducePow]; omega) (by clear hn g0 g1 g2 g3; simp only [Int.reducePow]; omega) (by decide), g1]
    rw [decL_cons v (0 + a0 * 1048576 + a1 * 2) 11 20 1 [⟨12, 12, 8⟩] v0 v1 (by clear hn g0 g1 g2 g3; omega) (by clear hn g0 g1 g2 g3; simp only [Int.reducePow]; omega) (by clear hn g0 g1 g2 g3; simp only [Int.reducePow]; omega) (by decide), g2]
    rw [decL_cons v (0 + a0 * 1048576 + a1 * 2 + a2 * 2048) 12 12 8 [] v0 v1 (by clear hn g0 g1 g2 g3; omega) (by clear hn g0 g1 g2 g3; simp only [Int.reducePow]; omega) (by clear hn g0 g1 g2 g3; simp only [Int.reducePow]; omega) (by decide), g3]
    rw [hs]; rfl
  rw [decV_eq 21 fsJ v D 2097152 1048576 hD (by decide) (by decide) hk0 hk1 (by decide)]
  exact hn
theorem mskJ (n : Int) : bits .andNot .u32 (eJ n) (maskL fsJ 0) = 0 := by
  obtain ⟨v0, v1⟩ := eJ_bound n
  have hM : maskL fsJ 0 = 4294963200 := by decide +kernel
  rw [hM]
  refine andNot_zero (eJ n) 4294963200 (eJ n).toNat 4095 (by omega) (by omega) (by decide) (by decide) (by decide) ?_
  have b0 : 0 ≤ n / 1048576 % 2 ∧ n / 1048576 % 2 < 2 := ⟨by omega, by omega⟩
  have b1 : 0 ≤ n / 2 % 1024 ∧ n / 2 % 1024 < 1024 := ⟨by omega, by omega⟩
  have b2 : 0 ≤ n / 2048 % 2 ∧ n / 2048 % 2 < 2 := ⟨by omega, by omega⟩
  have b3 : 0 ≤ n / 4096 % 256 ∧ n / 4096 % 256 < 256 := ⟨by omega, by omega⟩
  generalize hv : eJ n = v at *
  unfold eJ at hv
  generalize n / 1048576 % 2 = a0 at *
  generalize n / 2 % 1024 = a1 at *
  generalize n / 2048 % 2 = a2 at *
  generalize n / 4096 % 256 = a3 at *
  obtain ⟨m0, n0⟩ := b0
  obtain ⟨m1, n1⟩ := b1
  obtain ⟨m2, n2⟩ := b2
  obtain ⟨m3, n3⟩ := b3
  obtain ⟨V, rfl⟩ := Int.eq_ofNat_of_zero_le v0
  rw [Int.toNat_natCast]
  rw [show 4095 = (2 ^ 12 - 1) <<< 0 from by decide]
  exact and_blk _ 0 12 (by simp only [Nat.reducePow]; omega)
theorem oneJ (n m : Int) (c1 : -1048576 ≤ n) (c2 : n < 1048576) (c3 : n % 2 = 0) (d1 : -1048576 ≤ m) (d2 : m < 1048576) (d3 : m % 2 = 0) : ((valJ n % 4294967296 == valJ m % 4294967296) == (n == m)) = true := by
  rw [valJ_u32 n c1 c2 c3, valJ_u32 m d1 d2 d3]
  by_cases h : n = m
  · subst h; simp
  · have h' : eJ n ≠ eJ m := fun he => h (by rw [← decJ n c1 c2 c3, ← decJ m d1 d2 d3, he])
    rw [beq_false_of_ne h', beq_false_of_ne h]; rfl
end Go.Proofs.Ytpnihechnlkhpaa
