/-
  The plain law of the format CJ: its encoding is a sum of fields, decoding undoes it, no other bit is set. No program in sight. Conditions: the number is an immediate of the format.
-/
import Derived.Test.YtpnihechnlkhpaaLaw
namespace Go.Proofs.Ytpnihechnlkhpaa
open Go Go.RowKit
set_option linter.unusedVariables false
set_option linter.unusedSimpArgs false
def fsCJ : List Fd := [⟨11, 12, 1⟩, ⟨4, 11, 1⟩, ⟨8, 9, 2⟩, ⟨10, 8, 1⟩, ⟨6, 7, 1⟩, ⟨7, 6, 1⟩, ⟨1, 3, 3⟩, ⟨5, 2, 1⟩]
def valCJ (n : Int) : Int := pat (n % 4294967296) [11, 4, 9, 8, 10, 6, 7, 3, 2, 1, 5] * 4 % 4294967296
def eCJ (n : Int) : Int := 0 + n / 2048 % 2 * 4096 + n / 16 % 2 * 2048 + n / 256 % 4 * 512 + n / 1024 % 2 * 256 + n / 64 % 2 * 128 + n / 128 % 2 * 64 + n / 2 % 8 * 8 + n / 32 % 2 * 4
theorem encCJ (n : Int) : encL n fsCJ 0 = eCJ n := by
  have b0 : 0 ≤ n / 2048 % 2 ∧ n / 2048 % 2 < 2 := ⟨by omega, by omega⟩
  have b1 : 0 ≤ n / 16 % 2 ∧ n / 16 % 2 < 2 := ⟨by omega, by omega⟩
  have b2 : 0 ≤ n / 256 % 4 ∧ n / 256 % 4 < 4 := ⟨by omega, by omega⟩
  have b3 : 0 ≤ n / 1024 % 2 ∧ n / 1024 % 2 < 2 := ⟨by omega, by omega⟩
  have b4 : 0 ≤ n / 64 % 2 ∧ n / 64 % 2 < 2 := ⟨by omega, by omega⟩
  have b5 : 0 ≤ n / 128 % 2 ∧ n / 128 % 2 < 2 := ⟨by omega, by omega⟩
  have b6 : 0 ≤ n / 2 % 8 ∧ n / 2 % 8 < 8 := ⟨by omega, by omega⟩
  have b7 : 0 ≤ n / 32 % 2 ∧ n / 32 % 2 < 2 := ⟨by omega, by omega⟩
  have g0 : fld n 11 12 1 = n / 2048 % 2 * 4096 := by simp only [fld, Int.reducePow]
  have g1 : fld n 4 11 1 = n / 16 % 2 * 2048 := by simp only [fld, Int.reducePow]
  have g2 : fld n 8 9 2 = n / 256 % 4 * 512 := by simp only [fld, Int.reducePow]
  have g3 : fld n 10 8 1 = n / 1024 % 2 * 256 := by simp only [fld, Int.reducePow]
  have g4 : fld n 6 7 1 = n / 64 % 2 * 128 := by simp only [fld, Int.reducePow]
  have g5 : fld n 7 6 1 = n / 128 % 2 * 64 := by simp only [fld, Int.reducePow]
  have g6 : fld n 1 3 3 = n / 2 % 8 * 8 := by simp only [fld, Int.reducePow]
  have g7 : fld n 5 2 1 = n / 32 % 2 * 4 := by simp only [fld, Int.reducePow]
  unfold fsCJ eCJ
  generalize n / 2048 % 2 = a0 at *
  generalize n / 16 % 2 = a1 at *
  generalize n / 256 % 4 = a2 at *
  generalize n / 1024 % 2 = a3 at *
  generalize n / 64 % 2 = a4 at *
  generalize n / 128 % 2 = a5 at *
  generalize n / 2 % 8 = a6 at *
  generalize n / 32 % 2 = a7 at *
  obtain ⟨m0, n0⟩ := b0
  obtain ⟨m1, n1⟩ := b1
  obtain ⟨m2, n2⟩ := b2
  obtain ⟨m3, n3⟩ := b3
  obtain ⟨m4, n4⟩ := b4
  obtain ⟨m5, n5⟩ := b5
  obtain ⟨m6, n6⟩ := b6
  obtain ⟨m7, n7⟩ := b7
  obtain ⟨h0, l0, u0⟩ := encL_cons n 0 11 12 1 [⟨4, 11, 1⟩, ⟨8, 9, 2⟩, ⟨10, 8, 1⟩, ⟨6, 7, 1⟩, ⟨7, 6, 1⟩, ⟨1, 3, 3⟩, ⟨5, 2, 1⟩] (by decide) (by decide) (by simp) (by decide)
  rw [g0] at h0 l0 u0
  rw [h0]
  clear h0
  obtain ⟨h1, l1, u1⟩ := encL_cons n (0 + a0 * 4096) 4 11 1 [⟨8, 9, 2⟩, ⟨10, 8, 1⟩, ⟨6, 7, 1⟩, ⟨7, 6, 1⟩, ⟨1, 3, 3⟩, ⟨5, 2, 1⟩] l0 u0 (by clear g0 g1 g2 g3 g4 g5 g6 g7; simp only [Int.reducePow]; omega) (by decide)
  rw [g1] at h1 l1 u1
  rw [h1]
  clear h1
  obtain ⟨h2, l2, u2⟩ := encL_cons n (0 + a0 * 4096 + a1 * 2048) 8 9 2 [⟨10, 8, 1⟩, ⟨6, 7, 1⟩, ⟨7, 6, 1⟩, ⟨1, 3, 3⟩, ⟨5, 2, 1⟩] l1 u1 (by clear g0 g1 g2 g3 g4 g5 g6 g7; simp only [Int.reducePow]; omega) (by decide)
  rw [g2] at h2 l2 u2
  rw [h2]
  clear h2
  obtain ⟨h3, l3, u3⟩ := encL_cons n (0 + a0 * 4096 + a1 * 2048 + a2 * 512) 10 8 1 [⟨6, 7, 1⟩, ⟨7, 6, 1⟩, ⟨1, 3, 3⟩, ⟨5, 2, 1⟩] l2 u2 (by clear g0 g1 g2 g3 g4 g5 g6 g7; simp only [Int.reducePow]; omega) (by decide)
  rw [g3] at h3 l3 u3
  rw [h3]
  clear h3
  obtain ⟨h4, l4, u4⟩ := encL_cons n (0 + a0 * 4096 + a1 * 2048 + a2 * 512 + a3 * 256) 6 7 1 [⟨7, 6, 1⟩, ⟨1, 3, 3⟩, ⟨5, 2, 1⟩] l3 u3 (by clear g0 g1 g2 g3 g4 g5 g6 g7; simp only [Int.reducePow]; omega) (by decide)
  rw [g4] at h4 l4 u4
  rw [h4]
  clear h4
  obtain ⟨h5, l5, u5⟩ := encL_cons n (0 + a0 * 4096 + a1 * 2048 + a2 * 512 + a3 * 256 + a4 * 128) 7 6 1 [⟨1, 3, 3⟩, ⟨5, 2, 1⟩] l4 u4 (by clear g0 g1 g2 g3 g4 g5 g6 g7; simp only [Int.reducePow]; omega) (by decide)
  rw [g5] at h5 l5 u5
  rw [h5]
  clear h5
  obtain ⟨h6, l6, u6⟩ := encL_cons n (0 + a0 * 4096 + a1 * 2048 + a2 * 512 + a3 * 256 + a4 * 128 + a5 * 64) 1 3 3 [⟨5, 2, 1⟩] l5 u5 (by clear g0 g1 g2 g3 g4 g5 g6 g7; simp only [Int.reducePow]; omega) (by decide)
  rw [g6] at h6 l6 u6
  rw [h6]
  clear h6
  obtain ⟨h7, l7, u7⟩ := encL_cons n (0 + a0 * 4096 + a1 * 2048 + a2 * 512 + a3 * 256 + a4 * 128 + a5 * 64 + a6 * 8) 5 2 1 [] l6 u6 (by clear g0 g1 g2 g3 g4 g5 g6 g7; simp only [Int.reducePow]; omega) (by decide)
  rw [g7] at h7 l7 u7
  rw [h7]
  clear h7
  rfl
theorem eCJ_bound (n : Int) : 0 ≤ eCJ n ∧ eCJ n < 4294967296 := by
  have b0 : 0 ≤ n / 2048 % 2 ∧ n / 2048 % 2 < 2 := ⟨by omega, by omega⟩
  have b1 : 0 ≤ n / 16 % 2 ∧ n / 16 % 2 < 2 := ⟨by omega, by omega⟩
  have b2 : 0 ≤ n / 256 % 4 ∧ n / 256 % 4 < 4 := ⟨by omega, by omega⟩
  have b3 : 0 ≤ n / 1024 % 2 ∧ n / 1024 % 2 < 2 := ⟨by omega, by omega⟩
  have b4 : 0 ≤ n / 64 % 2 ∧ n / 64 % 2 < 2 := ⟨by omega, by omega⟩
  have b5 : 0 ≤ n / 128 % 2 ∧ n / 128 % 2 < 2 := ⟨by omega, by omega⟩
  have b6 : 0 ≤ n / 2 % 8 ∧ n / 2 % 8 < 8 := ⟨by omega, by omega⟩
  have b7 : 0 ≤ n / 32 % 2 ∧ n / 32 % 2 < 2 := ⟨by omega, by omega⟩
  unfold eCJ
  generalize n / 2048 % 2 = a0 at *
  generalize n / 16 % 2 = a1 at *
  generalize n / 256 % 4 = a2 at *
  generalize n / 1024 % 2 = a3 at *
  generalize n / 64 % 2 = a4 at *
  generalize n / 128 % 2 = a5 at *
  generalize n / 2 % 8 = a6 at *
  generalize n / 32 % 2 = a7 at *
  omega
theorem valCJ_u32 (n : Int) (c1 : -2048 ≤ n) (c2 : n < 2048) (c3 : n % 2 = 0) : valCJ n % 4294967296 = eCJ n := by
  unfold valCJ eCJ
  have hp : pat (n % 4294967296) [11, 4, 9, 8, 10, 6, 7, 3, 2, 1, 5] = (((((((((((0 * 2 + n % 4294967296 / 2048 % 2) * 2 + n % 4294967296 / 16 % 2) * 2 + n % 4294967296 / 512 % 2) * 2 + n % 4294967296 / 256 % 2) * 2 + n % 4294967296 / 1024 % 2) * 2 + n % 4294967296 / 64 % 2) * 2 + n % 4294967296 / 128 % 2) * 2 + n % 4294967296 / 8 % 2) * 2 + n % 4294967296 / 4 % 2) * 2 + n % 4294967296 / 2 % 2) * 2 + n % 4294967296 / 32 % 2) := rfl
  have u11 : n % 4294967296 / 2048 % 2 = n / 2048 % 2 := by omega
  have u4 : n % 4294967296 / 16 % 2 = n / 16 % 2 := by omega
  have u9 : n % 4294967296 / 512 % 2 = n / 512 % 2 := by omega
  have u8 : n % 4294967296 / 256 % 2 = n / 256 % 2 := by omega
  have u10 : n % 4294967296 / 1024 % 2 = n / 1024 % 2 := by omega
  have u6 : n % 4294967296 / 64 % 2 = n / 64 % 2 := by omega
  have u7 : n % 4294967296 / 128 % 2 = n / 128 % 2 := by omega
  have u3 : n % 4294967296 / 8 % 2 = n / 8 % 2 := by omega
  have u2 : n % 4294967296 / 4 % 2 = n / 4 % 2 := by omega
  have u1 : n % 4294967296 / 2 % 2 = n / 2 % 2 := by omega
  have u5 : n % 4294967296 / 32 % 2 = n / 32 % 2 := by omega
  rw [u11, u4, u9, u8, u10, u6, u7, u3, u2, u1, u5] at hp
  rw [hp]
  clear hp c1 c2 c3 u11 u4 u9 u8 u10 u6 u7 u3 u2 u1 u5
  rw [show n / 256 % 4 = n / 256 % 2 * 1 + n / 512 % 2 * 2 by omega]
  rw [show n / 2 % 8 = n / 2 % 2 * 1 + n / 4 % 2 * 2 + n / 8 % 2 * 4 by omega]
  have b11 : 0 ≤ n / 2048 % 2 ∧ n / 2048 % 2 < 2 := ⟨by omega, by omega⟩
  have b4 : 0 ≤ n / 16 % 2 ∧ n / 16 % 2 < 2 := ⟨by omega, by omega⟩
  have b9 : 0 ≤ n / 512 % 2 ∧ n / 512 % 2 < 2 := ⟨by omega, by omega⟩
  have b8 : 0 ≤ n / 256 % 2 ∧ n / 256 % 2 < 2 := ⟨by omega, by omega⟩
  have b10 : 0 ≤ n / 1024 % 2 ∧ n / 1024 % 2 < 2 := ⟨by omega, by omega⟩
  have b6 : 0 ≤ n / 64 % 2 ∧ n / 64 % 2 < 2 := ⟨by omega, by omega⟩
  have b7 : 0 ≤ n / 128 % 2 ∧ n / 128 % 2 < 2 := ⟨by omega, by omega⟩
  have b3 : 0 ≤ n / 8 % 2 ∧ n / 8 % 2 < 2 := ⟨by omega, by omega⟩
  have b2 : 0 ≤ n / 4 % 2 ∧ n / 4 % 2 < 2 := ⟨by omega, by omega⟩
  have b1 : 0 ≤ n / 2 % 2 ∧ n / 2 % 2 < 2 := ⟨by omega, by omega⟩
  have b5 : 0 ≤ n / 32 % 2 ∧ n / 32 % 2 < 2 := ⟨by omega, by omega⟩
  generalize n / 2048 % 2 = x11 at *
  generalize n / 16 % 2 = x4 at *
  generalize n / 512 % 2 = x9 at *
  generalize n / 256 % 2 = x8 at *
  generalize n / 1024 % 2 = x10 at *
  generalize n / 64 % 2 = x6 at *
  generalize n / 128 % 2 = x7 at *
  generalize n / 8 % 2 = x3 at *
  generalize n / 4 % 2 = x2 at *
  generalize n / 2 % 2 = x1 at *
  generalize n / 32 % 2 = x5 at *
  obtain ⟨m11, n11⟩ := b11
  obtain ⟨m4, n4⟩ := b4
  obtain ⟨m9, n9⟩ := b9
  obtain ⟨m8, n8⟩ := b8
  obtain ⟨m10, n10⟩ := b10
  obtain ⟨m6, n6⟩ := b6
  obtain ⟨m7, n7⟩ := b7
  obtain ⟨m3, n3⟩ := b3
  obtain ⟨m2, n2⟩ := b2
  obtain ⟨m1, n1⟩ := b1
  obtain ⟨m5, n5⟩ := b5
  omega
theorem fitCJ (n : Int) : -2048 ≤ fitv 12 1 n ∧ fitv 12 1 n < 2048 ∧ fitv 12 1 n % 2 = 0 := by
  unfold fitv; simp only [Int.reducePow, Nat.reduceSub, Int.reduceNeg]; omega
theorem fitsDecCJ (n : Int) : fitsB 12 1 n = decide (-2048 ≤ n ∧ n < 2048 ∧ n % 2 = 0) := by
  unfold fitsB; simp only [Int.reducePow, Nat.reduceSub]
theorem sumCJ (n : Int) (c3 : n % 2 = 0) : n % 4096 = 0 + n / 2048 % 2 * 2048 + n / 16 % 2 * 16 + n / 256 % 4 * 256 + n / 1024 % 2 * 1024 + n / 64 % 2 * 64 + n / 128 % 2 * 128 + n / 2 % 8 * 2 + n / 32 % 2 * 32 := by
  have s0 : n % 16 = n % 2 + n / 2 % 8 * 2 := by omega
  have s1 : n % 32 = n % 16 + n / 16 % 2 * 16 := by omega
  have s2 : n % 64 = n % 32 + n / 32 % 2 * 32 := by omega
  have s3 : n % 128 = n % 64 + n / 64 % 2 * 64 := by omega
  have s4 : n % 256 = n % 128 + n / 128 % 2 * 128 := by omega
  have s5 : n % 1024 = n % 256 + n / 256 % 4 * 256 := by omega
  have s6 : n % 2048 = n % 1024 + n / 1024 % 2 * 1024 := by omega
  have s7 : n % 4096 = n % 2048 + n / 2048 % 2 * 2048 := by omega
  have z : n % 2 = 0 := c3
  rw [s7, s6, s5, s4, s3, s2, s1, s0, z]
  clear c3
  clear z s0 s1 s2 s3 s4 s5 s6 s7
  generalize n / 2048 % 2 = a0 at *
  generalize n / 16 % 2 = a1 at *
  generalize n / 256 % 4 = a2 at *
  generalize n / 1024 % 2 = a3 at *
  generalize n / 64 % 2 = a4 at *
  generalize n / 128 % 2 = a5 at *
  generalize n / 2 % 8 = a6 at *
  generalize n / 32 % 2 = a7 at *
  omega
theorem decCJ (n : Int) (c1 : -2048 ≤ n) (c2 : n < 2048) (c3 : n % 2 = 0) : decV 12 fsCJ (eCJ n) = n := by
  obtain ⟨v0, v1⟩ := eCJ_bound n
  have hs := sumCJ n c3
  have b0 : 0 ≤ n / 2048 % 2 ∧ n / 2048 % 2 < 2 := ⟨by omega, by omega⟩
  have b1 : 0 ≤ n / 16 % 2 ∧ n / 16 % 2 < 2 := ⟨by omega, by omega⟩
  have b2 : 0 ≤ n / 256 % 4 ∧ n / 256 % 4 < 4 := ⟨by omega, by omega⟩
  have b3 : 0 ≤ n / 1024 % 2 ∧ n / 1024 % 2 < 2 := ⟨by omega, by omega⟩
  have b4 : 0 ≤ n / 64 % 2 ∧ n / 64 % 2 < 2 := ⟨by omega, by omega⟩
  have b5 : 0 ≤ n / 128 % 2 ∧ n / 128 % 2 < 2 := ⟨by omega, by omega⟩
  have b6 : 0 ≤ n / 2 % 8 ∧ n / 2 % 8 < 8 := ⟨by omega, by omega⟩
  have b7 : 0 ≤ n / 32 % 2 ∧ n / 32 % 2 < 2 := ⟨by omega, by omega⟩
  have hn : (if n % 4096 / 2048 = 1 then n % 4096 - 4096 else n % 4096) = n := by split <;> omega
  have hk0 : 0 ≤ n % 4096 := by omega
  have hk1 : n % 4096 < 4096 := by omega
  generalize hv : eCJ n = v at *
  unfold eCJ at hv
  clear c1 c2 c3
  generalize n / 2048 % 2 = a0 at *
  generalize n / 16 % 2 = a1 at *
  generalize n / 256 % 4 = a2 at *
  generalize n / 1024 % 2 = a3 at *
  generalize n / 64 % 2 = a4 at *
  generalize n / 128 % 2 = a5 at *
  generalize n / 2 % 8 = a6 at *
  generalize n / 32 % 2 = a7 at *
  generalize n % 4096 = D at *
  obtain ⟨m0, n0⟩ := b0
  obtain ⟨m1, n1⟩ := b1
  obtain ⟨m2, n2⟩ := b2
  obtain ⟨m3, n3⟩ := b3
  obtain ⟨m4, n4⟩ := b4
  obtain ⟨m5, n5⟩ := b5
  obtain ⟨m6, n6⟩ := b6
  obtain ⟨m7, n7⟩ := b7
  have q0 : v / 4096 % 2 = a0 := by clear hn hs; omega
  have q1 : v / 2048 % 2 = a1 := by clear hn hs; omega
  have q2 : v / 512 % 4 = a2 := by clear hn hs; omega
  have q3 : v / 256 % 2 = a3 := by clear hn hs; omega
  have q4 : v / 128 % 2 = a4 := by clear hn hs; omega
  have q5 : v / 64 % 2 = a5 := by clear hn hs; omega
  have q6 : v / 8 % 8 = a6 := by clear hn hs; omega
  have q7 : v / 4 % 2 = a7 := by clear hn hs; omega
  have g0 : fld v 12 11 1 = a0 * 2048 := by simp only [fld, Int.reducePow, q0]
  have g1 : fld v 11 4 1 = a1 * 16 := by simp only [fld, Int.reducePow, q1]
  have g2 : fld v 9 8 2 = a2 * 256 := by simp only [fld, Int.reducePow, q2]
  have g3 : fld v 8 10 1 = a3 * 1024 := by simp only [fld, Int.reducePow, q3]
  have g4 : fld v 7 6 1 = a4 * 64 := by simp only [fld, Int.reducePow, q4]
  have g5 : fld v 6 7 1 = a5 * 128 := by simp only [fld, Int.reducePow, q5]
  have g6 : fld v 3 1 3 = a6 * 2 := by simp only [fld, Int.reducePow, q6]
  have g7 : fld v 2 5 1 = a7 * 32 := by simp only [fld, Int.reducePow, q7]
  clear hv q0 q1 q2 q3 q4 q5 q6 q7
  have hD : decL v fsCJ 0 = D := by
    unfold fsCJ
    rw [decL_cons v 0 11 12 1 [⟨4, 11, 1⟩, ⟨8, 9, 2⟩, ⟨10, 8, 1⟩, ⟨6, 7, 1⟩, ⟨7, 6, 1⟩, ⟨1, 3, 3⟩, ⟨5, 2, 1⟩] v0 v1 (by decide) (by decide) (by simp) (by decide), g0]
    rw [decL_cons v (0 + a0 * 2048) 4 11 1 [⟨8, 9, 2⟩, ⟨10, 8, 1⟩, ⟨6, 7, 1⟩, ⟨7, 6, 1⟩, ⟨1, 3, 3⟩, ⟨5, 2, 1⟩] v0 v1 (by clear hn g0 g1 g2 g3 g4 g5 g6 g7; omega) (by clear hn g0 g1 g2 g3 g4 g5 g6 g7; simp only [Int.reducePow]; omega) (by clear hn g0 g1 g2 g3 g4 g5 g6 g7; simp only [Int.reducePow]; omega) (by decide), g1]
    rw [decL_cons v (0 + a0 * 2048 + a1 * 16) 8 9 2 [⟨10, 8, 1⟩, ⟨6, 7, 1⟩, ⟨7, 6, 1⟩, ⟨1, 3, 3⟩, ⟨5, 2, 1⟩] v0 v1 (by clear hn g0 g1 g2 g3 g4 g5 g6 g7; omega) (by clear hn g0 g1 g2 g3 g4 g5 g6 g7; simp only [Int.reducePow]; omega) (by clear hn g0 g1 g2 g3 g4 g5 g6 g7; simp only [Int.reducePow]; omega) (by decide), g2]
    rw [decL_cons v (0 + a0 * 2048 + a1 * 16 + a2 * 256) 10 8 1 [⟨6, 7, 1⟩, ⟨7, 6, 1⟩, ⟨1, 3, 3⟩, ⟨5, 2, 1⟩] v0 v1 (by clear hn g0 g1 g2 g3 g4 g5 g6 g7; omega) (by clear hn g0 g1 g2 g3 g4 g5 g6 g7; simp only [Int.reducePow]; omega) (by clear hn g0 g1 g2 g3 g4 g5 g6 g7; simp only [Int.reducePow]; omega) (by decide), g3]
    rw [decL_cons v (0 + a0 * 2048 + a1 * 16 + a2 * 256 + a3 * 1024) 6 7 1 [⟨7, 6, 1⟩, ⟨1, 3, 3⟩, ⟨5, 2, 1⟩] v0 v1 (by clear hn g0 g1 g2 g3 g4 g5 g6 g7; omega) (by clear hn g0 g1 g2 g3 g4 g5 g6 g7; simp only [Int.reducePow]; omega) (by clear hn g0 g1 g2 g3 g4 g5 g6 g7; simp only [Int.reducePow]; omega) (by decide), g4]
    rw [decL_cons v (0 + a0 * 2048 + a1 * 16 + a2 * 256 + a3 * 1024 + a4 * 64) 7 6 1 [⟨1, 3, 3⟩, ⟨5, 2, 1⟩] v0 v1 (by clear hn g0 g1 g2 g3 g4 g5 g6 g7; omega) (by clear hn g0 g1 g2 g3 g4 g5 g6 g7; simp only [Int.reducePow]; omega) (by clear hn g0 g1 g2 g3 g4 g5 g6 g7; simp only [Int.reducePow]; omega) (by decide), g5]
    rw [decL_cons v (0 + a0 * 2048 + a1 * 16 + a2 * 256 + a3 * 1024 + a4 * 64 + a5 * 128) 1 3 3 [⟨5, 2, 1⟩] v0 v1 (by clear hn g0 g1 g2 g3 g4 g5 g6 g7; omega) (by clear hn g0 g1 g2 g3 g4 g5 g6 g7; simp only [Int.reducePow]; omega) (by clear hn g0 g1 g2 g3 g4 g5 g6 g7; simp only [Int.reducePow]; omega) (by decide), g6]
    rw [decL_cons v (0 + a0 * 2048 + a1 * 16 + a2 * 256 + a3 * 1024 + a4 * 64 + a5 * 128 + a6 * 2) 5 2 1 [] v0 v1 (by clear hn g0 g1 g2 g3 g4 g5 g6 g7; omega) (by clear hn g0 g1 g2 g3 g4 g5 g6 g7; simp only [Int.reducePow]; omega) (by clear hn g0 g1 g2 g3 g4 g5 g6 g7; simp only [Int.reducePow]; omega) (by decide), g7]
    rw [hs]; rfl
  rw [decV_eq 12 fsCJ v D 4096 2048 hD (by decide) (by decide) hk0 hk1 (by decide)]
  exact hn
theorem mskCJ (n : Int) : bits .andNot .u32 (eCJ n) (maskL fsCJ 0) = 0 := by
  obtain ⟨v0, v1⟩ := eCJ_bound n
  have hM : maskL fsCJ 0 = 8188 := by decide +kernel
  rw [hM]
  refine andNot_zero (eCJ n) 8188 (eCJ n).toNat 4294959107 (by omega) (by omega) (by decide) (by decide) (by decide) ?_
  have b0 : 0 ≤ n / 2048 % 2 ∧ n / 2048 % 2 < 2 := ⟨by omega, by omega⟩
  have b1 : 0 ≤ n / 16 % 2 ∧ n / 16 % 2 < 2 := ⟨by omega, by omega⟩
  have b2 : 0 ≤ n / 256 % 4 ∧ n / 256 % 4 < 4 := ⟨by omega, by omega⟩
  have b3 : 0 ≤ n / 1024 % 2 ∧ n / 1024 % 2 < 2 := ⟨by omega, by omega⟩
  have b4 : 0 ≤ n / 64 % 2 ∧ n / 64 % 2 < 2 := ⟨by omega, by omega⟩
  have b5 : 0 ≤ n / 128 % 2 ∧ n / 128 % 2 < 2 := ⟨by omega, by omega⟩
  have b6 : 0 ≤ n / 2 % 8 ∧ n / 2 % 8 < 8 := ⟨by omega, by omega⟩
  have b7 : 0 ≤ n / 32 % 2 ∧ n / 32 % 2 < 2 := ⟨by omega, by omega⟩
  generalize hv : eCJ n = v at *
  unfold eCJ at hv
  generalize n / 2048 % 2 = a0 at *
  generalize n / 16 % 2 = a1 at *
  generalize n / 256 % 4 = a2 at *
  generalize n / 1024 % 2 = a3 at *
  generalize n / 64 % 2 = a4 at *
  generalize n / 128 % 2 = a5 at *
  generalize n / 2 % 8 = a6 at *
  generalize n / 32 % 2 = a7 at *
  obtain ⟨m0, n0⟩ := b0
  obtain ⟨m1, n1⟩ := b1
  obtain ⟨m2, n2⟩ := b2
  obtain ⟨m3, n3⟩ := b3
  obtain ⟨m4, n4⟩ := b4
  obtain ⟨m5, n5⟩ := b5
  obtain ⟨m6, n6⟩ := b6
  obtain ⟨m7, n7⟩ := b7
  obtain ⟨V, rfl⟩ := Int.eq_ofNat_of_zero_le v0
  rw [Int.toNat_natCast]
  rw [show 4294959107 = (2 ^ 2 - 1) <<< 0 ||| (2 ^ 19 - 1) <<< 13 from by decide]
  exact and_or_zero _ _ _ (and_blk _ 0 2 (by simp only [Nat.reducePow]; omega)) (and_blk _ 13 19 (by simp only [Nat.reducePow]; omega))
theorem oneCJ (n m : Int) (c1 : -2048 ≤ n) (c2 : n < 2048) (c3 : n % 2 = 0) (d1 : -2048 ≤ m) (d2 : m < 2048) (d3 : m % 2 = 0) : ((valCJ n % 4294967296 == valCJ m % 4294967296) == (n == m)) = true := by
  rw [valCJ_u32 n c1 c2 c3, valCJ_u32 m d1 d2 d3]
  by_cases h : n = m
  · subst h; simp
  · have h' : eCJ n ≠ eCJ m := fun he => h (by rw [← decCJ n c1 c2 c3, ← decCJ m d1 d2 d3, he])
    rw [beq_false_of_ne h', beq_false_of_ne h]; rfl
end Go.Proofs.Ytpnihechnlkhpaa
