/-
  The plain law of the format CB: its encoding is a sum of fields, decoding undoes it, no other bit is set. No program in sight. Conditions: the number is an immediate of the format.
-/
import Derived.Test.YtpnihechnlkhpaaLaw
namespace Go.Proofs.Ytpnihechnlkhpaa
open Go Go.RowKit
set_option linter.unusedVariables false
set_option linter.unusedSimpArgs false
def fsCB : List Fd := [⟨8, 12, 1⟩, ⟨3, 10, 2⟩, ⟨6, 5, 2⟩, ⟨1, 3, 2⟩, ⟨5, 2, 1⟩]
def valCB (n : Int) : Int := wrap64 (bits BinOp.or IntKind.u32 (pat (n % 4294967296) [8, 4, 3, 7, 6, 2, 1, 5] / 32 * 1024 % 4294967296) (bits BinOp.and IntKind.u32 (pat (n % 4294967296) [8, 4, 3, 7, 6, 2, 1, 5]) 31 * 4 % 4294967296))
def eCB (n : Int) : Int := 0 + n / 256 % 2 * 4096 + n / 8 % 4 * 1024 + n / 64 % 4 * 32 + n / 2 % 4 * 8 + n / 32 % 2 * 4
theorem encCB (n : Int) : encL n fsCB 0 = eCB n := by
  have b0 : 0 ≤ n / 256 % 2 ∧ n / 256 % 2 < 2 := ⟨by omega, by omega⟩
  have b1 : 0 ≤ n / 8 % 4 ∧ n / 8 % 4 < 4 := ⟨by omega, by omega⟩
  have b2 : 0 ≤ n / 64 % 4 ∧ n / 64 % 4 < 4 := ⟨by omega, by omega⟩
  have b3 : 0 ≤ n / 2 % 4 ∧ n / 2 % 4 < 4 := ⟨by omega, by omega⟩
  have b4 : 0 ≤ n / 32 % 2 ∧ n / 32 % 2 < 2 := ⟨by omega, by omega⟩
  have g0 : fld n 8 12 1 = n / 256 % 2 * 4096 := by simp only [fld, Int.reducePow]
  have g1 : fld n 3 10 2 = n / 8 % 4 * 1024 := by simp only [fld, Int.reducePow]
  have g2 : fld n 6 5 2 = n / 64 % 4 * 32 := by simp only [fld, Int.reducePow]
  have g3 : fld n 1 3 2 = n / 2 % 4 * 8 := by simp only [fld, Int.reducePow]
  have g4 : fld n 5 2 1 = n / 32 % 2 * 4 := by simp only [fld, Int.reducePow]
  unfold fsCB eCB
  generalize n / 256 % 2 = a0 at *
  generalize n / 8 % 4 = a1 at *
  generalize n / 64 % 4 = a2 at *
  generalize n / 2 % 4 = a3 at *
  generalize n / 32 % 2 = a4 at *
  obtain ⟨m0, n0⟩ := b0
  obtain ⟨m1, n1⟩ := b1
  obtain ⟨m2, n2⟩ := b2
  obtain ⟨m3, n3⟩ := b3
  obtain ⟨m4, n4⟩ := b4
  obtain ⟨h0, l0, u0⟩ := encL_cons n 0 8 12 1 [⟨3, 10, 2⟩, ⟨6, 5, 2⟩, ⟨1, 3, 2⟩, ⟨5, 2, 1⟩] (by decide) (by decide) (by simp) (by decide)
  rw [g0] at h0 l0 u0
  rw [h0]
  clear h0
  obtain ⟨h1, l1, u1⟩ := encL_cons n (0 + a0 * 4096) 3 10 2 [⟨6, 5, 2⟩, ⟨1, 3, 2⟩, ⟨5, 2, 1⟩] l0 u0 (by clear g0 g1 g2 g3 g4; simp only [Int.reducePow]; omega) (by decide)
  rw [g1] at h1 l1 u1
  rw [h1]
  clear h1
  obtain ⟨h2, l2, u2⟩ := encL_cons n (0 + a0 * 4096 + a1 * 1024) 6 5 2 [⟨1, 3, 2⟩, ⟨5, 2, 1⟩] l1 u1 (by clear g0 g1 g2 g3 g4; simp only [Int.reducePow]; omega) (by decide)
  rw [g2] at h2 l2 u2
  rw [h2]
  clear h2
  obtain ⟨h3, l3, u3⟩ := encL_cons n (0 + a0 * 4096 + a1 * 1024 + a2 * 32) 1 3 2 [⟨5, 2, 1⟩] l2 u2 (by clear g0 g1 g2 g3 g4; simp only [Int.reducePow]; omega) (by decide)
  rw [g3] at h3 l3 u3
  rw [h3]
  clear h3
  obtain ⟨h4, l4, u4⟩ := encL_cons n (0 + a0 * 4096 + a1 * 1024 + a2 * 32 + a3 * 8) 5 2 1 [] l3 u3 (by clear g0 g1 g2 g3 g4; simp only [Int.reducePow]; omega) (by decide)
  rw [g4] at h4 l4 u4
  rw [h4]
  clear h4
  rfl
theorem eCB_bound (n : Int) : 0 ≤ eCB n ∧ eCB n < 4294967296 := by
  have b0 : 0 ≤ n / 256 % 2 ∧ n / 256 % 2 < 2 := ⟨by omega, by omega⟩
  have b1 : 0 ≤ n / 8 % 4 ∧ n / 8 % 4 < 4 := ⟨by omega, by omega⟩
  have b2 : 0 ≤ n / 64 % 4 ∧ n / 64 % 4 < 4 := ⟨by omega, by omega⟩
  have b3 : 0 ≤ n / 2 % 4 ∧ n / 2 % 4 < 4 := ⟨by omega, by omega⟩
  have b4 : 0 ≤ n / 32 % 2 ∧ n / 32 % 2 < 2 := ⟨by omega, by omega⟩
  unfold eCB
  generalize n / 256 % 2 = a0 at *
  generalize n / 8 % 4 = a1 at *
  generalize n / 64 % 4 = a2 at *
  generalize n / 2 % 4 = a3 at *
  generalize n / 32 % 2 = a4 at *
  omega
theorem valCB_u32 (n : Int) (c1 : -256 ≤ n) (c2 : n < 256) (c3 : n % 2 = 0) : valCB n % 4294967296 = eCB n := by
  unfold valCB eCB
  have hp : pat (n % 4294967296) [8, 4, 3, 7, 6, 2, 1, 5] = ((((((((0 * 2 + n % 4294967296 / 256 % 2) * 2 + n % 4294967296 / 16 % 2) * 2 + n % 4294967296 / 8 % 2) * 2 + n % 4294967296 / 128 % 2) * 2 + n % 4294967296 / 64 % 2) * 2 + n % 4294967296 / 4 % 2) * 2 + n % 4294967296 / 2 % 2) * 2 + n % 4294967296 / 32 % 2) := rfl
  have u8 : n % 4294967296 / 256 % 2 = n / 256 % 2 := by omega
  have u4 : n % 4294967296 / 16 % 2 = n / 16 % 2 := by omega
  have u3 : n % 4294967296 / 8 % 2 = n / 8 % 2 := by omega
  have u7 : n % 4294967296 / 128 % 2 = n / 128 % 2 := by omega
  have u6 : n % 4294967296 / 64 % 2 = n / 64 % 2 := by omega
  have u2 : n % 4294967296 / 4 % 2 = n / 4 % 2 := by omega
  have u1 : n % 4294967296 / 2 % 2 = n / 2 % 2 := by omega
  have u5 : n % 4294967296 / 32 % 2 = n / 32 % 2 := by omega
  rw [u8, u4, u3, u7, u6, u2, u1, u5] at hp
  rw [hp]
  clear hp c1 c2 c3 u8 u4 u3 u7 u6 u2 u1 u5
  rw [show n / 8 % 4 = n / 8 % 2 * 1 + n / 16 % 2 * 2 by omega]
  rw [show n / 64 % 4 = n / 64 % 2 * 1 + n / 128 % 2 * 2 by omega]
  rw [show n / 2 % 4 = n / 2 % 2 * 1 + n / 4 % 2 * 2 by omega]
  have b8 : 0 ≤ n / 256 % 2 ∧ n / 256 % 2 < 2 := ⟨by omega, by omega⟩
  have b4 : 0 ≤ n / 16 % 2 ∧ n / 16 % 2 < 2 := ⟨by omega, by omega⟩
  have b3 : 0 ≤ n / 8 % 2 ∧ n / 8 % 2 < 2 := ⟨by omega, by omega⟩
  have b7 : 0 ≤ n / 128 % 2 ∧ n / 128 % 2 < 2 := ⟨by omega, by omega⟩
  have b6 : 0 ≤ n / 64 % 2 ∧ n / 64 % 2 < 2 := ⟨by omega, by omega⟩
  have b2 : 0 ≤ n / 4 % 2 ∧ n / 4 % 2 < 2 := ⟨by omega, by omega⟩
  have b1 : 0 ≤ n / 2 % 2 ∧ n / 2 % 2 < 2 := ⟨by omega, by omega⟩
  have b5 : 0 ≤ n / 32 % 2 ∧ n / 32 % 2 < 2 := ⟨by omega, by omega⟩
  generalize n / 256 % 2 = x8 at *
  generalize n / 16 % 2 = x4 at *
  generalize n / 8 % 2 = x3 at *
  generalize n / 128 % 2 = x7 at *
  generalize n / 64 % 2 = x6 at *
  generalize n / 4 % 2 = x2 at *
  generalize n / 2 % 2 = x1 at *
  generalize n / 32 % 2 = x5 at *
  obtain ⟨m8, n8⟩ := b8
  obtain ⟨m4, n4⟩ := b4
  obtain ⟨m3, n3⟩ := b3
  obtain ⟨m7, n7⟩ := b7
  obtain ⟨m6, n6⟩ := b6
  obtain ⟨m2, n2⟩ := b2
  obtain ⟨m1, n1⟩ := b1
  obtain ⟨m5, n5⟩ := b5
  have p0 : 0 ≤ ((((((((0 * 2 + x8) * 2 + x4) * 2 + x3) * 2 + x7) * 2 + x6) * 2 + x2) * 2 + x1) * 2 + x5) := by omega
  have p1 : ((((((((0 * 2 + x8) * 2 + x4) * 2 + x3) * 2 + x7) * 2 + x6) * 2 + x2) * 2 + x1) * 2 + x5) < 256 := by omega
  have p2 : ((((((((0 * 2 + x8) * 2 + x4) * 2 + x3) * 2 + x7) * 2 + x6) * 2 + x2) * 2 + x1) * 2 + x5) / 32 = x8 * 4 + x4 * 2 + x3 := by omega
  have p3 : ((((((((0 * 2 + x8) * 2 + x4) * 2 + x3) * 2 + x7) * 2 + x6) * 2 + x2) * 2 + x1) * 2 + x5) % 32 = x7 * 16 + x6 * 8 + x2 * 4 + x1 * 2 + x5 := by omega
  rw [and_lit_u32 _ 5 32 31 (by decide) (by decide) (by decide) p0 (by omega), p2, p3]
  rw [or_lit_u32 _ _ 10 1024 (by decide) (by omega) (by omega) (by omega) (by omega) (by omega) (by decide)]
  rw [IntWalk.wrap64_in _ ⟨by omega, by omega⟩]
  omega
theorem fitCB (n : Int) : -256 ≤ fitv 9 1 n ∧ fitv 9 1 n < 256 ∧ fitv 9 1 n % 2 = 0 := by
  unfold fitv; simp only [Int.reducePow, Nat.reduceSub, Int.reduceNeg]; omega
theorem fitsDecCB (n : Int) : fitsB 9 1 n = decide (-256 ≤ n ∧ n < 256 ∧ n % 2 = 0) := by
  unfold fitsB; simp only [Int.reducePow, Nat.reduceSub]
theorem sumCB (n : Int) (c3 : n % 2 = 0) : n % 512 = 0 + n / 256 % 2 * 256 + n / 8 % 4 * 8 + n / 64 % 4 * 64 + n / 2 % 4 * 2 + n / 32 % 2 * 32 := by
  have s0 : n % 8 = n % 2 + n / 2 % 4 * 2 := by omega
  have s1 : n % 32 = n % 8 + n / 8 % 4 * 8 := by omega
  have s2 : n % 64 = n % 32 + n / 32 % 2 * 32 := by omega
  have s3 : n % 256 = n % 64 + n / 64 % 4 * 64 := by omega
  have s4 : n % 512 = n % 256 + n / 256 % 2 * 256 := by omega
  have z : n % 2 = 0 := c3
  rw [s4, s3, s2, s1, s0, z]
  clear c3
  clear z s0 s1 s2 s3 s4
  generalize n / 256 % 2 = a0 at *
  generalize n / 8 % 4 = a1 at *
  generalize n / 64 % 4 = a2 at *
  generalize n / 2 % 4 = a3 at *
  generalize n / 32 % 2 = a4 at *
  omega
theorem decCB (n : Int) (c1 : -256 ≤ n) (c2 : n < 256) (c3 : n % 2 = 0) : decV 9 fsCB (eCB n) = n := by
  obtain ⟨v0, v1⟩ := eCB_bound n
  have hs := sumCB n c3
  have b0 : 0 ≤ n / 256 % 2 ∧ n / 256 % 2 < 2 := ⟨by omega, by omega⟩
  have b1 : 0 ≤ n / 8 % 4 ∧ n / 8 % 4 < 4 := ⟨by omega, by omega⟩
  have b2 : 0 ≤ n / 64 % 4 ∧ n / 64 % 4 < 4 := ⟨by omega, by omega⟩
  have b3 : 0 ≤ n / 2 % 4 ∧ n / 2 % 4 < 4 := ⟨by omega, by omega⟩
  have b4 : 0 ≤ n / 32 % 2 ∧ n / 32 % 2 < 2 := ⟨by omega, by omega⟩
  have hn : (if n % 512 / 256 = 1 then n % 512 - 512 else n % 512) = n := by split <;> omega
  have hk0 : 0 ≤ n % 512 := by omega
  have hk1 : n % 512 < 512 := by omega
  generalize hv : eCB n = v at *
  unfold eCB at hv
  clear c1 c2 c3
  generalize n / 256 % 2 = a0 at *
  generalize n / 8 % 4 = a1 at *
  generalize n / 64 % 4 = a2 at *
  generalize n / 2 % 4 = a3 at *
  generalize n / 32 % 2 = a4 at *
  generalize n % 512 = D at *
  obtain ⟨m0, n0⟩ := b0
  obtain ⟨m1, n1⟩ := b1
  obtain ⟨m2, n2⟩ := b2
  obtain ⟨m3, n3⟩ := b3
  obtain ⟨m4, n4⟩ := b4
  have q0 : v / 4096 % 2 = a0 := by clear hn hs; omega
  have q1 : v / 1024 % 4 = a1 := by clear hn hs; omega
  have q2 : v / 32 % 4 = a2 := by clear hn hs; omega
  have q3 : v / 8 % 4 = a3 := by clear hn hs; omega
  have q4 : v / 4 % 2 = a4 := by clear hn hs; omega
  have g0 : fld v 12 8 1 = a0 * 256 := by simp only [fld, Int.reducePow, q0]
  have g1 : fld v 10 3 2 = a1 * 8 := by simp only [fld, Int.reducePow, q1]
  have g2 : fld v 5 6 2 = a2 * 64 := by simp only [fld, Int.reducePow, q2]
  have g3 : fld v 3 1 2 = a3 * 2 := by simp only [fld, Int.reducePow, q3]
  have g4 : fld v 2 5 1 = a4 * 32 := by simp only [fld, Int.reducePow, q4]
  clear hv q0 q1 q2 q3 q4
  have hD : decL v fsCB 0 = D := by
    unfold fsCB
    rw [decL_cons v 0 8 12 1 [⟨3, 10, 2⟩, ⟨6, 5, 2⟩, ⟨1, 3, 2⟩, ⟨5, 2, 1⟩] v0 v1 (by decide) (by decide) (by simp) (by decide), g0]
    rw [decL_cons v (0 + a0 * 256) 3 10 2 [⟨6, 5, 2⟩, ⟨1, 3, 2⟩, ⟨5, 2, 1⟩] v0 v1 (by clear hn g0 g1 g2 g3 g4; omega) (by clear hn g0 g1 g2 g3 g4; simp only [Int.reducePow]; omega) (by clear hn g0 g1 g2 g3 g4; simp only [Int.reducePow]; omega) (by decide), g1]
    rw [decL_cons v (0 + a0 * 256 + a1 * 8) 6 5 2 [⟨1, 3, 2⟩, ⟨5, 2, 1⟩] v0 v1 (by clear hn g0 g1 g2 g3 g4; omega) (by clear hn g0 g1 g2 g3 g4; simp only [Int.reducePow]; omega) (by clear hn g0 g1 g2 g3 g4; simp only [Int.reducePow]; omega) (by decide), g2]
    rw [decL_cons v (0 + a0 * 256 + a1 * 8 + a2 * 64) 1 3 2 [⟨5, 2, 1⟩] v0 v1 (by clear hn g0 g1 g2 g3 g4; omega) (by clear hn g0 g1 g2 g3 g4; simp only [Int.reducePow]; omega) (by clear hn g0 g1 g2 g3 g4; simp only [Int.reducePow]; omega) (by decide), g3]
    rw [decL_cons v (0 + a0 * 256 + a1 * 8 + a2 * 64 + a3 * 2) 5 2 1 [] v0 v1 (by clear hn g0 g1 g2 g3 g4; omega) (by clear hn g0 g1 g2 g3 g4; simp only [Int.reducePow]; omega) (by clear hn g0 g1 g2 g3 g4; simp only [Int.reducePow]; omega) (by decide), g4]
    rw [hs]; rfl
  rw [decV_eq 9 fsCB v D 512 256 hD (by decide) (by decide) hk0 hk1 (by decide)]
  exact hn
theorem mskCB (n : Int) : bits .andNot .u32 (eCB n) (maskL fsCB 0) = 0 := by
  obtain ⟨v0, v1⟩ := eCB_bound n
  have hM : maskL fsCB 0 = 7292 := by decide +kernel
  rw [hM]
  refine andNot_zero (eCB n) 7292 (eCB n).toNat 4294960003 (by omega) (by omega) (by decide) (by decide) (by decide) ?_
  have b0 : 0 ≤ n / 256 % 2 ∧ n / 256 % 2 < 2 := ⟨by omega, by omega⟩
  have b1 : 0 ≤ n / 8 % 4 ∧ n / 8 % 4 < 4 := ⟨by omega, by omega⟩
  have b2 : 0 ≤ n / 64 % 4 ∧ n / 64 % 4 < 4 := ⟨by omega, by omega⟩
  have b3 : 0 ≤ n / 2 % 4 ∧ n / 2 % 4 < 4 := ⟨by omega, by omega⟩
  have b4 : 0 ≤ n / 32 % 2 ∧ n / 32 % 2 < 2 := ⟨by omega, by omega⟩
  generalize hv : eCB n = v at *
  unfold eCB at hv
  generalize n / 256 % 2 = a0 at *
  generalize n / 8 % 4 = a1 at *
  generalize n / 64 % 4 = a2 at *
  generalize n / 2 % 4 = a3 at *
  generalize n / 32 % 2 = a4 at *
  obtain ⟨m0, n0⟩ := b0
  obtain ⟨m1, n1⟩ := b1
  obtain ⟨m2, n2⟩ := b2
  obtain ⟨m3, n3⟩ := b3
  obtain ⟨m4, n4⟩ := b4
  obtain ⟨V, rfl⟩ := Int.eq_ofNat_of_zero_le v0
  rw [Int.toNat_natCast]
  rw [show 4294960003 = (2 ^ 2 - 1) <<< 0 ||| (2 ^ 3 - 1) <<< 7 ||| (2 ^ 19 - 1) <<< 13 from by decide]
  exact and_or_zero _ _ _ (and_or_zero _ _ _ (and_blk _ 0 2 (by simp only [Nat.reducePow]; omega)) (and_blk _ 7 3 (by simp only [Nat.reducePow]; omega))) (and_blk _ 13 19 (by simp only [Nat.reducePow]; omega))
theorem oneCB (n m : Int) (c1 : -256 ≤ n) (c2 : n < 256) (c3 : n % 2 = 0) (d1 : -256 ≤ m) (d2 : m < 256) (d3 : m % 2 = 0) : ((valCB n % 4294967296 == valCB m % 4294967296) == (n == m)) = true := by
  rw [valCB_u32 n c1 c2 c3, valCB_u32 m d1 d2 d3]
  by_cases h : n = m
  · subst h; simp
  · have h' : eCB n ≠ eCB m := fun he => h (by rw [← decCB n c1 c2 c3, ← decCB m d1 d2 d3, he])
    rw [beq_false_of_ne h', beq_false_of_ne h]; rfl
end Go.Proofs.Ytpnihechnlkhpaa
