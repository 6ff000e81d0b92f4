/-
  The plain law of the format S: its encoding is a sum of fields, decoding undoes it, no other bit is set. No program in sight. Conditions: the number is an immediate of the format.
-/
import Derived.Test.YtcofgoddhgfjaaaLaw
namespace Go.Proofs.Ytcofgoddhgfjaaa
open Go Go.RowKit
set_option linter.unusedVariables false
set_option linter.unusedSimpArgs false
def fsS : List Fd := [⟨5, 25, 7⟩, ⟨0, 7, 5⟩]
def valS (n : Int) : Int := bits BinOp.or IntKind.i64 (n / 32 * 33554432) (wrap64 (bits BinOp.and IntKind.i64 n 31 * 128))
def eS (n : Int) : Int := 0 + n / 32 % 128 * 33554432 + n / 1 % 32 * 128
theorem encS (n : Int) : encL n fsS 0 = eS n := by
  have b0 : 0 ≤ n / 32 % 128 ∧ n / 32 % 128 < 128 := ⟨by omega, by omega⟩
  have b1 : 0 ≤ n / 1 % 32 ∧ n / 1 % 32 < 32 := ⟨by omega, by omega⟩
  have g0 : fld n 5 25 7 = n / 32 % 128 * 33554432 := by simp only [fld, Int.reducePow]
  have g1 : fld n 0 7 5 = n / 1 % 32 * 128 := by simp only [fld, Int.reducePow]
  unfold fsS eS
  generalize n / 32 % 128 = a0 at *
  generalize n / 1 % 32 = a1 at *
  obtain ⟨m0, n0⟩ := b0
  obtain ⟨m1, n1⟩ := b1
  obtain ⟨h0, l0, u0⟩ := encL_cons n 0 5 25 7 [⟨0, 7, 5⟩] (by decide) (by decide) (by simp) (by decide)
  rw [g0] at h0 l0 u0
  rw [h0]
  clear h0
  obtain ⟨h1, l1, u1⟩ := encL_cons n (0 + a0 * 33554432) 0 7 5 [] l0 u0 (by clear g0 g1; simp only [Int.reducePow]; omega) (by decide)
  rw [g1] at h1 l1 u1
  rw [h1]
  clear h1
  rfl
theorem eS_bound (n : Int) : 0 ≤ eS n ∧ eS n < 4294967296 := by
  have b0 : 0 ≤ n / 32 % 128 ∧ n / 32 % 128 < 128 := ⟨by omega, by omega⟩
  have b1 : 0 ≤ n / 1 % 32 ∧ n / 1 % 32 < 32 := ⟨by omega, by omega⟩
  unfold eS
  generalize n / 32 % 128 = a0 at *
  generalize n / 1 % 32 = a1 at *
  omega
theorem valS_u32 (n : Int) (c1 : -2048 ≤ n) (c2 : n < 2048) : valS n % 4294967296 = eS n := by
  unfold valS eS
  rw [and_lit_i64 n 5 32 31 (by decide) (by decide) (by decide), IntWalk.wrap64_in (n % 32 * 128) ⟨by omega, by omega⟩, or_lit_i64 _ _ 12 4096 (by decide) (by omega) (by omega) (by omega) (by omega) (by omega) (by decide)]
  omega
theorem fitS (n : Int) : -2048 ≤ fitv 12 0 n ∧ fitv 12 0 n < 2048 := by
  unfold fitv; simp only [Int.reducePow, Nat.reduceSub, Int.reduceNeg]; omega
theorem fitsDecS (n : Int) : fitsB 12 0 n = decide (-2048 ≤ n ∧ n < 2048 ∧ n % 1 = 0) := by
  unfold fitsB; simp only [Int.reducePow, Nat.reduceSub]
theorem sumS (n : Int) : n % 4096 = 0 + n / 32 % 128 * 32 + n / 1 % 32 * 1 := by
  have s0 : n % 32 = n % 1 + n / 1 % 32 * 1 := by omega
  have s1 : n % 4096 = n % 32 + n / 32 % 128 * 32 := by omega
  have z : n % 1 = 0 := by omega
  rw [s1, s0, z]
  clear z s0 s1
  generalize n / 32 % 128 = a0 at *
  generalize n / 1 % 32 = a1 at *
  omega
theorem decS (n : Int) (c1 : -2048 ≤ n) (c2 : n < 2048) : decV 12 fsS (eS n) = n := by
  obtain ⟨v0, v1⟩ := eS_bound n
  have hs := sumS n
  have b0 : 0 ≤ n / 32 % 128 ∧ n / 32 % 128 < 128 := ⟨by omega, by omega⟩
  have b1 : 0 ≤ n / 1 % 32 ∧ n / 1 % 32 < 32 := ⟨by omega, by omega⟩
  have hn : (if n % 4096 / 2048 = 1 then n % 4096 - 4096 else n % 4096) = n := by split <;> omega
  have hk0 : 0 ≤ n % 4096 := by omega
  have hk1 : n % 4096 < 4096 := by omega
  generalize hv : eS n = v at *
  unfold eS at hv
  clear c1 c2
  generalize n / 32 % 128 = a0 at *
  generalize n / 1 % 32 = a1 at *
  generalize n % 4096 = D at *
  obtain ⟨m0, n0⟩ := b0
  obtain ⟨m1, n1⟩ := b1
  have q0 : v / 33554432 % 128 = a0 := by clear hn hs; omega
  have q1 : v / 128 % 32 = a1 := by clear hn hs; omega
  have g0 : fld v 25 5 7 = a0 * 32 := by simp only [fld, Int.reducePow, q0]
  have g1 : fld v 7 0 5 = a1 * 1 := by simp only [fld, Int.reducePow, q1]
  clear hv q0 q1
  have hD : decL v fsS 0 = D := by
    unfold fsS
    rw [decL_cons v 0 5 25 7 [⟨0, 7, 5⟩] v0 v1 (by decide) (by decide) (by simp) (by decide), g0]
    rw [decL_cons v (0 + a0 * 32) 0 7 5 [] v0 v1 (by clear hn g0 g1; omega) (by clear hn g0 g1; simp only [Int.reducePow]; omega) (by clear hn g0 g1; simp only [Int.reducePow]; omega) (by decide), g1]
    rw [hs]; rfl
  rw [decV_eq 12 fsS v D 4096 2048 hD (by decide) (by decide) hk0 hk1 (by decide)]
  exact hn
theorem mskS (n : Int) : bits .andNot .u32 (eS n) (maskL fsS 0) = 0 := by
  obtain ⟨v0, v1⟩ := eS_bound n
  have hM : maskL fsS 0 = 4261416832 := by decide +kernel
  rw [hM]
  refine andNot_zero (eS n) 4261416832 (eS n).toNat 33550463 (by omega) (by omega) (by decide) (by decide) (by decide) ?_
  have b0 : 0 ≤ n / 32 % 128 ∧ n / 32 % 128 < 128 := ⟨by omega, by omega⟩
  have b1 : 0 ≤ n / 1 % 32 ∧ n / 1 % 32 < 32 := ⟨by omega, by omega⟩
  generalize hv : eS n = v at *
  unfold eS at hv
  generalize n / 32 % 128 = a0 at *
  generalize n / 1 % 32 = a1 at *
  obtain ⟨m0, n0⟩ := b0
  obtain ⟨m1, n1⟩ := b1
  obtain ⟨V, rfl⟩ := Int.eq_ofNat_of_zero_le v0
  rw [Int.toNat_natCast]
  rw [show 33550463 = (2 ^ 7 - 1) <<< 0 ||| (2 ^ 13 - 1) <<< 12 from by decide]
  exact and_or_zero _ _ _ (and_blk _ 0 7 (by simp only [Nat.reducePow]; omega)) (and_blk _ 12 13 (by simp only [Nat.reducePow]; omega))
theorem oneS (n m : Int) (c1 : -2048 ≤ n) (c2 : n < 2048) (d1 : -2048 ≤ m) (d2 : m < 2048) : ((valS n % 4294967296 == valS m % 4294967296) == (n == m)) = true := by
  rw [valS_u32 n c1 c2, valS_u32 m d1 d2]
  by_cases h : n = m
  · subst h; simp
  · have h' : eS n ≠ eS m := fun he => h (by rw [← decS n c1 c2, ← decS m d1 d2, he])
    rw [beq_false_of_ne h', beq_false_of_ne h]; rfl
end Go.Proofs.Ytcofgoddhgfjaaa
