/-
  The plain law of the format U: its encoding is a sum of fields, decoding undoes it, no other bit is set. No program in sight. Conditions: the number is an immediate of the format.
-/
import Derived.Test.YtcofgoddhgfjaaaLaw
namespace Go.Proofs.Ytcofgoddhgfjaaa
open Go Go.RowKit
set_option linter.unusedVariables false
set_option linter.unusedSimpArgs false
def fsU : List Fd := [⟨0, 12, 20⟩]
def valU (n : Int) : Int := n * 4096
def eU (n : Int) : Int := 0 + n / 1 % 1048576 * 4096
theorem encU (n : Int) : encL n fsU 0 = eU n := by
  have b0 : 0 ≤ n / 1 % 1048576 ∧ n / 1 % 1048576 < 1048576 := ⟨by omega, by omega⟩
  have g0 : fld n 0 12 20 = n / 1 % 1048576 * 4096 := by simp only [fld, Int.reducePow]
  unfold fsU eU
  generalize n / 1 % 1048576 = a0 at *
  obtain ⟨m0, n0⟩ := b0
  obtain ⟨h0, l0, u0⟩ := encL_cons n 0 0 12 20 [] (by decide) (by decide) (by simp) (by decide)
  rw [g0] at h0 l0 u0
  rw [h0]
  clear h0
  rfl
theorem eU_bound (n : Int) : 0 ≤ eU n ∧ eU n < 4294967296 := by
  have b0 : 0 ≤ n / 1 % 1048576 ∧ n / 1 % 1048576 < 1048576 := ⟨by omega, by omega⟩
  unfold eU
  generalize n / 1 % 1048576 = a0 at *
  omega
theorem valU_u32 (n : Int) (c1 : -524288 ≤ n) (c2 : n < 524288) : valU n % 4294967296 = eU n := by
  unfold valU eU; omega
theorem fitU (n : Int) : -524288 ≤ fitv 20 0 n ∧ fitv 20 0 n < 524288 := by
  unfold fitv; simp only [Int.reducePow, Nat.reduceSub, Int.reduceNeg]; omega
theorem fitsDecU (n : Int) : fitsB 20 0 n = decide (-524288 ≤ n ∧ n < 524288 ∧ n % 1 = 0) := by
  unfold fitsB; simp only [Int.reducePow, Nat.reduceSub]
theorem sumU (n : Int) : n % 1048576 = 0 + n / 1 % 1048576 * 1 := by
  have s0 : n % 1048576 = n % 1 + n / 1 % 1048576 * 1 := by omega
  have z : n % 1 = 0 := by omega
  rw [s0, z]
theorem decU (n : Int) (c1 : -524288 ≤ n) (c2 : n < 524288) : decV 20 fsU (eU n) = n := by
  obtain ⟨v0, v1⟩ := eU_bound n
  have hs := sumU n
  have b0 : 0 ≤ n / 1 % 1048576 ∧ n / 1 % 1048576 < 1048576 := ⟨by omega, by omega⟩
  have hn : (if n % 1048576 / 524288 = 1 then n % 1048576 - 1048576 else n % 1048576) = n := by split <;> omega
  have hk0 : 0 ≤ n % 1048576 := by omega
  have hk1 : n % 1048576 < 1048576 := by omega
  generalize hv : eU n = v at *
  unfold eU at hv
  clear c1 c2
  generalize n / 1 % 1048576 = a0 at *
  generalize n % 1048576 = D at *
  obtain ⟨m0, n0⟩ := b0
  have q0 : v / 4096 % 1048576 = a0 := by clear hn hs; omega
  have g0 : fld v 12 0 20 = a0 * 1 := by simp only [fld, Int.reducePow, q0]
  clear hv q0
  have hD : decL v fsU 0 = D := by
    unfold fsU
    rw [decL_cons v 0 0 12 20 [] v0 v1 (by decide) (by decide) (by simp) (by decide), g0]
    rw [hs]; rfl
  rw [decV_eq 20 fsU v D 1048576 524288 hD (by decide) (by decide) hk0 hk1 (by decide)]
  exact hn
theorem mskU (n : Int) : bits .andNot .u32 (eU n) (maskL fsU 0) = 0 := by
  obtain ⟨v0, v1⟩ := eU_bound n
  have hM : maskL fsU 0 = 4294963200 := by decide +kernel
  rw [hM]
  refine andNot_zero (eU n) 4294963200 (eU n).toNat 4095 (by omega) (by omega) (by decide) (by decide) (by decide) ?_
  have b0 : 0 ≤ n / 1 % 1048576 ∧ n / 1 % 1048576 < 1048576 := ⟨by omega, by omega⟩
  generalize hv : eU n = v at *
  unfold eU at hv
  generalize n / 1 % 1048576 = a0 at *
  obtain ⟨m0, n0⟩ := b0
  obtain ⟨V, rfl⟩ := Int.eq_ofNat_of_zero_le v0
  rw [Int.toNat_natCast]
  rw [show 4095 = (2 ^ 12 - 1) <<< 0 from by decide]
  exact and_blk _ 0 12 (by simp only [Nat.reducePow]; omega)
theorem oneU (n m : Int) (c1 : -524288 ≤ n) (c2 : n < 524288) (d1 : -524288 ≤ m) (d2 : m < 524288) : ((valU n % 4294967296 == valU m % 4294967296) == (n == m)) = true := by
  rw [valU_u32 n c1 c2, valU_u32 m d1 d2]
  by_cases h : n = m
  · subst h; simp
  · have h' : eU n ≠ eU m := fun he => h (by rw [← decU n c1 c2, ← decU m d1 d2, he])
    rw [beq_false_of_ne h', beq_false_of_ne h]; rfl
end Go.Proofs.Ytcofgoddhgfjaaa
