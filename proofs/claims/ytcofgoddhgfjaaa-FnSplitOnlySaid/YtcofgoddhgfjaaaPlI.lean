/-
  The plain law of the format I: its encoding is a sum of fields, decoding undoes it, no other bit is set. No program in sight. Conditions: the number is an immediate of the format.
-/
import Derived.Test.YtcofgoddhgfjaaaLaw
namespace Go.Proofs.Ytcofgoddhgfjaaa
open Go Go.RowKit
set_option linter.unusedVariables false
set_option linter.unusedSimpArgs false
def fsI : List Fd := [⟨0, 20, 12⟩]
def valI (n : Int) : Int := n * 1048576
def eI (n : Int) : Int := 0 + n / 1 % 4096 * 1048576
theorem encI (n : Int) : encL n fsI 0 = eI n := by
  have b0 : 0 ≤ n / 1 % 4096 ∧ n / 1 % 4096 < 4096 := ⟨by omega, by omega⟩
  have g0 : fld n 0 20 12 = n / 1 % 4096 * 1048576 := by simp only [fld, Int.reducePow]
  unfold fsI eI
  generalize n / 1 % 4096 = a0 at *
  obtain ⟨m0, n0⟩ := b0
  obtain ⟨h0, l0, u0⟩ := encL_cons n 0 0 20 12 [] (by decide) (by decide) (by simp) (by decide)
  rw [g0] at h0 l0 u0
  rw [h0]
  clear h0
  rfl
theorem eI_bound (n : Int) : 0 ≤ eI n ∧ eI n < 4294967296 := by
  have b0 : 0 ≤ n / 1 % 4096 ∧ n / 1 % 4096 < 4096 := ⟨by omega, by omega⟩
  unfold eI
  generalize n / 1 % 4096 = a0 at *
  omega
theorem valI_u32 (n : Int) (c1 : -2048 ≤ n) (c2 : n < 2048) : valI n % 4294967296 = eI n := by
  unfold valI eI; omega
theorem fitI (n : Int) : -2048 ≤ fitv 12 0 n ∧ fitv 12 0 n < 2048 := by
  unfold fitv; simp only [Int.reducePow, Nat.reduceSub, Int.reduceNeg]; omega
theorem fitsDecI (n : Int) : fitsB 12 0 n = decide (-2048 ≤ n ∧ n < 2048 ∧ n % 1 = 0) := by
  unfold fitsB; simp only [Int.reducePow, Nat.reduceSub]
theorem sumI (n : Int) : n % 4096 = 0 + n / 1 % 4096 * 1 := by
  have s0 : n % 4096 = n % 1 + n / 1 % 4096 * 1 := by omega
  have z : n % 1 = 0 := by omega
  rw [s0, z]
theorem decI (n : Int) (c1 : -2048 ≤ n) (c2 : n < 2048) : decV 12 fsI (eI n) = n := by
  obtain ⟨v0, v1⟩ := eI_bound n
  have hs := sumI n
  have b0 : 0 ≤ n / 1 % 4096 ∧ n / 1 % 4096 < 4096 := ⟨by omega, by omega⟩
  have hn : (if n % 4096 / 2048 = 1 then n % 4096 - 4096 else n % 4096) = n := by split <;> omega
  have hk0 : 0 ≤ n % 4096 := by omega
  have hk1 : n % 4096 < 4096 := by omega
  generalize hv : eI n = v at *
  unfold eI at hv
  clear c1 c2
  generalize n / 1 % 4096 = a0 at *
  generalize n % 4096 = D at *
  obtain ⟨m0, n0⟩ := b0
  have q0 : v / 1048576 % 4096 = a0 := by clear hn hs; omega
  have g0 : fld v 20 0 12 = a0 * 1 := by simp only [fld, Int.reducePow, q0]
  clear hv q0
  have hD : decL v fsI 0 = D := by
    unfold fsI
    rw [decL_cons v 0 0 20 12 [] v0 v1 (by decide) (by decide) (by simp) (by decide), g0]
    rw [hs]; rfl
  rw [decV_eq 12 fsI v D 4096 2048 hD (by decide) (by decide) hk0 hk1 (by decide)]
  exact hn
theorem mskI (n : Int) : bits .andNot .u32 (eI n) (maskL fsI 0) = 0 := by
  obtain ⟨v0, v1⟩ := eI_bound n
  have hM : maskL fsI 0 = 4293918720 := by decide +kernel
  rw [hM]
  refine andNot_zero (eI n) 4293918720 (eI n).toNat 1048575 (by omega) (by omega) (by decide) (by decide) (by decide) ?_
  have b0 : 0 ≤ n / 1 % 4096 ∧ n / 1 % 4096 < 4096 := ⟨by omega, by omega⟩
  generalize hv : eI n = v at *
  unfold eI at hv
  generalize n / 1 % 4096 = a0 at *
  obtain ⟨m0, n0⟩ := b0
  obtain ⟨V, rfl⟩ := Int.eq_ofNat_of_zero_le v0
  rw [Int.toNat_natCast]
  rw [show 1048575 = (2 ^ 20 - 1) <<< 0 from by decide]
  exact and_blk _ 0 20 (by simp only [Nat.reducePow]; omega)
theorem oneI (n m : Int) (c1 : -2048 ≤ n) (c2 : n < 2048) (d1 : -2048 ≤ m) (d2 : m < 2048) : ((valI n % 4294967296 == valI m % 4294967296) == (n == m)) = true := by
  rw [valI_u32 n c1 c2, valI_u32 m d1 d2]
  by_cases h : n = m
  · subst h; simp
  · have h' : eI n ≠ eI m := fun he => h (by rw [← decI n c1 c2, ← decI m d1 d2, he])
    rw [beq_false_of_ne h', beq_false_of_ne h]; rfl
end Go.Proofs.Ytcofgoddhgfjaaa
