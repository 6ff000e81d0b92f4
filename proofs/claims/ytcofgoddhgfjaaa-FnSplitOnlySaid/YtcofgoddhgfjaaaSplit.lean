/-
  Split32BitImmediate and impl.Split, walked: a number of 32 bits with a sign is split into a lower part of 12 and an upper one of 20 bits; other numbers are refused. No conditions beyond those of each theorem.
-/
import Derived.Test.YtcofgoddhgfjaaaErr
import Derived.Test.YtcofgoddhgfjaaaLaw
namespace Go.Proofs.Ytcofgoddhgfjaaa
open Go Go.RowKit
set_option linter.unusedVariables false
set_option linter.unusedSimpArgs false

def lo (n : Int) : Int := (n + 2048) % 4096 - 2048
def hi (n : Int) : Int := ((n + 2048) / 4096 + 524288) % 1048576 - 524288

theorem sext12 (n : Int) : sext 12 n = lo n := by unfold sext lo; simp only [Int.reducePow, Nat.reduceSub]
theorem sext20 (n : Int) : sext 20 n = (n + 524288) % 1048576 - 524288 := by unfold sext; simp only [Int.reducePow, Nat.reduceSub]
theorem and_2048 (n : Int) : bits .and .i64 n 2048 = n / 2048 % 2 * 2048 := by
  show IntKind.i64.wrap ((BitVec.ofInt 64 n &&& BitVec.ofInt 64 2048).toNat : Int) = _
  rw [BitVec.toNat_and, ofInt_nat, show (BitVec.ofInt 64 2048).toNat = (2 ^ 1 - 1) <<< 11 from by decide, and_blk_val, Nat.shiftLeft_eq]
  apply wrap64_of
  · simp only [Nat.reducePow]; omega
  · omega
  · omega

theorem sx_any (n b : Int) (k : Nat) (w : World) (hk : (k : Int) = b) (h1 : 1 ≤ k) (h2 : k ≤ 64) :
    Calls Try.prog 19 #[.int .i64 n, .int .u64 b] w fun e w' => e = .returned (.int .i64 (sext k n)) ∧ w = w' := by
  have H := Lib.hid (sext_shift k n h1 h2)
  have e : (64 - b).toNat = 64 - k := by omega
  have l1 : 1 ≤ b := by omega
  have l2 : b ≤ 64 := by omega
  clear hk h1 h2
  go_enter Try.func19, Try.ntmps19
  go_wp2
  go_ret
  exact ⟨ret_int H.out, rfl⟩


theorem split32_small (n : Int) (w : World) (c1 : -2048 ≤ n) (c2 : n < 2048) :
    Calls Try.prog 14 #[.int .i64 n] w fun e w' => e = .returned (.tuple #[.int .i64 n, .int .i64 0, .nilIface]) ∧ w = w' := by
  go_enter Try.func14, Try.ntmps14
  go_wp2_with fail
  refine (immIFits_yes n 2147483648 32 _ (by decide) (by decide) (by decide) (by omega) (by omega)).mono ?_
  rintro e w' ⟨rfl, rfl⟩
  go_wp2_with fail
  refine (immIFits_yes n 2048 12 _ (by decide) (by decide) (by decide) c1 c2).mono ?_
  rintro e w' ⟨rfl, rfl⟩
  go_wp2_with fail
  go_ret3
  exact ⟨rfl, rfl⟩

theorem ret_split {a b c d : Int} (h1 : a = c) (h2 : b = d) : Ending.returned (.tuple #[.int .i64 a, .int .i64 b, .nilIface]) = .returned (.tuple #[.int .i64 c, .int .i64 d, .nilIface]) := by rw [h1, h2]

theorem split32_great (n : Int) (w : World) (c1 : -2147483648 ≤ n) (c2 : n < 2147483648) (c : n < -2048 ∨ 2048 ≤ n) :
    Calls Try.prog 14 #[.int .i64 n] w fun e w' => e = .returned (.tuple #[.int .i64 (lo n), .int .i64 (hi n), .nilIface]) ∧ Below w.heap.size w w' := by
  have C := Lib.hid c
  clear c
  by_cases h : n / 2048 % 2 = 0
  · have t : (bits .and .i64 n 2048 != 0) = false := by rw [and_2048, h]; rfl
    have HH := Lib.hid (show sext 20 (n / 4096) = hi n by rw [sext20]; unfold hi; omega)
    clear h
    go_enter Try.func14, Try.ntmps14
    go_wp2_with fail
    refine (immIFits_yes n 2147483648 32 _ (by decide) (by decide) (by decide) (by omega) (by omega)).mono ?_
    rintro e w' ⟨rfl, rfl⟩
    go_wp2_with fail
    refine (immIFits_no n 2048 12 _ (by decide) (by decide) (by decide) C.out).mono ?_
    rintro e w1 ⟨rfl, hb1⟩
    go_wp2_with fail
    refine (sx_any _ _ 12 _ rfl (by decide) (by decide)).mono ?_
    rintro e w2 ⟨rfl, rfl⟩
    go_wp2_with fail
    refine (sx_any _ _ 20 _ rfl (by decide) (by decide)).mono ?_
    rintro e w3 ⟨rfl, rfl⟩
    go_wp2_with fail
    go_ret3
    exact ⟨ret_split (sext12 n) HH.out, hb1⟩
  · have t : (bits .and .i64 n 2048 != 0) = true := by rw [and_2048, show n / 2048 % 2 = 1 by omega]; rfl
    have HH := Lib.hid (show sext 20 (n / 4096 + 1) = hi n by rw [sext20]; unfold hi; omega)
    clear h
    go_enter Try.func14, Try.ntmps14
    go_wp2_with fail
    refine (immIFits_yes n 2147483648 32 _ (by decide) (by decide) (by decide) (by omega) (by omega)).mono ?_
    rintro e w' ⟨rfl, rfl⟩
    go_wp2_with fail
    refine (immIFits_no n 2048 12 _ (by decide) (by decide) (by decide) C.out).mono ?_
    rintro e w1 ⟨rfl, hb1⟩
    go_wp2_with fail
    refine (sx_any _ _ 12 _ rfl (by decide) (by decide)).mono ?_
    rintro e w2 ⟨rfl, rfl⟩
    go_wp2_with fail
    refine (sx_any _ _ 20 _ rfl (by decide) (by decide)).mono ?_
    rintro e w3 ⟨rfl, rfl⟩
    go_wp2_with fail
    go_ret3
    exact ⟨ret_split (sext12 n) HH.out, hb1⟩

theorem split32_yes (n : Int) (w : World) (c1 : -2147483648 ≤ n) (c2 : n < 2147483648) :
    Calls Try.prog 14 #[.int .i64 n] w fun e w' => e = .returned (.tuple #[.int .i64 (lo n), .int .i64 (hi n), .nilIface]) ∧ Below w.heap.size w w' := by
  by_cases h : n < -2048 ∨ 2048 ≤ n
  · exact split32_great n w c1 c2 h
  · refine (split32_small n w (by omega) (by omega)).mono ?_
    rintro e w' ⟨rfl, rfl⟩
    exact ⟨ret_split (by unfold lo; omega) (by unfold hi; omega), Below.refl _ _⟩

theorem split32_no (n : Int) (w : World) (c : n < -2147483648 ∨ 2147483648 ≤ n) :
    Calls Try.prog 14 #[.int .i64 n] w fun e w' => e = .returned (.tuple #[.int .i64 0, .int .i64 0, .iface 48 (.pointer (some ⟨w.heap.size, 0, none⟩))]) ∧ Below w.heap.size w w' := by
  have C := Lib.hid c
  clear c
  go_enter Try.func14, Try.ntmps14
  go_wp2_with fail
  refine (immIFits_no n 2147483648 32 _ (by decide) (by decide) (by decide) C.out).mono ?_
  rintro e w1 ⟨rfl, hb1⟩
  go_wp2_with fail
  go_ret3
  exact ⟨rfl, hb1⟩

theorem split_yes (n : Int) (w : World) (c1 : -2147483648 ≤ n) (c2 : n < 2147483648) :
    Calls Try.prog 7 #[.int .i64 n] w fun e w' => e = .returned (.tuple #[.int .i64 (lo n), .int .i64 (hi n), .bool true]) ∧ Below w.heap.size w w' := by
  go_enter Try.func7, Try.ntmps7
  go_wp2_with fail
  refine (split32_yes n _ c1 c2).mono ?_
  rintro e w1 ⟨rfl, hb1⟩
  go_wp2_with fail
  go_region
  go_wp2
  go_ret3
  exact ⟨rfl, hb1.drew⟩
theorem split_no (n : Int) (w : World) (c : n < -2147483648 ∨ 2147483648 ≤ n) :
    Calls Try.prog 7 #[.int .i64 n] w fun e w' => e = .returned (.tuple #[.int .i64 0, .int .i64 0, .bool false]) ∧ Below w.heap.size w w' := by
  have C := Lib.hid c
  clear c
  go_enter Try.func7, Try.ntmps7
  go_wp2_with fail
  refine (split32_no n _ C.out).mono ?_
  rintro e w1 ⟨rfl, hb1⟩
  go_wp2_with fail
  go_region
  go_wp2
  go_ret3
  exact ⟨rfl, hb1.drew⟩
end Go.Proofs.Ytcofgoddhgfjaaa
