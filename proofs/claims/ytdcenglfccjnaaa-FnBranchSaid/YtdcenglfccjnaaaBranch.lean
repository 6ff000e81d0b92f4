/-
  The law FnBranch, walked: it returns true for every number and writes nothing that was there. No conditions.
-/
import Derived.Test.YtdcenglfccjnaaaEnB
import Derived.Test.YtdcenglfccjnaaaEnS
namespace Go.Proofs.Ytdcenglfccjnaaa
open Go Go.RowKit
set_option linter.unusedVariables false
set_option linter.unusedSimpArgs false

theorem branch1 (n : Int) (c1 : -2048 ≤ n) (c2 : n < 2048) (c3 : n % 2 = 0) : (bits .and .u32 (valS n % 4294967296) 2113933056 == bits .and .u32 (valB n % 4294967296) 2113933056) = true := by
  obtain ⟨i0, i1⟩ := eB_bound n
  obtain ⟨s0, s1⟩ := eS_bound n
  rw [valB_u32 n (by omega) (by omega) c3, valS_u32 n c1 c2, u32_and _ _ s0 s1 (by decide) (by decide), u32_and _ _ i0 i1 (by decide) (by decide)]
  have h1 : eS n / 33554432 % 64 = eB n / 33554432 % 64 := by
    have a : eS n / 33554432 = n / 32 % 128 := by unfold eS; omega
    have b : eB n / 33554432 % 64 = n / 32 % 64 := by
      have b0 : 0 ≤ n / 4096 % 2 ∧ n / 4096 % 2 < 2 := ⟨by omega, by omega⟩
      have b1 : 0 ≤ n / 32 % 64 ∧ n / 32 % 64 < 64 := ⟨by omega, by omega⟩
      have b2 : 0 ≤ n / 2 % 16 ∧ n / 2 % 16 < 16 := ⟨by omega, by omega⟩
      have b3 : 0 ≤ n / 2048 % 2 ∧ n / 2048 % 2 < 2 := ⟨by omega, by omega⟩
      unfold eB
      generalize n / 4096 % 2 = a0 at *
      generalize n / 32 % 64 = a1 at *
      generalize n / 2 % 16 = a2 at *
      generalize n / 2048 % 2 = a3 at *
      clear c1 c2 c3 i0 i1 s0 s1 a
      omega
    rw [a, b]; omega
  have h2 : eS n / 256 % 16 = eB n / 256 % 16 := by
    have a : eS n / 256 % 16 = n % 32 / 2 := by
      have b0 : 0 ≤ n / 32 % 128 ∧ n / 32 % 128 < 128 := ⟨by omega, by omega⟩
      have b1 : 0 ≤ n % 32 ∧ n % 32 < 32 := ⟨by omega, by omega⟩
      unfold eS
      rw [Int.ediv_one]
      generalize n / 32 % 128 = a0 at *
      generalize n % 32 = a1 at *
      clear c1 c2 c3 i0 i1 s0 s1 h1
      omega
    have b : eB n / 256 % 16 = n / 2 % 16 := by
      have b0 : 0 ≤ n / 4096 % 2 ∧ n / 4096 % 2 < 2 := ⟨by omega, by omega⟩
      have b1 : 0 ≤ n / 32 % 64 ∧ n / 32 % 64 < 64 := ⟨by omega, by omega⟩
      have b2 : 0 ≤ n / 2 % 16 ∧ n / 2 % 16 < 16 := ⟨by omega, by omega⟩
      have b3 : 0 ≤ n / 2048 % 2 ∧ n / 2048 % 2 < 2 := ⟨by omega, by omega⟩
      unfold eB
      generalize n / 4096 % 2 = a0 at *
      generalize n / 32 % 64 = a1 at *
      generalize n / 2 % 16 = a2 at *
      generalize n / 2048 % 2 = a3 at *
      clear c1 c2 c3 i0 i1 s0 s1 a h1
      omega
    rw [a, b]; omega
  generalize eS n = x at *
  generalize eB n = y at *
  obtain ⟨X, rfl⟩ := Int.eq_ofNat_of_zero_le s0
  obtain ⟨Y, rfl⟩ := Int.eq_ofNat_of_zero_le i0
  rw [Int.toNat_natCast, Int.toNat_natCast, show Int.toNat 2113933056 = (2 ^ 6 - 1) <<< 25 ||| (2 ^ 4 - 1) <<< 8 from by decide,
    and_two_eq X Y 25 6 8 4 (by simp only [Nat.reducePow]; omega) (by simp only [Nat.reducePow]; omega)]
  simp
theorem branch2 (n : Int) (c1 : -2048 ≤ n) (c2 : n < 2048) (c3 : n % 2 = 0) : (valB n % 4294967296 / 2147483648 == valS n % 4294967296 / 2147483648) = true := by
  rw [valB_u32 n (by omega) (by omega) c3, valS_u32 n c1 c2]
  have a : eB n / 2147483648 = n / 4096 % 2 := by
    have b0 : 0 ≤ n / 4096 % 2 ∧ n / 4096 % 2 < 2 := ⟨by omega, by omega⟩
    have b1 : 0 ≤ n / 32 % 64 ∧ n / 32 % 64 < 64 := ⟨by omega, by omega⟩
    have b2 : 0 ≤ n / 2 % 16 ∧ n / 2 % 16 < 16 := ⟨by omega, by omega⟩
    have b3 : 0 ≤ n / 2048 % 2 ∧ n / 2048 % 2 < 2 := ⟨by omega, by omega⟩
    unfold eB
    generalize n / 4096 % 2 = a0 at *
    generalize n / 32 % 64 = a1 at *
    generalize n / 2 % 16 = a2 at *
    generalize n / 2048 % 2 = a3 at *
    omega
  have b : eS n / 2147483648 = n / 32 % 128 / 64 := by
    have b0 : 0 ≤ n / 32 % 128 ∧ n / 32 % 128 < 128 := ⟨by omega, by omega⟩
    have b1 : 0 ≤ n / 1 % 32 ∧ n / 1 % 32 < 32 := ⟨by omega, by omega⟩
    unfold eS
    generalize n / 32 % 128 = a0 at *
    generalize n / 1 % 32 = a1 at *
    clear a c1 c2 c3
    omega
  rw [a, b, show n / 4096 % 2 = n / 32 % 128 / 64 by omega]
  simp

set_option maxHeartbeats 1000000 in
theorem fnBranch_walk (a0 : Int) (w0 : (Lit.int .i64 a0).wf = true) (w : World) :
    Calls Try.prog 9 #[.int .i64 a0] w fun e w' => e = .returned (.bool true) ∧ Below w.heap.size w w' := by
  clear w0
  obtain ⟨f1, f2⟩ := fitS a0
  have hm := andNot_one_i64 (fitv 12 0 a0) (by omega) (by omega)
  obtain ⟨m, hm'⟩ : ∃ m, fitv 12 0 a0 - fitv 12 0 a0 % 2 = m := ⟨_, rfl⟩
  rw [hm'] at hm
  have c1 : -2048 ≤ m := by omega
  have c2 : m < 2048 := by omega
  have c3 : m % 2 = 0 := by omega
  have t1 := branch1 m c1 c2 c3
  have t2 := branch2 m c1 c2 c3
  have C3 := Lib.hid c3
  have HM := Lib.hid hm
  clear hm hm' f1 f2 c3
  generalize hv : valS m = v at *
  generalize hd : valB m = u at *
  have HV := Lib.hid hv
  have HU := Lib.hid hd
  clear hv hd
  go_enter Try.func9, Try.ntmps9
  go_wp2_with fail
  refine (specS_any _).mono ?_
  rintro e w1 ⟨rfl, hf1, hb1⟩
  clear hf1
  go_wp2_with fail
  refine (fit_at 12 0 _ _ _ _ _ rfl rfl (by decide) (by decide) (by decide)).mono ?_
  rintro e w2 ⟨rfl, hb2⟩
  have B2 := hb1.trans (hb2.mono hb1.size)
  clear hb1 hb2
  go_wp2_with fail
  rw [HM.out]
  refine (encodeS_yes _ _ c1 c2).mono ?_
  rintro e w3 ⟨rfl, hb3⟩
  rw [HV.out]
  have B3 := B2.trans (hb3.mono B2.size)
  clear hb3 B2
  go_wp2_with fail
  refine (encodeB_yes _ _ (by omega) (by omega) C3.out).mono ?_
  rintro e w4 ⟨rfl, hb4⟩
  rw [HU.out]
  have B4 := B3.trans (hb4.mono B3.size)
  go_wp2_with fail
  go_ret
  exact ⟨rfl, B4⟩
end Go.Proofs.Ytdcenglfccjnaaa
