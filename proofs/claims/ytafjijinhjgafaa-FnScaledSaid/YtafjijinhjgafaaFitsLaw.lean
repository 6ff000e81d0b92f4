/-
  The laws FnFits and FnScaled, walked: they return true for all numbers and write nothing that was there. No conditions.
-/
import Derived.Test.YtafjijinhjgafaaFits
namespace Go.Proofs.Ytafjijinhjgafaa
open Go Go.RowKit
set_option linter.unusedVariables false
set_option linter.unusedSimpArgs false

theorem sB_eq (j : Nat) (n H : Int) (hH : (2 : Int) ^ j = H) : sB (1 + j) n = (decide (-H ≤ n) && decide (n ≤ H - 1)) := by
  unfold sB
  rw [show 1 + j - 1 = j by omega, hH, Bool.eq_iff_iff]
  simp only [decide_eq_true_eq, Bool.and_eq_true]; omega
theorem uB_eq (j : Nat) (n H : Int) (hH : (2 : Int) ^ j = H) : uB (1 + j) n = (decide (0 ≤ n) && decide (n / H ≤ 1)) := by
  unfold uB
  have hp : 0 < H := hH ▸ two_pow_pos j
  rw [two_pow_add, hH, Bool.eq_iff_iff]
  have e : n / H ≤ 1 ↔ n < 2 ^ 1 * H := by
    rw [show (n / H ≤ 1) ↔ n / H < 2 by omega, Int.ediv_lt_iff_lt_mul hp]; rfl
  simp only [decide_eq_true_eq, Bool.and_eq_true, e]

set_option maxHeartbeats 4000000 in
theorem fnFits_walk (a0 a1 : Int) (w0 : (Lit.int .i64 a0).wf = true) (w1 : (Lit.int .i64 a1).wf = true) (w : World) :
    Calls Try.prog 5 #[.int .i64 a0, .int .i64 a1] w fun e w' => e = .returned (.bool true) ∧ Below w.heap.size w w' := by
  clear w0 w1
  obtain ⟨j, hj⟩ : ∃ j : Nat, a1 % 63 = (j : Int) := ⟨(a1 % 63).toNat, by omega⟩
  have hj2 : j ≤ 62 := by omega
  have HJ := Lib.hid hj
  clear hj
  obtain ⟨H, hH⟩ : ∃ H : Int, (2 : Int) ^ j = H := ⟨_, rfl⟩
  have p0 : 1 ≤ H := by have := two_pow_pos j; omega
  have p1 : H ≤ 4611686018427387904 := hH ▸ pow_le_pow j 62 hj2
  have hw : wrap64 (2 ^ j) = H := by rw [hH]; exact IntWalk.wrap64_in _ ⟨by omega, by omega⟩
  have hS := sB_eq j a0 H hH
  have hU := uB_eq j a0 H hH
  have h0 := sB_eq j 0 H hH
  have hd : a0 / 2 ^ j = a0 / H := by rw [hH]
  have Z := Lib.hid (show sB (1 + j) 0 = true by rw [h0]; simp; omega)
  generalize hQ : a0 / H = Q at *
  clear hH h0 hQ
  by_cases a : -H ≤ a0 <;> by_cases b : a0 ≤ H - 1 <;> by_cases c : 0 ≤ a0 <;> by_cases d : Q ≤ 1
  all_goals first
    | (exfalso; clear hS hU hw hd; omega)
    | (have HS := Lib.hid hS
       have HU := Lib.hid hU
       clear hS hU
       go_enter Try.func5, Try.ntmps5
       go_wp2_with fail
       refine (place_any _ _ _ (by omega) (by omega)).mono ?_
       rintro e w' ⟨rfl, rfl⟩
       rw [HJ.out]
       go_wp2_with fail
       refine (fitsSigned_any _ _ (1 + j) _ (by omega) (by omega) (by omega)).mono ?_
       rintro e w1 ⟨rfl, hb1⟩
       rw [HS.out]
       go_wp2_with fail
       refine (fitsUnsigned_any _ _ (1 + j) _ (by omega) (by omega) (by omega)).mono ?_
       rintro e w2 ⟨rfl, hb2⟩
       rw [HU.out]
       have B2 := hb1.trans (hb2.mono hb1.size)
       go_wp2_with fail
       refine (fitsSigned_any _ _ (1 + j) _ (by omega) (by omega) (by omega)).mono ?_
       rintro e w3 ⟨rfl, hb3⟩
       rw [Z.out]
       have B3 := B2.trans (hb3.mono B2.size)
       go_wp2_with fail
       go_ret
       exact ⟨rfl, B3⟩)

theorem scS_zero (j : Nat) (i : Int) (hi0 : 0 ≤ i) : scS (1 + j) (1 + i) 0 = true := by
  have := two_pow_pos j
  unfold scS sB mB
  rw [show 1 + j - 1 = j by omega]
  simp; omega
set_option maxHeartbeats 8000000 in
theorem fnScaled_t (a0 a1 a2 i : Int) (j : Nat) (w : World) (hj : a1 % 63 = (j : Int)) (hi : a2 % 16 = i) (hm : (a0.tmod (1 + i) == 0) = true) :
    Calls Try.prog 6 #[.int .i64 a0, .int .i64 a1, .int .i64 a2] w fun e w' => e = .returned (.bool true) ∧ Below w.heap.size w w' := by
  have hj2 : j ≤ 62 := by omega
  have hi0 : 0 ≤ i := by omega
  have hi2 : i ≤ 15 := by omega
  have HJ := Lib.hid hj
  have HI := Lib.hid hi
  clear hj hi
  have z : (1 + i == 0) = false := by simp; omega
  have H0 := Lib.hid (scS_zero j i hi0)
  have hE : (bits .and .i64 a0 1 == 0) = (a0 % 2 == 0) := by rw [and_one_i64]
  have hss : scS (1 + j) (1 + i) a0 = (sB (1 + j) a0 && (a0.tmod (1 + i) == 0)) := rfl
  have huu : scU (1 + j) (1 + i) a0 = (uB (1 + j) a0 && (a0.tmod (1 + i) == 0)) := rfl
  rw [hm] at hss huu
  cases hs : sB (1 + j) a0 <;> cases hu : uB (1 + j) a0 <;> cases he : (a0 % 2 == 0)
  all_goals
    rw [hs] at hss
    rw [hu] at huu
    rw [he] at hE
    have HS := Lib.hid hs
    have HU := Lib.hid hu
    have HSS := Lib.hid hss
    have HUU := Lib.hid huu
    have HE := Lib.hid he
    clear hs hu hss huu he
    go_enter Try.func6, Try.ntmps6
    go_wp2_with fail
    refine (place_any _ _ _ (by omega) (by omega)).mono ?_
    rintro e w' ⟨rfl, rfl⟩
    rw [HJ.out]
    go_wp2_with fail
    refine (place_any _ _ _ (by omega) (by omega)).mono ?_
    rintro e w' ⟨rfl, rfl⟩
    rw [HI.out]
    go_wp2_with fail
    refine (scaledSigned_any _ _ _ (1 + j) _ (by omega) (by omega) (by omega) (by omega) (by omega)).mono ?_
    rintro e w1 ⟨rfl, hb1⟩
    rw [HSS.out]
    go_wp2_with fail
    refine (fitsSigned_any _ _ (1 + j) _ (by omega) (by omega) (by omega)).mono ?_
    rintro e w2 ⟨rfl, hb2⟩
    rw [HS.out]
    have B2 := hb1.trans (hb2.mono hb1.size)
    clear hb2 hb1
    go_wp2_with fail
    refine (scaledUnsigned_any _ _ _ (1 + j) _ (by omega) (by omega) (by omega) (by omega) (by omega)).mono ?_
    rintro e w3 ⟨rfl, hb3⟩
    rw [HUU.out]
    have B3 := B2.trans (hb3.mono B2.size)
    clear hb3 B2
    go_wp2_with fail
    refine (fitsUnsigned_any _ _ (1 + j) _ (by omega) (by omega) (by omega)).mono ?_
    rintro e w4 ⟨rfl, hb4⟩
    rw [HU.out]
    have B4 := B3.trans (hb4.mono B3.size)
    clear hb4 B3
    go_wp2_with fail
    refine (even_any _ _).mono ?_
    rintro e w5 ⟨rfl, hb5⟩
    rw [HE.out]
    have B5 := B4.trans (hb5.mono B4.size)
    clear hb5 B4
    go_wp2_with fail
    refine (scaledSigned_any _ _ _ (1 + j) _ (by omega) (by omega) (by omega) (by omega) (by omega)).mono ?_
    rintro e w6 ⟨rfl, hb6⟩
    rw [H0.out]
    have B6 := B5.trans (hb6.mono B5.size)
    clear hb6 B5
    go_wp2_with fail
    go_ret
    exact ⟨rfl, B6⟩
set_option maxHeartbeats 8000000 in
theorem fnScaled_f (a0 a1 a2 i : Int) (j : Nat) (w : World) (hj : a1 % 63 = (j : Int)) (hi : a2 % 16 = i) (hm : (a0.tmod (1 + i) == 0) = false) :
    Calls Try.prog 6 #[.int .i64 a0, .int .i64 a1, .int .i64 a2] w fun e w' => e = .returned (.bool true) ∧ Below w.heap.size w w' := by
  have hj2 : j ≤ 62 := by omega
  have hi0 : 0 ≤ i := by omega
  have hi2 : i ≤ 15 := by omega
  have HJ := Lib.hid hj
  have HI := Lib.hid hi
  clear hj hi
  have z : (1 + i == 0) = false := by simp; omega
  have H0 := Lib.hid (scS_zero j i hi0)
  have hE : (bits .and .i64 a0 1 == 0) = (a0 % 2 == 0) := by rw [and_one_i64]
  have hss : scS (1 + j) (1 + i) a0 = (sB (1 + j) a0 && (a0.tmod (1 + i) == 0)) := rfl
  have huu : scU (1 + j) (1 + i) a0 = (uB (1 + j) a0 && (a0.tmod (1 + i) == 0)) := rfl
  rw [hm] at hss huu
  cases hs : sB (1 + j) a0 <;> cases hu : uB (1 + j) a0 <;> cases he : (a0 % 2 == 0)
  all_goals
    rw [hs] at hss
    rw [hu] at huu
    rw [he] at hE
    have HS := Lib.hid hs
    have HU := Lib.hid hu
    have HSS := Lib.hid hss
    have HUU := Lib.hid huu
    have HE := Lib.hid he
    clear hs hu hss huu he
    go_enter Try.func6, Try.ntmps6
    go_wp2_with fail
    refine (place_any _ _ _ (by omega) (by omega)).mono ?_
    rintro e w' ⟨rfl, rfl⟩
    rw [HJ.out]
    go_wp2_with fail
    refine (place_any _ _ _ (by omega) (by omega)).mono ?_
    rintro e w' ⟨rfl, rfl⟩
    rw [HI.out]
    go_wp2_with fail
    refine (scaledSigned_any _ _ _ (1 + j) _ (by omega) (by omega) (by omega) (by omega) (by omega)).mono ?_
    rintro e w1 ⟨rfl, hb1⟩
    rw [HSS.out]
    go_wp2_with fail
    refine (scaledUnsigned_any _ _ _ (1 + j) _ (by omega) (by omega) (by omega) (by omega) (by omega)).mono ?_
    rintro e w2 ⟨rfl, hb2⟩
    rw [HUU.out]
    have B2 := hb1.trans (hb2.mono hb1.size)
    clear hb2 hb1
    go_wp2_with fail
    refine (even_any _ _).mono ?_
    rintro e w3 ⟨rfl, hb3⟩
    rw [HE.out]
    have B3 := B2.trans (hb3.mono B2.size)
    clear hb3 B2
    go_wp2_with fail
    refine (scaledSigned_any _ _ _ (1 + j) _ (by omega) (by omega) (by omega) (by omega) (by omega)).mono ?_
    rintro e w4 ⟨rfl, hb4⟩
    rw [H0.out]
    have B4 := B3.trans (hb4.mono B3.size)
    clear hb4 B3
    go_wp2_with fail
    go_ret
    exact ⟨rfl, B4⟩
theorem fnScaled_walk (a0 a1 a2 : Int) (w0 : (Lit.int .i64 a0).wf = true) (w1 : (Lit.int .i64 a1).wf = true) (w2 : (Lit.int .i64 a2).wf = true) (w : World) :
    Calls Try.prog 6 #[.int .i64 a0, .int .i64 a1, .int .i64 a2] w fun e w' => e = .returned (.bool true) ∧ Below w.heap.size w w' := by
  obtain ⟨j, hj⟩ : ∃ j : Nat, a1 % 63 = (j : Int) := ⟨(a1 % 63).toNat, by omega⟩
  cases hm : (a0.tmod (1 + a2 % 16) == 0)
  · exact fnScaled_f a0 a1 a2 _ j w hj rfl hm
  · exact fnScaled_t a0 a1 a2 _ j w hj rfl hm
end Go.Proofs.Ytafjijinhjgafaa
