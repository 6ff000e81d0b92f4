/-
  The law FnVectorType, walked: it returns true for all numbers and writes nothing that was there. Condition: the look-ups of the listed map answer.
-/
import Derived.Test.YtdecplcmcoglcaaDoorVec
namespace Go.Proofs.YtdecplcmcoglcaaDoor
open Go Go.RowKit
set_option linter.unusedVariables false
set_option linter.unusedSimpArgs false

set_option maxHeartbeats 2000000 in
set_option maxRecDepth 100000 in
theorem fnVectorType_walk (a0 a1 a2 a3 : Int) (W : World) (bm : Nat) (hL : Looks W bm) :
    Calls Tryd.prog 3 #[.int .i64 a0, .int .i64 a1, .int .i64 a2, .int .i64 a3] W fun e w' => e = .returned (.bool true) ∧ Below W.heap.size W w' := by
  obtain ⟨a, ha⟩ : ∃ a : Nat, a0 % 4 = (a : Int) := ⟨(a0 % 4).toNat, by omega⟩
  obtain ⟨g, hg⟩ : ∃ g : Nat, a1 % 7 = (g : Int) := ⟨(a1 % 7).toNat, by omega⟩
  obtain ⟨b, hb⟩ : ∃ b : Nat, a2 % 2 = (b : Int) := ⟨(a2 % 2).toNat, by omega⟩
  obtain ⟨c, hc⟩ : ∃ c : Nat, a3 % 2 = (c : Int) := ⟨(a3 % 2).toNat, by omega⟩
  have la : a < 4 := by omega
  have lg : g < 7 := by omega
  have lb : b < 2 := by omega
  have lc : c < 2 := by omega
  have HA := Lib.hid ha
  have HG := Lib.hid hg
  have HB := Lib.hid hb
  have HC := Lib.hid hc
  clear ha hg hb hc
  have E := Lib.hid (fun w hb => vectorType_any W bm hL w hb a g b c a g b c la lg lb lc rfl rfl rfl rfl)
  have E1 := Lib.hid (fun w hb => vectorType_any W bm hL w hb 1 0 1 1 1 0 1 1 (by decide) (by decide) (by decide) (by decide) rfl rfl rfl rfl)
  have e8 : vtN 1 0 1 1 = 8 := by unfold vtN vt; decide +kernel
  have E8 := Lib.hid e8
  clear e8 hL
  by_cases h3 : 3 < g
  · have t := vec_high a la g lg h3 b lb c lc
    generalize vtN a g b c = v at *
    have t' : (v == bits .or .i64 (bits .or .i64 (bits .or .i64 (11 - (g : Int)) ((a : Int) * 8)) ((1 - (b : Int)) * 64)) ((1 - (c : Int)) * 128)) = true := by rw [t]; simp
    clear t
    go_enter Tryd.func3, Tryd.ntmps3
    go_wp2_with fail
    refine (place_any _ _ _ (by omega) (by omega)).mono ?_
    rintro e w' ⟨rfl, rfl⟩
    rw [HA.out]
    go_wp2_with fail
    refine (place_any _ _ _ (by omega) (by omega)).mono ?_
    rintro e w' ⟨rfl, rfl⟩
    rw [HG.out]
    go_wp2_with fail
    refine (place_any _ _ _ (by omega) (by omega)).mono ?_
    rintro e w' ⟨rfl, rfl⟩
    rw [HB.out]
    go_wp2_with fail
    refine (place_any _ _ _ (by omega) (by omega)).mono ?_
    rintro e w' ⟨rfl, rfl⟩
    rw [HC.out]
    go_wp2_with fail
    refine (E.out _ (Below.refl _ _)).mono ?_
    rintro e w1 ⟨rfl, hb1⟩
    go_wp2_with fail
    refine (E1.out _ hb1).mono ?_
    rintro e w2 ⟨rfl, hb2⟩
    rw [E8.out]
    go_wp2_with fail
    go_ret
    exact ⟨rfl, hb2⟩
  · have t := vec_low a la g (by omega) b lb c lc
    generalize vtN a g b c = v at *
    have t' : (v == bits .or .i64 (bits .or .i64 (bits .or .i64 (g : Int) ((a : Int) * 8)) ((1 - (b : Int)) * 64)) ((1 - (c : Int)) * 128)) = true := by rw [t]; simp
    clear t
    go_enter Tryd.func3, Tryd.ntmps3
    go_wp2_with fail
    refine (place_any _ _ _ (by omega) (by omega)).mono ?_
    rintro e w' ⟨rfl, rfl⟩
    rw [HA.out]
    go_wp2_with fail
    refine (place_any _ _ _ (by omega) (by omega)).mono ?_
    rintro e w' ⟨rfl, rfl⟩
    rw [HG.out]
    go_wp2_with fail
    refine (place_any _ _ _ (by omega) (by omega)).mono ?_
    rintro e w' ⟨rfl, rfl⟩
    rw [HB.out]
    go_wp2_with fail
    refine (place_any _ _ _ (by omega) (by omega)).mono ?_
    rintro e w' ⟨rfl, rfl⟩
    rw [HC.out]
    go_wp2_with fail
    refine (E.out _ (Below.refl _ _)).mono ?_
    rintro e w1 ⟨rfl, hb1⟩
    go_wp2_with fail
    refine (E1.out _ hb1).mono ?_
    rintro e w2 ⟨rfl, hb2⟩
    rw [E8.out]
    go_wp2_with fail
    go_ret
    exact ⟨rfl, hb2⟩
end Go.Proofs.YtdecplcmcoglcaaDoor
