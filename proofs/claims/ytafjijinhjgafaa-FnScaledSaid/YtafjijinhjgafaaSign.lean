/-
  The law FnSignExtend, walked: it returns true for every number and every bit, and makes nothing but draws. No conditions.
-/
import Derived.Test.YtafjijinhjgafaaProg
import Derived.Test.YtafjijinhjgafaaBits
import Derived.WalkKit
import Derived.WalkSpells
import Derived.WalkLawsBesides
import Derived.RegionTactic
namespace Go.Proofs.Ytafjijinhjgafaa
open Go Go.RowKit
set_option linter.unusedVariables false
set_option linter.unusedSimpArgs false

theorem place_any (n k : Int) (w : World) (h1 : 1 ≤ k) (h2 : k ≤ 1000) :
    Calls Try.prog 7 #[.int .i64 n, .int .i64 k] w fun e w' => e = .returned (.int .i64 (n % k)) ∧ w = w' := by
  have hk : (k == 0) = false := by simp; omega
  go_enter Try.func7, Try.ntmps7
  go_wp2
  go_ret
  exact ⟨ret_int (place_eq n k h1 (by omega)), rfl⟩
theorem signExtend_any (n b : Int) (w : World) (h1 : 1 ≤ b) (h2 : b ≤ 64) :
    Calls Try.prog 8 #[.int .i64 n, .int .i64 b] w fun e w' => e = .returned (.int .i64 (sext b.toNat n)) ∧ w = w' := by
  go_enter Try.func8, Try.ntmps8
  go_wp2
  go_ret
  exact ⟨ret_int (by rw [← sext_shift b.toNat n (by omega) (by omega), show (64 - b).toNat = 64 - b.toNat by omega]), rfl⟩

theorem sign_bit (n b : Int) (k : Nat) (h : 0 ≤ b) : (bits .and .i64 (sext (1 + b).toNat n / 2 ^ k) 1 != bits .and .i64 (n / 2 ^ (if 1 + b - 1 < (k : Int) then 1 + b - 1 else (k : Int)).toNat) 1) = false := by
  rw [and_one_i64, and_one_i64, sext_bit _ _ _ (by omega)]
  have e : (if 1 + b - 1 < (k : Int) then 1 + b - 1 else (k : Int)).toNat = min k ((1 + b).toNat - 1) := by
    split <;> omega
  rw [e]; simp
theorem sext_neg_one (b : Nat) (h : 1 ≤ b) : sext b (-1) = -1 := by
  have hp := two_pow_pos (b - 1)
  have e1 : (2 : Int) ^ b = 2 * 2 ^ (b - 1) := by
    have : b = 1 + (b - 1) := by omega
    rw [this, two_pow_add]; simp
  unfold sext
  rw [Int.emod_eq_of_lt (by omega) (by omega)]; omega

theorem fnSignExtend_walk (a0 : Int) (a1 : Int) (_w0 : (Lit.int .i64 a0).wf = true) (_w1 : (Lit.int .i64 a1).wf = true) (w : World) :
    Calls Try.prog 3 #[.int .i64 a0, .int .i64 a1] w fun e w' => e = .returned (.bool true) ∧ Grown w w' := by
  have hb0 : 0 ≤ a1 % 64 := by omega
  have hb1 : a1 % 64 < 64 := by omega
  clear _w0 _w1
  generalize hb : a1 % 64 = b at *
  go_enter Try.func3, Try.ntmps3
  go_wp2_with (first | (go_at_call 7; refine (place_any _ _ _ (by omega) (by omega)).mono ?_; rintro e w' ⟨rfl, rfl⟩) | (go_at_call 8; refine (signExtend_any _ _ _ (by omega) (by omega)).mono ?_; rintro e w' ⟨rfl, rfl⟩))
  go_loopw [13] (fun i wr => ∃ k n : Nat, k ≤ 64 ∧ i = .int .i64 k ∧ wr = w.drewN n) (fun i _ => 64 - (intOf i).toNat)
  case atStart => exact ⟨0, 0, by omega, rfl, rfl⟩
  case round =>
    obtain ⟨k, n, hk, rfl, rfl⟩ := hrel
    by_cases hlt : k < 64
    · go_wp2_with fail
      go_region
      have hbit := sign_bit a0 b k hb0
      go_wp2
      go_roundw
      case rel => exact ⟨k + 1, n + 1, by omega, by go_num, rfl⟩
      case measure => simp [intOf]; omega
    · have hs : (sext (1 + b).toNat (-1) == -1) = true := by rw [sext_neg_one _ (by omega)]; rfl
      go_wp2_with (go_at_call 8; refine (signExtend_any _ _ _ (by omega) (by omega)).mono ?_; rintro e w' ⟨rfl, rfl⟩)
      go_ret
      exact ⟨rfl, by repeat (first | exact Grown.refl _ | apply Grown.drew | apply Grown.alloc)⟩
end Go.Proofs.Ytafjijinhjgafaa
