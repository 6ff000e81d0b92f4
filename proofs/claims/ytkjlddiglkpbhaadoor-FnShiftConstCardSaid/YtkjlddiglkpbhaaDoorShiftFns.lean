/-
  TrailingZeros64, OnesCount64 and signExtend, walked. Conditions: the argument is a number of 64 bits without a sign; of TrailingZeros64: the table of the library holds what its initialiser lays.
-/
import Derived.Test.YtkjlddiglkpbhaaDoorProg
import Derived.Test.YtkjlddiglkpbhaaDoorPop
import Derived.Test.YtkjlddiglkpbhaaDoorShelf
import Derived.WalkKit
import Derived.WalkSpells
import Derived.WalkLawsBesides
import Derived.Lib.TrailingZeros
import Derived.Lib.Hide
namespace Go.Proofs.YtkjlddiglkpbhaaDoor
open Go Go.RowKit
set_option linter.unusedVariables false
set_option linter.unusedSimpArgs false

/-- The table lies in its variable. -/
def TabIn (w : World) : Prop := ∀ j, j < 64 → w.cell? ⟨0, j, none⟩ = some (.int .u8 (Lib.deBruijn64tab.getD j 0))

theorem tz_core (x k idx : Nat) (w : World) (hx0 : ((x : Int) == 0) = false)
    (key : IntKind.u64.wrap (bits BinOp.and IntKind.u64 (x : Int) (IntKind.u64.wrap (-(x : Int))) * 285870213051353865) / 288230376151711744 = (idx : Int))
    (hi : idx < 64) (hk : k < 64) (hcell : w.cell? ⟨0, idx, none⟩ = some (.int .u8 k)) :
    Calls Tryd.prog 7 #[.int .u64 x] w fun e w' => e = .returned (.int .i64 k) ∧ w = w' := by
  go_enter Tryd.func7, Tryd.ntmps7
  go_wp2_with (simp only [key])
  go_ret
  exact ⟨rfl, rfl⟩
theorem tz_zero (w : World) :
    Calls Tryd.prog 7 #[.int .u64 0] w fun e w' => e = .returned (.int .i64 64) ∧ w = w' := by
  go_enter Tryd.func7, Tryd.ntmps7
  go_wp2
  go_ret
  exact ⟨rfl, rfl⟩
theorem tz_key (x k : Nat) (hx : x < 18446744073709551616) (hx0 : x ≠ 0) (hlow : x &&& (18446744073709551616 - x) = 2 ^ k) (hk : k < 64) :
    IntKind.u64.wrap (bits BinOp.and IntKind.u64 (x : Int) (IntKind.u64.wrap (-(x : Int))) * 285870213051353865) / 288230376151711744 = ((2 ^ k * 285870213051353865 % 18446744073709551616 / 288230376151711744 : Nat) : Int) := by
  have e1 : IntKind.u64.wrap (-(x : Int)) = ((18446744073709551616 - x : Nat) : Int) := by rw [IntKind.wrap_u64]; omega
  rw [e1, u64_and _ _ (by omega) (by omega) (by omega) (by omega), Int.toNat_natCast, Int.toNat_natCast, hlow, IntKind.wrap_u64]
  generalize 2 ^ k = K
  omega
theorem tz_any (x : Int) (w : World) (h0 : 0 ≤ x) (h1 : x < 18446744073709551616) (hT : TabIn w) :
    Calls Tryd.prog 7 #[.int .u64 x] w fun e w' => e = .returned (.int .i64 (Lib.ctz 64 x.toNat)) ∧ w = w' := by
  obtain ⟨X, rfl⟩ := Int.eq_ofNat_of_zero_le h0
  rw [Int.toNat_natCast]
  by_cases hx0 : X = 0
  · subst hx0
    exact tz_zero w
  · obtain ⟨hlow, hk⟩ := Lib.lowest_bit 64 X hx0 (by omega)
    obtain ⟨hi, htab⟩ := Lib.deBruijn64_at _ hk
    have hcell := hT _ hi
    rw [htab] at hcell
    exact tz_core X _ _ w (by simp; omega) (tz_key X _ (by omega) hx0 hlow hk) hi hk hcell

set_option maxHeartbeats 1000000 in
theorem ones_core (x y1 y2 y3 y4 y5 y6 c : Int) (w : World)
    (e1 : IntKind.u64.wrap (bits .and .u64 (x / 2) 6148914691236517205 + bits .and .u64 x 6148914691236517205) = y1)
    (e2 : IntKind.u64.wrap (bits .and .u64 (y1 / 4) 3689348814741910323 + bits .and .u64 y1 3689348814741910323) = y2)
    (e3 : bits .and .u64 (IntKind.u64.wrap (y2 / 16 + y2)) 1085102592571150095 = y3)
    (e4 : IntKind.u64.wrap (y3 + y3 / 256) = y4) (e5 : IntKind.u64.wrap (y4 + y4 / 65536) = y5) (e6 : IntKind.u64.wrap (y5 + y5 / 4294967296) = y6)
    (e7 : bits .and .i64 (wrap64 y6) 127 = c) :
    Calls Tryd.prog 9 #[.int .u64 x] w fun e w' => e = .returned (.int .i64 c) ∧ w = w' := by
  go_enter Tryd.func9, Tryd.ntmps9
  go_wp2
  go_ret
  exact ⟨rfl, rfl⟩
theorem u64_id (n : Int) (h0 : 0 ≤ n) (h1 : n < 18446744073709551616) : IntKind.u64.wrap n = n := by rw [IntKind.wrap_u64]; omega
theorem ones_any (x : Int) (w : World) (h0 : 0 ≤ x) (h1 : x < 18446744073709551616) :
    Calls Tryd.prog 9 #[.int .u64 x] w fun e w' => e = .returned (.int .i64 (popF 64 x.toNat)) ∧ w = w' := by
  obtain ⟨X, rfl⟩ := Int.eq_ofNat_of_zero_le h0
  rw [Int.toNat_natCast]
  have r85 : rep 85 8 = 6148914691236517205 := by decide
  have r51 : rep 51 8 = 3689348814741910323 := by decide
  have r15 : rep 15 8 = 1085102592571150095 := by decide
  have s1 := step1 8 X
  have b1 := mapB_le f1 170 (by decide +kernel) 8 X
  have c1 : rep 170 8 = 12297829382473034410 := by decide
  rw [r85] at s1
  generalize hY1 : mapB f1 8 X = Y1 at *
  have s2 := step2 8 Y1
  have t2 := step12 8 X
  rw [hY1] at t2
  rw [t2, r51] at s2
  have b2 := mapB_le g2 68 (by decide +kernel) 8 X
  have c2 : rep 68 8 = 4919131752989213764 := by decide
  have s3 := step3 8 X
  rw [r15] at s3
  generalize hY2 : mapB g2 8 X = Y2 at *
  obtain ⟨l1, l2⟩ := last_steps X _ rfl
  rw [← s3] at l1 l2
  have b3 : (Y2 / 16 + Y2) &&& 1085102592571150095 ≤ 1085102592571150095 := Nat.and_le_right
  generalize hY3 : (Y2 / 16 + Y2) &&& 1085102592571150095 = Y3 at *
  generalize hY4 : Y3 + Y3 / 256 = Y4 at *
  generalize hY5 : Y4 + Y4 / 65536 = Y5 at *
  generalize hY6 : Y5 + Y5 / 4294967296 = Y6 at *
  refine ones_core (X : Int) (Y1 : Int) (Y2 : Int) (Y3 : Int) (Y4 : Int) (Y5 : Int) (Y6 : Int) _ w ?_ ?_ ?_ ?_ ?_ ?_ ?_
  · rw [u64_and _ _ (by omega) (by omega) (by decide) (by decide), u64_and _ _ (by omega) (by omega) (by decide) (by decide)]
    rw [show ((X : Int) / 2).toNat = X / 2 by omega, Int.toNat_natCast, show (6148914691236517205 : Int).toNat = 6148914691236517205 from rfl]
    rw [u64_id _ (by omega) (by omega)]
    omega
  · rw [u64_and _ _ (by omega) (by omega) (by decide) (by decide), u64_and _ _ (by omega) (by omega) (by decide) (by decide)]
    rw [show ((Y1 : Int) / 4).toNat = Y1 / 4 by omega, Int.toNat_natCast, show (3689348814741910323 : Int).toNat = 3689348814741910323 from rfl]
    rw [u64_id _ (by omega) (by omega)]
    omega
  · rw [u64_id _ (by omega) (by omega), u64_and _ _ (by omega) (by omega) (by decide) (by decide)]
    rw [show ((Y2 : Int) / 16 + (Y2 : Int)).toNat = Y2 / 16 + Y2 by omega, show (1085102592571150095 : Int).toNat = 1085102592571150095 from rfl, hY3]
  · rw [u64_id _ (by omega) (by omega)]; omega
  · rw [u64_id _ (by omega) (by omega)]; omega
  · rw [u64_id _ (by omega) (by omega)]; omega
  · rw [IntWalk.wrap64_in _ ⟨by omega, by omega⟩, i64_and127]; omega

theorem sx_any (n b : Int) (k : Nat) (w : World) (hk : (k : Int) = b) (h1 : 1 ≤ k) (h2 : k ≤ 64) :
    Calls Tryd.prog 10 #[.int .i64 n, .int .u64 b] w fun e w' => e = .returned (.int .i64 (sext k n)) ∧ w = w' := by
  have H := Lib.hid (sext_shift k n h1 h2)
  have e : (64 - b).toNat = 64 - k := by omega
  have l1 : 1 ≤ b := by omega
  have l2 : b ≤ 64 := by omega
  clear hk h1 h2
  go_enter Tryd.func10, Tryd.ntmps10
  go_wp2
  go_ret
  exact ⟨ret_int H.out, rfl⟩
end Go.Proofs.YtkjlddiglkpbhaaDoor
