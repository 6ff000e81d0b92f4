/-
  The format J and its encoder, walked: the reference's format, what the encoder returns for an immediate and for another number, and that 'works' is true of it. No conditions beyond those of each theorem.
-/
import Derived.Test.YtpnihechnlkhpaaPlJ
import Derived.Test.YtpnihechnlkhpaaFit
import Derived.Test.YtpnihechnlkhpaaEven
import Derived.Deep.RegionWith
namespace Go.Proofs.Ytpnihechnlkhpaa
open Go Go.RowKit
set_option linter.unusedVariables false
set_option linter.unusedSimpArgs false
theorem fineJ : Fine fsJ := ⟨by decide, by decide⟩
theorem encodeJ_yes (n : Int) (w : World) (c1 : -1048576 ≤ n) (c2 : n < 1048576) (c3 : n % 2 = 0) :
    Calls Try.prog 11 #[.int .i64 n] w fun e w' => e = .returned (.tuple #[.int .i64 (valJ n), .bool true]) ∧ Below w.heap.size w w' := by
  have C := Lib.hid c3
  clear c3
  go_enter Try.func11, Try.ntmps11
  go_wp2_with (first | (go_at_call 27; refine (immIFits_yes n 1048576 21 _ (by decide) (by decide) (by decide) c1 c2).mono ?_; rintro e w' ⟨rfl, rfl⟩) | (go_at_call 28; refine (immEven_yes n _ C.out).mono ?_; rintro e w' ⟨rfl, rfl⟩) | go_in)
  go_region
  go_wp2
  go_ret2
  exact ⟨rfl, (Below.refl _ _).drew⟩
theorem encodeJ_out (n : Int) (w : World) (c : n < -1048576 ∨ 1048576 ≤ n) :
    Calls Try.prog 11 #[.int .i64 n] w fun e w' => e = .returned (.tuple #[.int .i64 0, .bool false]) ∧ Below w.heap.size w w' := by
  have C := Lib.hid c
  clear c
  go_enter Try.func11, Try.ntmps11
  go_wp2_with (first | (go_at_call 27; refine (immIFits_no n 1048576 21 _ (by decide) (by decide) (by decide) C.out).mono ?_; rintro e w' ⟨rfl, hb⟩) | go_in)
  go_region
  go_wp2
  go_ret2
  exact ⟨rfl, hb.drew⟩
theorem encodeJ_odd (n : Int) (w : World) (c1 : -1048576 ≤ n) (c2 : n < 1048576) (c : n % 2 = 1) :
    Calls Try.prog 11 #[.int .i64 n] w fun e w' => e = .returned (.tuple #[.int .i64 0, .bool false]) ∧ Below w.heap.size w w' := by
  have C := Lib.hid c
  clear c
  go_enter Try.func11, Try.ntmps11
  go_wp2_with (first | (go_at_call 27; refine (immIFits_yes n 1048576 21 _ (by decide) (by decide) (by decide) c1 c2).mono ?_; rintro e w' ⟨rfl, rfl⟩) | (go_at_call 28; refine (immEven_no n _ C.out).mono ?_; rintro e w' ⟨rfl, hb⟩) | go_in)
  go_region
  go_wp2
  go_ret2
  exact ⟨rfl, hb.drew⟩
theorem encodeJ_no (n : Int) (w : World) (c : ¬ (-1048576 ≤ n ∧ n < 1048576 ∧ n % 2 = 0)) :
    Calls Try.prog 11 #[.int .i64 n] w fun e w' => e = .returned (.tuple #[.int .i64 0, .bool false]) ∧ Below w.heap.size w w' := by
  by_cases h : n < -1048576 ∨ 1048576 ≤ n
  · exact encodeJ_out n w h
  · exact encodeJ_odd n w (by omega) (by omega) (by omega)
end Go.Proofs.Ytpnihechnlkhpaa
