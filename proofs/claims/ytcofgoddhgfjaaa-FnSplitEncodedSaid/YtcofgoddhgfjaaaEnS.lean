/-
  The format S and its encoder, walked: the reference's format, what the encoder returns for an immediate and for another number, and that 'works' is true of it. No conditions beyond those of each theorem.
-/
import Derived.Test.YtcofgoddhgfjaaaPlS
import Derived.Test.YtcofgoddhgfjaaaFit
import Derived.Test.YtcofgoddhgfjaaaErr
import Derived.Deep.RegionWith
namespace Go.Proofs.Ytcofgoddhgfjaaa
open Go Go.RowKit
set_option linter.unusedVariables false
set_option linter.unusedSimpArgs false
theorem fineS : Fine fsS := ⟨by decide, by decide⟩
theorem encodeS_yes (n : Int) (w : World) (c1 : -2048 ≤ n) (c2 : n < 2048) :
    Calls Try.prog 10 #[.int .i64 n] w fun e w' => e = .returned (.tuple #[.int .i64 (valS n), .bool true]) ∧ Below w.heap.size w w' := by
  go_enter Try.func10, Try.ntmps10
  go_wp2_with (first | (go_at_call 18; refine (immIFits_yes n 2048 12 _ (by decide) (by decide) (by decide) c1 c2).mono ?_; rintro e w' ⟨rfl, rfl⟩) | go_in)
  go_region
  go_wp2
  go_ret2
  exact ⟨rfl, (Below.refl _ _).drew⟩
theorem encodeS_out (n : Int) (w : World) (c : n < -2048 ∨ 2048 ≤ n) :
    Calls Try.prog 10 #[.int .i64 n] w fun e w' => e = .returned (.tuple #[.int .i64 0, .bool false]) ∧ Below w.heap.size w w' := by
  have C := Lib.hid c
  clear c
  go_enter Try.func10, Try.ntmps10
  go_wp2_with (first | (go_at_call 18; refine (immIFits_no n 2048 12 _ (by decide) (by decide) (by decide) C.out).mono ?_; rintro e w' ⟨rfl, hb⟩) | go_in)
  go_region
  go_wp2
  go_ret2
  exact ⟨rfl, hb.drew⟩
theorem encodeS_no (n : Int) (w : World) (c : ¬ (-2048 ≤ n ∧ n < 2048 ∧ n % 1 = 0)) :
    Calls Try.prog 10 #[.int .i64 n] w fun e w' => e = .returned (.tuple #[.int .i64 0, .bool false]) ∧ Below w.heap.size w w' :=
  encodeS_out n w (by omega)
end Go.Proofs.Ytcofgoddhgfjaaa
