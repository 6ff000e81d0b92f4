/-
  The format U and its encoder, walked: the reference's format, what the encoder returns for an immediate and for another number, and that 'works' is true of it. No conditions beyond those of each theorem.
-/
import Derived.Test.YtcofgoddhgfjaaaPlU
import Derived.Test.YtcofgoddhgfjaaaFit
import Derived.Test.YtcofgoddhgfjaaaErr
import Derived.Deep.RegionWith
namespace Go.Proofs.Ytcofgoddhgfjaaa
open Go Go.RowKit
set_option linter.unusedVariables false
set_option linter.unusedSimpArgs false
theorem fineU : Fine fsU := ⟨by decide, by decide⟩
theorem specU_any (w : World) :
    Calls Try.prog 13 #[] w fun e w' => e = .returned (.agg #[.int .i64 20, .int .i64 0, .slice (some ⟨w.heap.size + 1, 0, none⟩) 1 1]) ∧ FieldsAt w' (w.heap.size + 1) fsU ∧ Below w.heap.size w w' := by
  go_enter Try.func13, Try.ntmps13
  go_wp2
  refine bodyPost_ret (v := .agg #[.int .i64 20, .int .i64 0, .slice (some ⟨w.heap.size + 1, 0, none⟩) 1 1]) (by simp [results, Try.results13, go_sem]) rfl ⟨rfl, ?_, ?_⟩
  · exact fieldsAt_new _ fsU _ _ (by simp)
  · exact ((Below.refl _ _).alloc (Nat.le_refl _) _).alloc (by simp) _
theorem encodeU_yes (n : Int) (w : World) (c1 : -524288 ≤ n) (c2 : n < 524288) :
    Calls Try.prog 8 #[.int .i64 n] w fun e w' => e = .returned (.tuple #[.int .i64 (valU n), .bool true]) ∧ Below w.heap.size w w' := by
  go_enter Try.func8, Try.ntmps8
  go_wp2_with (first | (go_at_call 18; refine (immIFits_yes n 524288 20 _ (by decide) (by decide) (by decide) c1 c2).mono ?_; rintro e w' ⟨rfl, rfl⟩) | go_in)
  go_region
  go_wp2
  go_ret2
  exact ⟨rfl, (Below.refl _ _).drew⟩
theorem encodeU_out (n : Int) (w : World) (c : n < -524288 ∨ 524288 ≤ n) :
    Calls Try.prog 8 #[.int .i64 n] w fun e w' => e = .returned (.tuple #[.int .i64 0, .bool false]) ∧ Below w.heap.size w w' := by
  have C := Lib.hid c
  clear c
  go_enter Try.func8, Try.ntmps8
  go_wp2_with (first | (go_at_call 18; refine (immIFits_no n 524288 20 _ (by decide) (by decide) (by decide) C.out).mono ?_; rintro e w' ⟨rfl, hb⟩) | go_in)
  go_region
  go_wp2
  go_ret2
  exact ⟨rfl, hb.drew⟩
theorem encodeU_no (n : Int) (w : World) (c : ¬ (-524288 ≤ n ∧ n < 524288 ∧ n % 1 = 0)) :
    Calls Try.prog 8 #[.int .i64 n] w fun e w' => e = .returned (.tuple #[.int .i64 0, .bool false]) ∧ Below w.heap.size w w' :=
  encodeU_out n w (by omega)
end Go.Proofs.Ytcofgoddhgfjaaa
