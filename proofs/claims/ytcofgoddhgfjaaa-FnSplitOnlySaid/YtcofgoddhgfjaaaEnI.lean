/-
  The format I and its encoder, walked: the reference's format, what the encoder returns for an immediate and for another number, and that 'works' is true of it. No conditions beyond those of each theorem.
-/
import Derived.Test.YtcofgoddhgfjaaaPlI
import Derived.Test.YtcofgoddhgfjaaaFit
import Derived.Test.YtcofgoddhgfjaaaErr
import Derived.Deep.RegionWith
namespace Go.Proofs.Ytcofgoddhgfjaaa
open Go Go.RowKit
set_option linter.unusedVariables false
set_option linter.unusedSimpArgs false
theorem fineI : Fine fsI := ⟨by decide, by decide⟩
theorem specI_any (w : World) :
    Calls Try.prog 12 #[] w fun e w' => e = .returned (.agg #[.int .i64 12, .int .i64 0, .slice (some ⟨w.heap.size + 1, 0, none⟩) 1 1]) ∧ FieldsAt w' (w.heap.size + 1) fsI ∧ Below w.heap.size w w' := by
  go_enter Try.func12, Try.ntmps12
  go_wp2
  refine bodyPost_ret (v := .agg #[.int .i64 12, .int .i64 0, .slice (some ⟨w.heap.size + 1, 0, none⟩) 1 1]) (by simp [results, Try.results12, go_sem]) rfl ⟨rfl, ?_, ?_⟩
  · exact fieldsAt_new _ fsI _ _ (by simp)
  · exact ((Below.refl _ _).alloc (Nat.le_refl _) _).alloc (by simp) _
theorem encodeI_yes (n : Int) (w : World) (c1 : -2048 ≤ n) (c2 : n < 2048) :
    Calls Try.prog 9 #[.int .i64 n] w fun e w' => e = .returned (.tuple #[.int .i64 (valI n), .bool true]) ∧ Below w.heap.size w w' := by
  go_enter Try.func9, Try.ntmps9
  go_wp2_with (first | (go_at_call 18; refine (immIFits_yes n 2048 12 _ (by decide) (by decide) (by decide) c1 c2).mono ?_; rintro e w' ⟨rfl, rfl⟩) | go_in)
  go_region
  go_wp2
  go_ret2
  exact ⟨rfl, (Below.refl _ _).drew⟩
theorem encodeI_out (n : Int) (w : World) (c : n < -2048 ∨ 2048 ≤ n) :
    Calls Try.prog 9 #[.int .i64 n] w fun e w' => e = .returned (.tuple #[.int .i64 0, .bool false]) ∧ Below w.heap.size w w' := by
  have C := Lib.hid c
  clear c
  go_enter Try.func9, Try.ntmps9
  go_wp2_with (first | (go_at_call 18; refine (immIFits_no n 2048 12 _ (by decide) (by decide) (by decide) C.out).mono ?_; rintro e w' ⟨rfl, hb⟩) | go_in)
  go_region
  go_wp2
  go_ret2
  exact ⟨rfl, hb.drew⟩
theorem encodeI_no (n : Int) (w : World) (c : ¬ (-2048 ≤ n ∧ n < 2048 ∧ n % 1 = 0)) :
    Calls Try.prog 9 #[.int .i64 n] w fun e w' => e = .returned (.tuple #[.int .i64 0, .bool false]) ∧ Below w.heap.size w w' :=
  encodeI_out n w (by omega)
end Go.Proofs.Ytcofgoddhgfjaaa
