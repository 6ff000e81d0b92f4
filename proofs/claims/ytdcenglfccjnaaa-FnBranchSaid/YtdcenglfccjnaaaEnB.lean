/-
  The format B and its encoder, walked: the reference's format, what the encoder returns for an immediate and for another number, and that 'works' is true of it. No conditions beyond those of each theorem.
-/
import Derived.Test.YtdcenglfccjnaaaPlB
import Derived.Test.YtdcenglfccjnaaaFit
import Derived.Test.YtdcenglfccjnaaaEven
import Derived.Deep.RegionWith
namespace Go.Proofs.Ytdcenglfccjnaaa
open Go Go.RowKit
set_option linter.unusedVariables false
set_option linter.unusedSimpArgs false
theorem fineB : Fine fsB := ⟨by decide, by decide⟩
theorem specB_any (w : World) :
    Calls Try.prog 10 #[] w fun e w' => e = .returned (.agg #[.int .i64 13, .int .i64 1, .slice (some ⟨w.heap.size + 1, 0, none⟩) 4 4]) ∧ FieldsAt w' (w.heap.size + 1) fsB ∧ Below w.heap.size w w' := by
  go_enter Try.func10, Try.ntmps10
  go_wp2
  refine bodyPost_ret (v := .agg #[.int .i64 13, .int .i64 1, .slice (some ⟨w.heap.size + 1, 0, none⟩) 4 4]) (by simp [results, Try.results10, go_sem]) rfl ⟨rfl, ?_, ?_⟩
  · exact fieldsAt_new _ fsB _ _ (by simp)
  · exact ((Below.refl _ _).alloc (Nat.le_refl _) _).alloc (by simp) _
theorem encodeB_yes (n : Int) (w : World) (c1 : -4096 ≤ n) (c2 : n < 4096) (c3 : n % 2 = 0) :
    Calls Try.prog 12 #[.int .i64 n] w fun e w' => e = .returned (.tuple #[.int .i64 (valB n), .bool true]) ∧ Below w.heap.size w w' := by
  have C := Lib.hid c3
  clear c3
  go_enter Try.func12, Try.ntmps12
  go_wp2_with (first | (go_at_call 25; refine (immIFits_yes n 4096 13 _ (by decide) (by decide) (by decide) c1 c2).mono ?_; rintro e w' ⟨rfl, rfl⟩) | (go_at_call 26; refine (immEven_yes n _ C.out).mono ?_; rintro e w' ⟨rfl, rfl⟩) | go_in)
  go_region
  go_wp2
  go_ret2
  exact ⟨rfl, (Below.refl _ _).drew⟩
theorem encodeB_out (n : Int) (w : World) (c : n < -4096 ∨ 4096 ≤ n) :
    Calls Try.prog 12 #[.int .i64 n] w fun e w' => e = .returned (.tuple #[.int .i64 0, .bool false]) ∧ Below w.heap.size w w' := by
  have C := Lib.hid c
  clear c
  go_enter Try.func12, Try.ntmps12
  go_wp2_with (first | (go_at_call 25; refine (immIFits_no n 4096 13 _ (by decide) (by decide) (by decide) C.out).mono ?_; rintro e w' ⟨rfl, hb⟩) | go_in)
  go_region
  go_wp2
  go_ret2
  exact ⟨rfl, hb.drew⟩
theorem encodeB_odd (n : Int) (w : World) (c1 : -4096 ≤ n) (c2 : n < 4096) (c : n % 2 = 1) :
    Calls Try.prog 12 #[.int .i64 n] w fun e w' => e = .returned (.tuple #[.int .i64 0, .bool false]) ∧ Below w.heap.size w w' := by
  have C := Lib.hid c
  clear c
  go_enter Try.func12, Try.ntmps12
  go_wp2_with (first | (go_at_call 25; refine (immIFits_yes n 4096 13 _ (by decide) (by decide) (by decide) c1 c2).mono ?_; rintro e w' ⟨rfl, rfl⟩) | (go_at_call 26; refine (immEven_no n _ C.out).mono ?_; rintro e w' ⟨rfl, hb⟩) | go_in)
  go_region
  go_wp2
  go_ret2
  exact ⟨rfl, hb.drew⟩
theorem encodeB_no (n : Int) (w : World) (c : ¬ (-4096 ≤ n ∧ n < 4096 ∧ n % 2 = 0)) :
    Calls Try.prog 12 #[.int .i64 n] w fun e w' => e = .returned (.tuple #[.int .i64 0, .bool false]) ∧ Below w.heap.size w w' := by
  by_cases h : n < -4096 ∨ 4096 ≤ n
  · exact encodeB_out n w h
  · exact encodeB_odd n w (by omega) (by omega) (by omega)
end Go.Proofs.Ytdcenglfccjnaaa
