/-
  immEven, walked: nil for an even number, else an error in new memory. No conditions.
-/
import Derived.Test.YtafjijinhjgafaaErr
namespace Go.Proofs.Ytafjijinhjgafaa
open Go Go.RowKit
set_option linter.unusedVariables false
set_option linter.unusedSimpArgs false

theorem immEven_yes (n : Int) (w : World) (c : n % 2 = 0) :
    Calls Try.prog 28 #[.int .i64 n] w fun e w' => e = .returned .nilIface ∧ w = w' := by
  have h : (Go.bits .and .i64 n 1 != 0) = false := by rw [and_one_i64]; simpa using c
  clear c
  go_enter Try.func28, Try.ntmps28
  go_wp2_with fail
  go_ret
  exact ⟨rfl, rfl⟩
theorem immEven_no (n : Int) (w : World) (c : n % 2 = 1) :
    Calls Try.prog 28 #[.int .i64 n] w fun e w' => e = .returned (.iface 43 (.pointer (some ⟨w.heap.size, 0, none⟩))) ∧ Below w.heap.size w w' := by
  have h : (Go.bits .and .i64 n 1 != 0) = true := by rw [and_one_i64, c]; rfl
  clear c
  go_enter Try.func28, Try.ntmps28
  go_wp2_with fail
  refine (new_any _ _).mono ?_
  rintro e w' ⟨rfl, hb⟩
  go_wp2_with fail
  go_ret
  exact ⟨rfl, hb⟩
end Go.Proofs.Ytafjijinhjgafaa
