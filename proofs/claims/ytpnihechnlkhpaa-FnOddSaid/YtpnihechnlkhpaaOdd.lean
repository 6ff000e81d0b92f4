/-
  The law FnOdd, walked: it returns true for every number and writes nothing that was there. No conditions.
-/
import Derived.Test.YtpnihechnlkhpaaWkB
import Derived.Test.YtpnihechnlkhpaaEnJ
import Derived.Test.YtpnihechnlkhpaaEnCB
import Derived.Test.YtpnihechnlkhpaaEnCJ
namespace Go.Proofs.Ytpnihechnlkhpaa
open Go Go.RowKit
set_option linter.unusedVariables false
set_option linter.unusedSimpArgs false

set_option maxHeartbeats 1000000 in
theorem fnOdd_walk (a0 : Int) (w0 : (Lit.int .i64 a0).wf = true) (w : World) :
    Calls Try.prog 3 #[.int .i64 a0] w fun e w' => e = .returned (.bool true) ∧ Below w.heap.size w w' := by
  clear w0
  have hm := or_one_odd a0
  obtain ⟨m, hm'⟩ : ∃ m, bits .or .i64 a0 1 = m := ⟨_, rfl⟩
  rw [hm'] at hm
  have C := Lib.hid hm
  have HM := Lib.hid hm'
  clear hm hm'
  go_enter Try.func3, Try.ntmps3
  go_wp2_with fail
  rw [HM.out]
  refine (encodeB_no _ _ (by have := C.out; omega)).mono ?_
  rintro e w1 ⟨rfl, hb1⟩
  go_wp2_with fail
  refine (encodeJ_no _ _ (by have := C.out; omega)).mono ?_
  rintro e w2 ⟨rfl, hb2⟩
  have B2 := hb1.trans (hb2.mono hb1.size)
  clear hb1 hb2
  go_wp2_with fail
  refine (encodeCB_no _ _ (by have := C.out; omega)).mono ?_
  rintro e w3 ⟨rfl, hb3⟩
  have B3 := B2.trans (hb3.mono B2.size)
  clear hb3 B2
  go_wp2_with fail
  refine (encodeCJ_no _ _ (by have := C.out; omega)).mono ?_
  rintro e w4 ⟨rfl, hb4⟩
  have B4 := B3.trans (hb4.mono B3.size)
  clear hb4 B3
  go_wp2_with fail
  refine (specB_any _).mono ?_
  rintro e w5 ⟨rfl, hf5, hb5⟩
  have B5 := B4.trans (hb5.mono B4.size)
  clear hb5 B4
  go_wp2_with fail
  refine (worksB _ _ hf5).mono ?_
  rintro e w6 ⟨rfl, hb6⟩
  have B6 := B5.trans (hb6.mono B5.size)
  go_wp2_with fail
  go_ret
  exact ⟨rfl, B6⟩
end Go.Proofs.Ytpnihechnlkhpaa
