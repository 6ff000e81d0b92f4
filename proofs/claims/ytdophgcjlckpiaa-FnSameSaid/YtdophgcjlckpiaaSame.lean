/-
  The law FnSame, walked: it returns true for every number and writes nothing that was there. No conditions.
-/
import Derived.Test.YtdophgcjlckpiaaWkI
import Derived.Test.YtdophgcjlckpiaaEnS
namespace Go.Proofs.Ytdophgcjlckpiaa
open Go Go.RowKit
set_option linter.unusedVariables false
set_option linter.unusedSimpArgs false

theorem same1 (n : Int) (c1 : -2048 ≤ n) (c2 : n < 2048) : (valI n % 4294967296 / 33554432 == valS n % 4294967296 / 33554432) = true := by
  rw [valI_u32 n c1 c2, valS_u32 n c1 c2]
  have h : eI n / 33554432 = eS n / 33554432 := by unfold eI eS; omega
  rw [h]; simp
theorem same2 (n : Int) (c1 : -2048 ≤ n) (c2 : n < 2048) : (bits .and .u32 (valI n % 4294967296 / 1048576) 31 == bits .and .u32 (valS n % 4294967296 / 128) 31) = true := by
  obtain ⟨i0, i1⟩ := eI_bound n
  obtain ⟨s0, s1⟩ := eS_bound n
  rw [valI_u32 n c1 c2, valS_u32 n c1 c2, and_lit_u32 (eI n / 1048576) 5 32 31 (by decide) (by decide) (by decide) (by omega) (by omega), and_lit_u32 (eS n / 128) 5 32 31 (by decide) (by decide) (by decide) (by omega) (by omega)]
  have h : eI n / 1048576 % 32 = eS n / 128 % 32 := by unfold eI eS; omega
  rw [h]; simp

set_option maxHeartbeats 1000000 in
theorem fnSame_yes (a0 : Int) (w : World) (c1 : -2048 ≤ a0) (c2 : a0 < 2048) :
    Calls Try.prog 12 #[.int .i64 a0] w fun e w' => e = .returned (.bool true) ∧ Below w.heap.size w w' := by
  have t1 := same1 a0 c1 c2
  have t2 := same2 a0 c1 c2
  generalize hv : valI a0 = v at *
  generalize hd : valS a0 = u at *
  have HV := Lib.hid hv
  have HU := Lib.hid hd
  clear hv hd
  go_enter Try.func12, Try.ntmps12
  go_wp2_with fail
  refine (encodeI_yes _ _ c1 c2).mono ?_
  rintro e w1 ⟨rfl, hb1⟩
  rw [HV.out]
  go_wp2_with fail
  refine (encodeS_yes _ _ c1 c2).mono ?_
  rintro e w2 ⟨rfl, hb2⟩
  rw [HU.out]
  have B2 := hb1.trans (hb2.mono hb1.size)
  go_wp2_with fail
  go_ret
  exact ⟨rfl, B2⟩
set_option maxHeartbeats 1000000 in
theorem fnSame_no (a0 : Int) (w : World) (c : a0 < -2048 ∨ 2048 ≤ a0) :
    Calls Try.prog 12 #[.int .i64 a0] w fun e w' => e = .returned (.bool true) ∧ Below w.heap.size w w' := by
  have C := Lib.hid c
  clear c
  go_enter Try.func12, Try.ntmps12
  go_wp2_with fail
  refine (encodeI_out _ _ C.out).mono ?_
  rintro e w1 ⟨rfl, hb1⟩
  go_wp2_with fail
  refine (encodeS_out _ _ C.out).mono ?_
  rintro e w2 ⟨rfl, hb2⟩
  have B2 := hb1.trans (hb2.mono hb1.size)
  clear hb1 hb2
  go_wp2_with fail
  refine (specI_any _).mono ?_
  rintro e w3 ⟨rfl, hf3, hb3⟩
  have B3 := B2.trans (hb3.mono B2.size)
  clear hb3 B2
  go_wp2_with fail
  refine (worksI _ _ hf3).mono ?_
  rintro e w4 ⟨rfl, hb4⟩
  have B4 := B3.trans (hb4.mono B3.size)
  go_wp2_with fail
  go_ret
  exact ⟨rfl, B4⟩
theorem fnSame_walk (a0 : Int) (w0 : (Lit.int .i64 a0).wf = true) (w : World) :
    Calls Try.prog 12 #[.int .i64 a0] w fun e w' => e = .returned (.bool true) ∧ Below w.heap.size w w' := by
  by_cases h : a0 < -2048 ∨ 2048 ≤ a0
  · exact fnSame_no a0 w h
  · exact fnSame_yes a0 w (by omega) (by omega)
end Go.Proofs.Ytdophgcjlckpiaa
