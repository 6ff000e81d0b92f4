/-
  The law FnSplitEncoded, walked: it returns true for every number and writes nothing that was there. No conditions.
-/
import Derived.Test.YtcofgoddhgfjaaaSplitLaws
import Derived.Test.YtcofgoddhgfjaaaEnS
namespace Go.Proofs.Ytcofgoddhgfjaaa
open Go Go.RowKit
set_option linter.unusedVariables false
set_option linter.unusedSimpArgs false

theorem splitEnc_sum (n x : Int) (hx : wrap32 n = x) : ((valU (hi x) + wrap32 (valI (lo x)) / 1048576) % 4294967296 == n % 4294967296) = true := by
  obtain ⟨l1, l2⟩ := lo_bd x
  obtain ⟨h1, h2⟩ := hi_bd x
  obtain ⟨q, hq⟩ := split_sum x
  generalize lo x = l at *
  generalize hi x = h at *
  have e1 : wrap32 (valI l) = l * 1048576 := by unfold valI; exact IntWalk.wrap32_in _ ⟨by omega, by omega⟩
  have e2 : x % 4294967296 = n % 4294967296 := by rw [← hx]; unfold wrap32; omega
  have e3 : (h * 4096 + l) % 4294967296 = n % 4294967296 := by omega
  rw [e1, show l * 1048576 / 1048576 = l by omega]
  unfold valU
  rw [e3]; simp

set_option maxHeartbeats 2000000 in
theorem fnSplitEncoded_walk (a0 : Int) (w0 : (Lit.int .i64 a0).wf = true) (w : World) :
    Calls Try.prog 3 #[.int .i64 a0] w fun e w' => e = .returned (.bool true) ∧ Below w.heap.size w w' := by
  clear w0
  obtain ⟨x1, x2⟩ := wrap32_bd a0
  have hx := wrap_wrap a0
  obtain ⟨x, hX⟩ : ∃ x, wrap32 a0 = x := ⟨_, rfl⟩
  rw [hX] at x1 x2
  have HX := Lib.hid (show wrap64 (wrap32 a0) = x by rw [hx, hX])
  have t := splitEnc_sum a0 x hX
  obtain ⟨l1, l2⟩ := lo_bd x
  obtain ⟨h1, h2⟩ := hi_bd x
  have S := Lib.hid (fun w => split_yes x w x1 x2)
  clear hx hX
  generalize lo x = l at *
  generalize hi x = h at *
  generalize hv : valU h = v at *
  generalize hu : valI l = u at *
  have HV := Lib.hid hv
  have HU := Lib.hid hu
  clear hv hu
  go_enter Try.func3, Try.ntmps3
  go_wp2_with fail
  rw [HX.out]
  refine (S.out _).mono ?_
  rintro e w1 ⟨rfl, hb1⟩
  go_wp2_with fail
  refine (encodeU_yes _ _ h1 h2).mono ?_
  rintro e w2 ⟨rfl, hb2⟩
  rw [HV.out]
  have B2 := hb1.trans (hb2.mono hb1.size)
  clear hb1 hb2
  go_wp2_with fail
  refine (encodeI_yes _ _ l1 l2).mono ?_
  rintro e w3 ⟨rfl, hb3⟩
  rw [HU.out]
  have B3 := B2.trans (hb3.mono B2.size)
  clear hb3 B2
  go_wp2_with fail
  refine (encodeS_yes _ _ l1 l2).mono ?_
  rintro e w4 ⟨rfl, hb4⟩
  have B4 := B3.trans (hb4.mono B3.size)
  clear hb4 B3
  go_wp2_with fail
  go_ret
  exact ⟨rfl, B4⟩
end Go.Proofs.Ytcofgoddhgfjaaa
