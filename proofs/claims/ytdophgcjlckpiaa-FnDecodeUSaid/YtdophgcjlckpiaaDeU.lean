/-
  The law FnDecodeU, walked: it returns true for every number and writes nothing that was there. No conditions.
-/
import Derived.Test.YtdophgcjlckpiaaEnU
namespace Go.Proofs.Ytdophgcjlckpiaa
open Go Go.RowKit
set_option linter.unusedVariables false
set_option linter.unusedSimpArgs false
set_option maxHeartbeats 1000000 in
theorem fnDecodeU_walk (a0 : Int) (w0 : (Lit.int .i64 a0).wf = true) (w : World) :
    Calls Try.prog 5 #[.int .i64 a0] w fun e w' => e = .returned (.bool true) ∧ Below w.heap.size w w' := by
  clear w0
  obtain ⟨c1, c2⟩ := fitU a0
  generalize hn : fitv 20 0 a0 = n at *
  have HN := Lib.hid hn
  clear hn
  have t1 : (decV 20 fsU (valU n % 4294967296) == n) = true := by rw [valU_u32 n c1 c2, decU n c1 c2]; simp
  have t2 : (bits .andNot .u32 (valU n % 4294967296) (maskL fsU 0) == 0) = true := by rw [valU_u32 n c1 c2, mskU n]; rfl
  generalize hm : maskL fsU 0 = m at *
  generalize hv : valU n = v at *
  generalize hd : decV 20 fsU (v % 4294967296) = d at *
  have HM := Lib.hid hm
  have HV := Lib.hid hv
  have HD := Lib.hid hd
  clear hm hv hd
  go_enter Try.func5, Try.ntmps5
  go_wp2_with fail
  refine (specU_any _).mono ?_
  rintro e w1 ⟨rfl, hf1, hb1⟩
  generalize w.heap.size + 1 = g at *
  have F := FmtAt.new 20 0 1 1 24 hf1
  have B1 := (hb1.alloc hb1.size (Obj.cells #[.int .i64 20, .int .i64 0, .slice (some ⟨g, 0, none⟩) 1 1] 24))
  clear hf1
  go_wp2_with fail
  refine (fit_at 20 0 _ _ _ _ _ rfl rfl (by decide) (by decide) (by decide)).mono ?_
  rintro e w2 ⟨rfl, hb2⟩
  have F2 := F.below (Nat.le_refl _) hb2
  have B2 := B1.trans (hb2.mono B1.size)
  rw [HN.out]
  clear F hb1 hb2 B1
  generalize w1.heap.size = p at *
  go_wp2_with fail
  refine (encodeU_yes _ _ c1 c2).mono ?_
  rintro e w3 ⟨rfl, hb3⟩
  have F3 := F2.below (Nat.le_refl _) hb3
  have B3 := B2.trans (hb3.mono B2.size)
  rw [HV.out]
  clear F2 hb3 B2
  have k0 := F3.c0
  have k1 := F3.c1
  have k2 := F3.c2
  go_wp2_with fail
  refine (decoded_at 20 0 _ _ _ _ _ fsU _ _ rfl rfl rfl (by decide) (by decide) F3.flds fineU).mono ?_
  rintro e w4 ⟨rfl, hb4⟩
  have F4 := F3.below (Nat.le_refl _) hb4
  have B4 := B3.trans (hb4.mono B3.size)
  rw [HD.out]
  clear k0 k1 k2 F3 hb4 B3
  have k0 := F4.c0
  have k1 := F4.c1
  have k2 := F4.c2
  go_wp2_with fail
  refine (mask_at 20 0 _ _ _ _ _ fsU _ rfl rfl rfl F4.flds fineU).mono ?_
  rintro e w5 ⟨rfl, hb5⟩
  rw [HM.out]
  clear k0 k1 k2
  go_wp2_with fail
  go_ret
  exact ⟨rfl, B4.trans (hb5.mono B4.size)⟩
end Go.Proofs.Ytdophgcjlckpiaa
