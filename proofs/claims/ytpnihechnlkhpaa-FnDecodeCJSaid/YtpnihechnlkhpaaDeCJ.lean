/-
  The law FnDecodeCJ, walked: it returns true for every number and writes nothing that was there. No conditions.
-/
import Derived.Test.YtpnihechnlkhpaaEnCJ
namespace Go.Proofs.Ytpnihechnlkhpaa
open Go Go.RowKit
set_option linter.unusedVariables false
set_option linter.unusedSimpArgs false
set_option maxHeartbeats 1000000 in
theorem fnDecodeCJ_walk (a0 : Int) (w0 : (Lit.int .i64 a0).wf = true) (w : World) :
    Calls Try.prog 5 #[.int .i64 a0] w fun e w' => e = .returned (.bool true) ∧ Below w.heap.size w w' := by
  clear w0
  obtain ⟨c1, c2, c3⟩ := fitCJ a0
  generalize hn : fitv 12 1 a0 = n at *
  have HN := Lib.hid hn
  clear hn
  have t1 : (decV 12 fsCJ (valCJ n % 4294967296) == n) = true := by rw [valCJ_u32 n c1 c2 c3, decCJ n c1 c2 c3]; simp
  have t2 : (bits .andNot .u32 (valCJ n % 4294967296) (maskL fsCJ 0) == 0) = true := by rw [valCJ_u32 n c1 c2 c3, mskCJ n]; rfl
  have C3 := Lib.hid c3
  clear c3
  generalize hm : maskL fsCJ 0 = m at *
  generalize hv : valCJ n = v at *
  generalize hd : decV 12 fsCJ (v % 4294967296) = d at *
  have HM := Lib.hid hm
  have HV := Lib.hid hv
  have HD := Lib.hid hd
  clear hm hv hd
  go_enter Try.func5, Try.ntmps5
  go_wp2_with fail
  refine (specCJ_any _).mono ?_
  rintro e w1 ⟨rfl, hf1, hb1⟩
  generalize w.heap.size + 1 = g at *
  have F := FmtAt.new 12 1 8 8 27 hf1
  have B1 := (hb1.alloc hb1.size (Obj.cells #[.int .i64 12, .int .i64 1, .slice (some ⟨g, 0, none⟩) 8 8] 27))
  clear hf1
  go_wp2_with fail
  refine (fit_at 12 1 _ _ _ _ _ rfl rfl (by decide) (by decide) (by decide)).mono ?_
  rintro e w2 ⟨rfl, hb2⟩
  have F2 := F.below (Nat.le_refl _) hb2
  have B2 := B1.trans (hb2.mono B1.size)
  rw [HN.out]
  clear F hb1 hb2 B1
  generalize w1.heap.size = p at *
  go_wp2_with fail
  refine (encodeCJ_yes _ _ c1 c2 C3.out).mono ?_
  rintro e w3 ⟨rfl, hb3⟩
  have F3 := F2.below (Nat.le_refl _) hb3
  have B3 := B2.trans (hb3.mono B2.size)
  rw [HV.out]
  clear F2 hb3 B2
  have k0 := F3.c0
  have k1 := F3.c1
  have k2 := F3.c2
  go_wp2_with fail
  refine (decoded_at 12 1 _ _ _ _ _ fsCJ _ _ rfl rfl rfl (by decide) (by decide) F3.flds fineCJ).mono ?_
  rintro e w4 ⟨rfl, hb4⟩
  have F4 := F3.below (Nat.le_refl _) hb4
  have B4 := B3.trans (hb4.mono B3.size)
  rw [HD.out]
  clear k0 k1 k2 F3 hb4 B3
  have k0 := F4.c0
  have k1 := F4.c1
  have k2 := F4.c2
  go_wp2_with fail
  refine (mask_at 12 1 _ _ _ _ _ fsCJ _ rfl rfl rfl F4.flds fineCJ).mono ?_
  rintro e w5 ⟨rfl, hb5⟩
  rw [HM.out]
  clear k0 k1 k2
  go_wp2_with fail
  go_ret
  exact ⟨rfl, B4.trans (hb5.mono B4.size)⟩
end Go.Proofs.Ytpnihechnlkhpaa
