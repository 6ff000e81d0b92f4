/-
  The law FnEncodeCJ, walked: it returns true for every number and writes nothing that was there. No conditions.
-/
import Derived.Test.YtpnihechnlkhpaaWkCJ
namespace Go.Proofs.Ytpnihechnlkhpaa
open Go Go.RowKit
set_option linter.unusedVariables false
set_option linter.unusedSimpArgs false
set_option maxHeartbeats 1000000 in
theorem fnEncodeCJ_yes (a0 : Int) (w : World) (c1 : -2048 ≤ a0) (c2 : a0 < 2048) (c3 : a0 % 2 = 0) (hB : fitsB 12 1 a0 = true) :
    Calls Try.prog 9 #[.int .i64 a0] w fun e w' => e = .returned (.bool true) ∧ Below w.heap.size w w' := by
  have t1 : (valCJ a0 % 4294967296 == encL a0 fsCJ 0) = true := by rw [valCJ_u32 a0 c1 c2 c3, encCJ]; simp
  have C3 := Lib.hid c3
  clear c3
  generalize hv : valCJ a0 = v at *
  generalize hd : encL a0 fsCJ 0 = d at *
  have HV := Lib.hid hv
  have HD := Lib.hid hd
  have HB := Lib.hid hB
  clear hv hd hB
  go_enter Try.func9, Try.ntmps9
  go_wp2_with fail
  refine (encodeCJ_yes _ _ c1 c2 C3.out).mono ?_
  rintro e w0 ⟨rfl, hb0⟩
  rw [HV.out]
  go_wp2_with fail
  refine (specCJ_any _).mono ?_
  rintro e w1 ⟨rfl, hf1, hb1⟩
  have B0 := hb0.trans (hb1.mono hb0.size)
  clear hb0 hb1
  generalize w0.heap.size + 1 = g at *
  have F := FmtAt.new 12 1 8 8 27 hf1
  have B1 := (B0.alloc B0.size (Obj.cells #[.int .i64 12, .int .i64 1, .slice (some ⟨g, 0, none⟩) 8 8] 27))
  clear hf1 B0
  go_wp2_with fail
  refine (fits_at 12 1 _ _ _ _ _ rfl rfl (by decide) (by decide) (by decide)).mono ?_
  rintro e w2 ⟨rfl, hb2⟩
  have F2 := F.below (Nat.le_refl _) hb2
  have B2 := B1.trans (hb2.mono B1.size)
  rw [HB.out]
  clear F hb2 B1
  generalize w1.heap.size = p at *
  have k0 := F2.c0
  have k1 := F2.c1
  have k2 := F2.c2
  go_wp2_with fail
  refine (encoded_at 12 1 _ _ _ _ _ fsCJ _ _ rfl rfl rfl F2.flds fineCJ).mono ?_
  rintro e w3 ⟨rfl, hb3⟩
  rw [HD.out]
  have F3 := F2.below (Nat.le_refl _) hb3
  have B3 := B2.trans (hb3.mono B2.size)
  clear F2 hb3 B2 k0 k1 k2
  have k0 := F3.c0
  have k1 := F3.c1
  have k2 := F3.c2
  go_wp2_with fail
  refine (worksCJ _ _ F3.flds).mono ?_
  rintro e w4 ⟨rfl, hb4⟩
  clear k0 k1 k2
  go_wp2_with fail
  go_ret
  exact ⟨rfl, B3.trans (hb4.mono B3.size)⟩
set_option maxHeartbeats 1000000 in
theorem fnEncodeCJ_no (a0 : Int) (w : World) (c : ¬ (-2048 ≤ a0 ∧ a0 < 2048 ∧ a0 % 2 = 0)) (hB : fitsB 12 1 a0 = false) :
    Calls Try.prog 9 #[.int .i64 a0] w fun e w' => e = .returned (.bool true) ∧ Below w.heap.size w w' := by
  have HC := Lib.hid c
  have HB := Lib.hid hB
  clear hB c
  go_enter Try.func9, Try.ntmps9
  go_wp2_with fail
  refine (encodeCJ_no _ _ HC.out).mono ?_
  rintro e w0 ⟨rfl, hb0⟩
  go_wp2_with fail
  refine (specCJ_any _).mono ?_
  rintro e w1 ⟨rfl, hf1, hb1⟩
  have B0 := hb0.trans (hb1.mono hb0.size)
  clear hb0 hb1
  generalize w0.heap.size + 1 = g at *
  have F := FmtAt.new 12 1 8 8 27 hf1
  have B1 := (B0.alloc B0.size (Obj.cells #[.int .i64 12, .int .i64 1, .slice (some ⟨g, 0, none⟩) 8 8] 27))
  clear hf1 B0
  go_wp2_with fail
  refine (fits_at 12 1 _ _ _ _ _ rfl rfl (by decide) (by decide) (by decide)).mono ?_
  rintro e w2 ⟨rfl, hb2⟩
  have F2 := F.below (Nat.le_refl _) hb2
  have B2 := B1.trans (hb2.mono B1.size)
  rw [HB.out]
  clear F hb2 B1
  generalize w1.heap.size = p at *
  have k0 := F2.c0
  have k1 := F2.c1
  have k2 := F2.c2
  go_wp2_with fail
  refine (worksCJ _ _ F2.flds).mono ?_
  rintro e w4 ⟨rfl, hb4⟩
  clear k0 k1 k2
  go_wp2_with fail
  go_ret
  exact ⟨rfl, B2.trans (hb4.mono B2.size)⟩
theorem fnEncodeCJ_walk (a0 : Int) (w0 : (Lit.int .i64 a0).wf = true) (w : World) :
    Calls Try.prog 9 #[.int .i64 a0] w fun e w' => e = .returned (.bool true) ∧ Below w.heap.size w w' := by
  by_cases h : -2048 ≤ a0 ∧ a0 < 2048 ∧ a0 % 2 = 0
  · exact fnEncodeCJ_yes a0 w h.1 h.2.1 h.2.2 (by rw [fitsDecCJ]; simpa using h)
  · exact fnEncodeCJ_no a0 w h (by rw [fitsDecCJ]; simpa using h)
end Go.Proofs.Ytpnihechnlkhpaa
