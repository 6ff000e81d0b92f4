/-
  The law FnEncodeU, walked: it returns true for every number and writes nothing that was there. No conditions.
-/
import Derived.Test.YtdophgcjlckpiaaWkU
namespace Go.Proofs.Ytdophgcjlckpiaa
open Go Go.RowKit
set_option linter.unusedVariables false
set_option linter.unusedSimpArgs false
set_option maxHeartbeats 1000000 in
theorem fnEncodeU_yes (a0 : Int) (w : World) (c1 : -524288 ≤ a0) (c2 : a0 < 524288) (hB : fitsB 20 0 a0 = true) :
    Calls Try.prog 11 #[.int .i64 a0] w fun e w' => e = .returned (.bool true) ∧ Below w.heap.size w w' := by
  have t1 : (valU a0 % 4294967296 == encL a0 fsU 0) = true := by rw [valU_u32 a0 c1 c2, encU]; simp
  generalize hv : valU a0 = v at *
  generalize hd : encL a0 fsU 0 = d at *
  have HV := Lib.hid hv
  have HD := Lib.hid hd
  have HB := Lib.hid hB
  clear hv hd hB
  go_enter Try.func11, Try.ntmps11
  go_wp2_with fail
  refine (encodeU_yes _ _ c1 c2).mono ?_
  rintro e w0 ⟨rfl, hb0⟩
  rw [HV.out]
  go_wp2_with fail
  refine (specU_any _).mono ?_
  rintro e w1 ⟨rfl, hf1, hb1⟩
  have B0 := hb0.trans (hb1.mono hb0.size)
  clear hb0 hb1
  generalize w0.heap.size + 1 = g at *
  have F := FmtAt.new 20 0 1 1 24 hf1
  have B1 := (B0.alloc B0.size (Obj.cells #[.int .i64 20, .int .i64 0, .slice (some ⟨g, 0, none⟩) 1 1] 24))
  clear hf1 B0
  go_wp2_with fail
  refine (fits_at 20 0 _ _ _ _ _ rfl rfl (by decide) (by decide) (by decide)).mono ?_
  rintro e w2 ⟨rfl, hb2⟩
  have F2 := F.below (Nat.le_refl _) hb2
  have B2 := B1.trans (hb2.mono B1.size)
  rw [HB.out]
  clear F hb2 B1
  generalize w1.heap.size = p at *
  have k0 := F2.c0
  have k1 := F2.c1
  have k2 := F2.c2
  go_wp2_with fail
  refine (encoded_at 20 0 _ _ _ _ _ fsU _ _ rfl rfl rfl F2.flds fineU).mono ?_
  rintro e w3 ⟨rfl, hb3⟩
  rw [HD.out]
  have F3 := F2.below (Nat.le_refl _) hb3
  have B3 := B2.trans (hb3.mono B2.size)
  clear F2 hb3 B2 k0 k1 k2
  have k0 := F3.c0
  have k1 := F3.c1
  have k2 := F3.c2
  go_wp2_with fail
  refine (worksU _ _ F3.flds).mono ?_
  rintro e w4 ⟨rfl, hb4⟩
  clear k0 k1 k2
  go_wp2_with fail
  go_ret
  exact ⟨rfl, B3.trans (hb4.mono B3.size)⟩
set_option maxHeartbeats 1000000 in
theorem fnEncodeU_no (a0 : Int) (w : World) (c : ¬ (-524288 ≤ a0 ∧ a0 < 524288 ∧ a0 % 1 = 0)) (hB : fitsB 20 0 a0 = false) :
    Calls Try.prog 11 #[.int .i64 a0] w fun e w' => e = .returned (.bool true) ∧ Below w.heap.size w w' := by
  have HC := Lib.hid c
  have HB := Lib.hid hB
  clear hB c
  go_enter Try.func11, Try.ntmps11
  go_wp2_with fail
  refine (encodeU_no _ _ HC.out).mono ?_
  rintro e w0 ⟨rfl, hb0⟩
  go_wp2_with fail
  refine (specU_any _).mono ?_
  rintro e w1 ⟨rfl, hf1, hb1⟩
  have B0 := hb0.trans (hb1.mono hb0.size)
  clear hb0 hb1
  generalize w0.heap.size + 1 = g at *
  have F := FmtAt.new 20 0 1 1 24 hf1
  have B1 := (B0.alloc B0.size (Obj.cells #[.int .i64 20, .int .i64 0, .slice (some ⟨g, 0, none⟩) 1 1] 24))
  clear hf1 B0
  go_wp2_with fail
  refine (fits_at 20 0 _ _ _ _ _ rfl rfl (by decide) (by decide) (by decide)).mono ?_
  rintro e w2 ⟨rfl, hb2⟩
  have F2 := F.below (Nat.le_refl _) hb2
  have B2 := B1.trans (hb2.mono B1.size)
  rw [HB.out]
  clear F hb2 B1
  generalize w1.heap.size = p at *
  have k0 := F2.c0
  have k1 := F2.c1
  have k2 := F2.c2
  go_wp2_with fail
  refine (worksU _ _ F2.flds).mono ?_
  rintro e w4 ⟨rfl, hb4⟩
  clear k0 k1 k2
  go_wp2_with fail
  go_ret
  exact ⟨rfl, B2.trans (hb4.mono B2.size)⟩
theorem fnEncodeU_walk (a0 : Int) (w0 : (Lit.int .i64 a0).wf = true) (w : World) :
    Calls Try.prog 11 #[.int .i64 a0] w fun e w' => e = .returned (.bool true) ∧ Below w.heap.size w w' := by
  by_cases h : -524288 ≤ a0 ∧ a0 < 524288 ∧ a0 % 1 = 0
  · exact fnEncodeU_yes a0 w h.1 h.2.1 (by rw [fitsDecU]; simpa using h)
  · exact fnEncodeU_no a0 w h (by rw [fitsDecU]; simpa using h)
end Go.Proofs.Ytdophgcjlckpiaa
