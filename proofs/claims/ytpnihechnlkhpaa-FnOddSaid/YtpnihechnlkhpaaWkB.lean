/-
  'works', walked for the format B: it is true of the encoder. Condition: the format's fields lie in their row.
-/
import Derived.Test.YtpnihechnlkhpaaEnB
import Derived.Test.YtpnihechnlkhpaaSpec
import Derived.Deep.RegionWith
namespace Go.Proofs.Ytpnihechnlkhpaa
open Go Go.RowKit
set_option linter.unusedVariables false
set_option linter.unusedSimpArgs false
theorem worksB (g : Nat) (w : World) (hf : FieldsAt w g fsB) :
    Calls Try.prog 14 #[.func (.func 10) #[] #[], .agg #[.int .i64 13, .int .i64 1, .slice (some ⟨g, 0, none⟩) 4 4]] w fun e w' => e = .returned (.bool true) ∧ Below w.heap.size w w' := by
  have t1 : (valB (-4096) % 4294967296 == encL (-4096) fsB 0) = true := by rw [valB_u32 (-4096) (by decide) (by decide) (by decide), encB]; simp
  generalize hv : valB (-4096) = v at *
  generalize hd : encL (-4096) fsB 0 = d at *
  have HV := Lib.hid hv
  have HD := Lib.hid hd
  clear hv hd
  have F := FmtAt.new 13 1 4 4 27 hf
  have B1 := ((Below.refl w.heap.size w).alloc (Nat.le_refl _) (Obj.cells #[.int .i64 13, .int .i64 1, .slice (some ⟨g, 0, none⟩) 4 4] 27))
  clear hf
  go_enter Try.func14, Try.ntmps14
  go_wp2_with fail
  refine (encodeB_yes _ _ (by decide) (by decide) (by decide)).mono ?_
  rintro e w2 ⟨rfl, hb2⟩
  have F2 := F.below (Nat.le_refl _) hb2
  have B2 := B1.trans (hb2.mono B1.size)
  rw [HV.out]
  clear F hb2 B1
  have k0 := F2.c0
  have k1 := F2.c1
  have k2 := F2.c2
  have e1 : IntKind.i64.wrap 12 = 12 := by decide
  have e2 : IntKind.i64.wrap (-4096) = -4096 := by decide
  have t2 : (IntKind.u32.wrap v == d) = true := by rw [IntKind.wrap_u32']; exact t1
  go_wp2_with fail
  go_region_with ((go_at_call 22; refine (encoded_at 13 1 _ _ _ _ _ fsB _ _ rfl rfl rfl (by exact F2.flds) fineB).mono ?_; rintro e w3 ⟨rfl, hb3⟩; rw [HD.out]))
  all_goals
    go_wp2
    go_ret
    exact ⟨rfl, (B2.drew).trans (hb3.mono (B2.drew).size)⟩
end Go.Proofs.Ytpnihechnlkhpaa
