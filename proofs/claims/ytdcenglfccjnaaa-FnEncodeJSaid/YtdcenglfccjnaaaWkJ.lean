/-
  'works', walked for the format J: it is true of the encoder. Condition: the format's fields lie in their row.
-/
import Derived.Test.YtdcenglfccjnaaaEnJ
import Derived.Deep.RegionWith
namespace Go.Proofs.Ytdcenglfccjnaaa
open Go Go.RowKit
set_option linter.unusedVariables false
set_option linter.unusedSimpArgs false
theorem worksJ (g : Nat) (w : World) (hf : FieldsAt w g fsJ) :
    Calls Try.prog 19 #[.func (.func 16) #[] #[], .agg #[.int .i64 21, .int .i64 1, .slice (some ⟨g, 0, none⟩) 4 4]] w fun e w' => e = .returned (.bool true) ∧ Below w.heap.size w w' := by
  have t1 : (valJ (-1048576) % 4294967296 == encL (-1048576) fsJ 0) = true := by rw [valJ_u32 (-1048576) (by decide) (by decide) (by decide), encJ]; simp
  generalize hv : valJ (-1048576) = v at *
  generalize hd : encL (-1048576) fsJ 0 = d at *
  have HV := Lib.hid hv
  have HD := Lib.hid hd
  clear hv hd
  have F := FmtAt.new 21 1 4 4 24 hf
  have B1 := ((Below.refl w.heap.size w).alloc (Nat.le_refl _) (Obj.cells #[.int .i64 21, .int .i64 1, .slice (some ⟨g, 0, none⟩) 4 4] 24))
  clear hf
  go_enter Try.func19, Try.ntmps19
  go_wp2_with fail
  refine (encodeJ_yes _ _ (by decide) (by decide) (by decide)).mono ?_
  rintro e w2 ⟨rfl, hb2⟩
  have F2 := F.below (Nat.le_refl _) hb2
  have B2 := B1.trans (hb2.mono B1.size)
  rw [HV.out]
  clear F hb2 B1
  have k0 := F2.c0
  have k1 := F2.c1
  have k2 := F2.c2
  have e1 : IntKind.i64.wrap 20 = 20 := by decide
  have e2 : IntKind.i64.wrap (-1048576) = -1048576 := by decide
  have t2 : (IntKind.u32.wrap v == d) = true := by rw [IntKind.wrap_u32']; exact t1
  go_wp2_with fail
  go_region_with ((go_at_call 18; refine (encoded_at 21 1 _ _ _ _ _ fsJ _ _ rfl rfl rfl (by exact F2.flds) fineJ).mono ?_; rintro e w3 ⟨rfl, hb3⟩; rw [HD.out]))
  all_goals
    go_wp2
    go_ret
    exact ⟨rfl, (B2.drew).trans (hb3.mono (B2.drew).size)⟩
end Go.Proofs.Ytdcenglfccjnaaa
