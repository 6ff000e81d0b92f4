/-
  'works', walked for the format I: it is true of the encoder. Condition: the format's fields lie in their row.
-/
import Derived.Test.YtdophgcjlckpiaaEnI
import Derived.Test.YtdophgcjlckpiaaSpec
import Derived.Deep.RegionWith
namespace Go.Proofs.Ytdophgcjlckpiaa
open Go Go.RowKit
set_option linter.unusedVariables false
set_option linter.unusedSimpArgs false
theorem worksI (g : Nat) (w : World) (hf : FieldsAt w g fsI) :
    Calls Try.prog 24 #[.func (.func 15) #[] #[], .agg #[.int .i64 12, .int .i64 0, .slice (some ⟨g, 0, none⟩) 1 1]] w fun e w' => e = .returned (.bool true) ∧ Below w.heap.size w w' := by
  have t1 : (valI (-2048) % 4294967296 == encL (-2048) fsI 0) = true := by rw [valI_u32 (-2048) (by decide) (by decide), encI]; simp
  generalize hv : valI (-2048) = v at *
  generalize hd : encL (-2048) fsI 0 = d at *
  have HV := Lib.hid hv
  have HD := Lib.hid hd
  clear hv hd
  have F := FmtAt.new 12 0 1 1 24 hf
  have B1 := ((Below.refl w.heap.size w).alloc (Nat.le_refl _) (Obj.cells #[.int .i64 12, .int .i64 0, .slice (some ⟨g, 0, none⟩) 1 1] 24))
  clear hf
  go_enter Try.func24, Try.ntmps24
  go_wp2_with fail
  refine (encodeI_yes _ _ (by decide) (by decide)).mono ?_
  rintro e w2 ⟨rfl, hb2⟩
  have F2 := F.below (Nat.le_refl _) hb2
  have B2 := B1.trans (hb2.mono B1.size)
  rw [HV.out]
  clear F hb2 B1
  have k0 := F2.c0
  have k1 := F2.c1
  have k2 := F2.c2
  have e1 : IntKind.i64.wrap 11 = 11 := by decide
  have e2 : IntKind.i64.wrap (-2048) = -2048 := by decide
  have t2 : (IntKind.u32.wrap v == d) = true := by rw [IntKind.wrap_u32']; exact t1
  go_wp2_with fail
  go_region_with ((go_at_call 23; refine (encoded_at 12 0 _ _ _ _ _ fsI _ _ rfl rfl rfl (by exact F2.flds) fineI).mono ?_; rintro e w3 ⟨rfl, hb3⟩; rw [HD.out]))
  all_goals
    go_wp2
    go_ret
    exact ⟨rfl, (B2.drew).trans (hb3.mono (B2.drew).size)⟩
end Go.Proofs.Ytdophgcjlckpiaa
