/-
  The law FnDistinctU, walked: it returns true for every two numbers and writes nothing that was there. No conditions.
-/
import Derived.Test.YtdophgcjlckpiaaEnU
import Derived.Deep.RegionWith
namespace Go.Proofs.Ytdophgcjlckpiaa
open Go Go.RowKit
set_option linter.unusedVariables false
set_option linter.unusedSimpArgs false
set_option maxHeartbeats 2000000 in
theorem fnDistinctU_walk (a0 a1 : Int) (w0 : (Lit.int .i64 a0).wf = true) (w1 : (Lit.int .i64 a1).wf = true) (w : World) :
    Calls Try.prog 8 #[.int .i64 a0, .int .i64 a1] w fun e w' => e = .returned (.bool true) ∧ Below w.heap.size w w' := by
  clear w0 w1
  obtain ⟨c1, c2⟩ := fitU a0
  obtain ⟨d1, d2⟩ := fitU a1
  generalize hn : fitv 20 0 a0 = n at *
  generalize hm : fitv 20 0 a1 = m at *
  have HN := Lib.hid hn
  have HM := Lib.hid hm
  clear hn hm
  have t1 := oneU n m c1 c2 d1 d2
  generalize hv : valU n = v at *
  generalize hd : valU m = u at *
  have HV := Lib.hid hv
  have HU := Lib.hid hd
  clear hv hd
  go_enter Try.func8, Try.ntmps8
  go_wp2_with fail
  refine (specU_any _).mono ?_
  rintro e w1 ⟨rfl, hf1, hb1⟩
  generalize w.heap.size + 1 = g at *
  have F := FmtAt.new 20 0 1 1 24 hf1
  have B1 := (hb1.alloc hb1.size (Obj.cells #[.int .i64 20, .int .i64 0, .slice (some ⟨g, 0, none⟩) 1 1] 24))
  clear hf1
  go_wp2_with fail
  go_region_with (first | (go_at_call 14; have _f := F; refine (fit_at 20 0 _ _ _ _ _ rfl rfl (by decide) (by decide) (by decide)).mono ?_; rintro e w2 ⟨rfl, hb2⟩; have F2 := F.drew.below (Nat.le_refl _) hb2; have B2 := (B1.drew).trans (hb2.mono (B1.drew).size); have k0 := F2.c0; have k1 := F2.c1; have k2 := F2.c2; clear F _f hb2) | (go_at_call 14; refine (fit_at 20 0 _ _ _ _ _ rfl rfl (by decide) (by decide) (by decide)).mono ?_; rintro e w3 ⟨rfl, hb3⟩; have B3 := B2.trans (hb3.mono B2.size); clear k0 k1 k2 F2 hb3))
  all_goals
    rw [HN.out, HM.out]
    go_wp2_with fail
    refine (encodeU_yes _ _ c1 c2).mono ?_
    rintro e w4 ⟨rfl, hb4⟩
    rw [HV.out]
    have B4 := B3.trans (hb4.mono B3.size)
    go_wp2_with fail
    refine (encodeU_yes _ _ d1 d2).mono ?_
    rintro e w5 ⟨rfl, hb5⟩
    rw [HU.out]
    have B5 := B4.trans (hb5.mono B4.size)
    go_wp2_with fail
    go_ret
    exact ⟨rfl, B5⟩
end Go.Proofs.Ytdophgcjlckpiaa
