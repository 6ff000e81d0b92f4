/-
  The law FnDistinctCJ, walked: it returns true for every two numbers and writes nothing that was there. No conditions.
-/
import Derived.Test.YtpnihechnlkhpaaEnCJ
import Derived.Deep.RegionWith
namespace Go.Proofs.Ytpnihechnlkhpaa
open Go Go.RowKit
set_option linter.unusedVariables false
set_option linter.unusedSimpArgs false
set_option maxHeartbeats 2000000 in
theorem fnDistinctCJ_walk (a0 a1 : Int) (w0 : (Lit.int .i64 a0).wf = true) (w1 : (Lit.int .i64 a1).wf = true) (w : World) :
    Calls Try.prog 7 #[.int .i64 a0, .int .i64 a1] w fun e w' => e = .returned (.bool true) ∧ Below w.heap.size w w' := by
  clear w0 w1
  obtain ⟨c1, c2, c3⟩ := fitCJ a0
  obtain ⟨d1, d2, d3⟩ := fitCJ a1
  generalize hn : fitv 12 1 a0 = n at *
  generalize hm : fitv 12 1 a1 = m at *
  have HN := Lib.hid hn
  have HM := Lib.hid hm
  clear hn hm
  have t1 := oneCJ n m c1 c2 c3 d1 d2 d3
  have C3 := Lib.hid c3
  have D3 := Lib.hid d3
  clear c3 d3
  generalize hv : valCJ n = v at *
  generalize hd : valCJ m = u at *
  have HV := Lib.hid hv
  have HU := Lib.hid hd
  clear hv hd
  go_enter Try.func7, Try.ntmps7
  go_wp2_with fail
  refine (specCJ_any _).mono ?_
  rintro e w1 ⟨rfl, hf1, hb1⟩
  generalize w.heap.size + 1 = g at *
  have F := FmtAt.new 12 1 8 8 27 hf1
  have B1 := (hb1.alloc hb1.size (Obj.cells #[.int .i64 12, .int .i64 1, .slice (some ⟨g, 0, none⟩) 8 8] 27))
  clear hf1
  go_wp2_with fail
  go_region_with (first | (go_at_call 17; have _f := F; refine (fit_at 12 1 _ _ _ _ _ rfl rfl (by decide) (by decide) (by decide)).mono ?_; rintro e w2 ⟨rfl, hb2⟩; have F2 := F.drew.below (Nat.le_refl _) hb2; have B2 := (B1.drew).trans (hb2.mono (B1.drew).size); have k0 := F2.c0; have k1 := F2.c1; have k2 := F2.c2; clear F _f hb2) | (go_at_call 17; refine (fit_at 12 1 _ _ _ _ _ rfl rfl (by decide) (by decide) (by decide)).mono ?_; rintro e w3 ⟨rfl, hb3⟩; have B3 := B2.trans (hb3.mono B2.size); clear k0 k1 k2 F2 hb3))
  all_goals
    rw [HN.out, HM.out]
    go_wp2_with fail
    refine (encodeCJ_yes _ _ c1 c2 C3.out).mono ?_
    rintro e w4 ⟨rfl, hb4⟩
    rw [HV.out]
    have B4 := B3.trans (hb4.mono B3.size)
    go_wp2_with fail
    refine (encodeCJ_yes _ _ d1 d2 D3.out).mono ?_
    rintro e w5 ⟨rfl, hb5⟩
    rw [HU.out]
    have B5 := B4.trans (hb5.mono B4.size)
    go_wp2_with fail
    go_ret
    exact ⟨rfl, B5⟩
end Go.Proofs.Ytpnihechnlkhpaa
