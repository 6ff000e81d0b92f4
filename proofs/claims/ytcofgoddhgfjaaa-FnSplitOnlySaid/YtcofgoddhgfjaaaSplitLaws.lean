/-
  The laws FnSplit, FnSplitBack and FnSplitOnly, walked: they return true for all numbers and write nothing that was there. No conditions.
-/
import Derived.Test.YtcofgoddhgfjaaaSplit
import Derived.Test.YtcofgoddhgfjaaaEnI
import Derived.Test.YtcofgoddhgfjaaaEnU
namespace Go.Proofs.Ytcofgoddhgfjaaa
open Go Go.RowKit
set_option linter.unusedVariables false
set_option linter.unusedSimpArgs false

theorem lo_bd (n : Int) : -2048 ≤ lo n ∧ lo n < 2048 := by unfold lo; omega
theorem hi_bd (n : Int) : -524288 ≤ hi n ∧ hi n < 524288 := by unfold hi; omega
theorem split_sum (n : Int) : ∃ q : Int, hi n * 4096 + lo n = n + 4294967296 * q := by
  unfold hi lo
  exact ⟨-(((n + 2048) / 4096 + 524288) / 1048576), by omega⟩
theorem wrap32_bd (n : Int) : -2147483648 ≤ wrap32 n ∧ wrap32 n < 2147483648 := by unfold wrap32; omega
theorem wrap_wrap (n : Int) : wrap64 (wrap32 n) = wrap32 n := by
  have := wrap32_bd n
  exact IntWalk.wrap64_in _ ⟨by omega, by omega⟩
/-- Two numbers of 20 and 12 bits are those into which what they give together is split. -/
theorem lo_of (l h : Int) (l1 : -2048 ≤ l) (l2 : l < 2048) (h1 : -524288 ≤ h) (h2 : h < 524288) : lo (wrap32 (h * 4096 + l)) = l := by
  unfold lo wrap32; omega
theorem hi_of (l h : Int) (l1 : -2048 ≤ l) (l2 : l < 2048) (h1 : -524288 ≤ h) (h2 : h < 524288) : hi (wrap32 (h * 4096 + l)) = h := by
  have e : (wrap32 (h * 4096 + l) + 2048) / 4096 = h ∨ (wrap32 (h * 4096 + l) + 2048) / 4096 = h + 1048576 := by unfold wrap32; omega
  unfold hi
  rcases e with e | e <;> rw [e] <;> omega

set_option maxHeartbeats 1000000 in
theorem fnSplit_yes (n : Int) (w : World) (c1 : -2147483648 ≤ n) (c2 : n < 2147483648) :
    Calls Try.prog 4 #[.int .i64 n] w fun e w' => e = .returned (.bool true) ∧ Below w.heap.size w w' := by
  have H := Lib.hid (fun w => split_yes n w c1 c2)
  obtain ⟨l1, l2⟩ := lo_bd n
  obtain ⟨h1, h2⟩ := hi_bd n
  obtain ⟨q, hq⟩ := split_sum n
  generalize lo n = l at *
  generalize hi n = h at *
  have t : (wrap32 (h * 4096 + l) == n) = true := by rw [hq]; unfold wrap32; simp; omega
  clear hq
  go_enter Try.func4, Try.ntmps4
  go_wp2_with fail
  refine (H.out _).mono ?_
  rintro e w1 ⟨rfl, hb1⟩
  go_wp2_with fail
  go_ret
  exact ⟨rfl, hb1⟩
set_option maxHeartbeats 1000000 in
theorem fnSplit_no (n : Int) (w : World) (c : n < -2147483648 ∨ 2147483648 ≤ n) :
    Calls Try.prog 4 #[.int .i64 n] w fun e w' => e = .returned (.bool true) ∧ Below w.heap.size w w' := by
  have H := Lib.hid (fun w => split_no n w c)
  have t : (n != wrap64 (wrap32 n)) = true := by
    have := wrap32_bd n
    rw [wrap_wrap, bne_iff_ne]; omega
  clear c
  go_enter Try.func4, Try.ntmps4
  go_wp2_with fail
  refine (H.out _).mono ?_
  rintro e w1 ⟨rfl, hb1⟩
  go_wp2_with fail
  refine (split_yes 1 _ (by decide) (by decide)).mono ?_
  rintro e w2 ⟨rfl, hb2⟩
  go_wp2_with fail
  go_ret
  exact ⟨rfl, hb1.trans (hb2.mono hb1.size)⟩
theorem fnSplit_walk (a0 : Int) (w0 : (Lit.int .i64 a0).wf = true) (w : World) :
    Calls Try.prog 4 #[.int .i64 a0] w fun e w' => e = .returned (.bool true) ∧ Below w.heap.size w w' := by
  by_cases h : a0 < -2147483648 ∨ 2147483648 ≤ a0
  · exact fnSplit_no a0 w h
  · exact fnSplit_yes a0 w (by omega) (by omega)

set_option maxHeartbeats 1000000 in
theorem fnSplitBack_walk (a0 a1 : Int) (w0 : (Lit.int .i64 a0).wf = true) (w1 : (Lit.int .i64 a1).wf = true) (w : World) :
    Calls Try.prog 5 #[.int .i64 a0, .int .i64 a1] w fun e w' => e = .returned (.bool true) ∧ Below w.heap.size w w' := by
  clear w0 w1
  obtain ⟨l1, l2⟩ := fitI a0
  obtain ⟨h1, h2⟩ := fitU a1
  generalize hl : fitv 12 0 a0 = l at *
  generalize hh : fitv 20 0 a1 = h at *
  have HL := Lib.hid hl
  have HH := Lib.hid hh
  clear hl hh
  obtain ⟨x1, x2⟩ := wrap32_bd (h * 4096 + l)
  have q1 := lo_of l h l1 l2 h1 h2
  have q2 := hi_of l h l1 l2 h1 h2
  have hx := wrap_wrap (h * 4096 + l)
  generalize hX : wrap32 (h * 4096 + l) = x at q1 q2 x1 x2
  rw [hX] at hx
  have HX := Lib.hid (show wrap64 (wrap32 (h * 4096 + l)) = x by rw [hX]; exact hx)
  have Q1 := Lib.hid q1
  have Q2 := Lib.hid q2
  clear hx hX q1 q2
  go_enter Try.func5, Try.ntmps5
  go_wp2_with fail
  refine (specI_any _).mono ?_
  rintro e w1 ⟨rfl, hf1, hb1⟩
  clear hf1
  go_wp2_with fail
  refine (fit_at 12 0 _ _ _ _ _ rfl rfl (by decide) (by decide) (by decide)).mono ?_
  rintro e w2 ⟨rfl, hb2⟩
  rw [HL.out]
  have B2 := hb1.trans (hb2.mono hb1.size)
  clear hb1 hb2
  go_wp2_with fail
  refine (specU_any _).mono ?_
  rintro e w3 ⟨rfl, hf3, hb3⟩
  clear hf3
  have B3 := B2.trans (hb3.mono B2.size)
  clear hb3 B2
  go_wp2_with fail
  refine (fit_at 20 0 _ _ _ _ _ rfl rfl (by decide) (by decide) (by decide)).mono ?_
  rintro e w4 ⟨rfl, hb4⟩
  rw [HH.out]
  have B4 := B3.trans (hb4.mono B3.size)
  clear hb4 B3
  go_wp2_with fail
  rw [HX.out]
  refine (split_yes x _ x1 x2).mono ?_
  rintro e w5 ⟨rfl, hb5⟩
  rw [Q1.out, Q2.out]
  have B5 := B4.trans (hb5.mono B4.size)
  have s1 : (l == l) = true := by simp
  have s2 : (h == h) = true := by simp
  go_wp2_with fail
  go_ret
  exact ⟨rfl, B5⟩

set_option maxHeartbeats 2000000 in
theorem fnSplitOnly_walk (a0 a1 a2 : Int) (w0 : (Lit.int .i64 a0).wf = true) (w1 : (Lit.int .i64 a1).wf = true) (w2 : (Lit.int .i64 a2).wf = true) (w : World) :
    Calls Try.prog 6 #[.int .i64 a0, .int .i64 a1, .int .i64 a2] w fun e w' => e = .returned (.bool true) ∧ Below w.heap.size w w' := by
  clear w0 w1 w2
  obtain ⟨l1, l2⟩ := fitI a1
  obtain ⟨h1, h2⟩ := fitU a2
  generalize hl : fitv 12 0 a1 = l at *
  generalize hh : fitv 20 0 a2 = h at *
  have HL := Lib.hid hl
  have HH := Lib.hid hh
  clear hl hh
  obtain ⟨x1, x2⟩ := wrap32_bd a0
  have hx := wrap_wrap a0
  obtain ⟨x, hX⟩ : ∃ x, wrap32 a0 = x := ⟨_, rfl⟩
  rw [hX] at x1 x2
  have HX := Lib.hid (show wrap64 (wrap32 a0) = x by rw [hx, hX])
  have q1 := lo_of l h l1 l2 h1 h2
  have q2 := hi_of l h l1 l2 h1 h2
  by_cases he : wrap32 (h * 4096 + l) = x
  · rw [he] at q1 q2
    have Q1 := Lib.hid q1
    have Q2 := Lib.hid q2
    have t : (wrap32 (h * 4096 + l) != x) = false := by rw [he]; simp
    have s1 : (l == l) = true := by simp
    have s2 : (h == h) = true := by simp
    clear hx hX q1 q2 he
    go_enter Try.func6, Try.ntmps6
    go_wp2_with fail
    rw [HX.out]
    clear HX
    refine (specI_any _).mono ?_
    rintro e w1 ⟨rfl, hf1, hb1⟩
    clear hf1
    go_wp2_with fail
    refine (fit_at 12 0 _ _ _ _ _ rfl rfl (by decide) (by decide) (by decide)).mono ?_
    rintro e w2 ⟨rfl, hb2⟩
    rw [HL.out]
    have B2 := hb1.trans (hb2.mono hb1.size)
    clear hb1 hb2
    go_wp2_with fail
    refine (specU_any _).mono ?_
    rintro e w3 ⟨rfl, hf3, hb3⟩
    clear hf3
    have B3 := B2.trans (hb3.mono B2.size)
    clear hb3 B2
    go_wp2_with fail
    refine (fit_at 20 0 _ _ _ _ _ rfl rfl (by decide) (by decide) (by decide)).mono ?_
    rintro e w4 ⟨rfl, hb4⟩
    rw [HH.out]
    have B4 := B3.trans (hb4.mono B3.size)
    clear hb4 B3
    go_wp2_with fail
    refine (split_yes x _ x1 x2).mono ?_
    rintro e w5 ⟨rfl, hb5⟩
    rw [Q1.out, Q2.out]
    have B5 := B4.trans (hb5.mono B4.size)
    go_wp2_with fail
    go_ret
    exact ⟨rfl, B5⟩
  · have t : (wrap32 (h * 4096 + l) != x) = true := by rw [bne_iff_ne]; exact he
    clear hx hX q1 q2 he
    go_enter Try.func6, Try.ntmps6
    go_wp2_with fail
    rw [HX.out]
    clear HX
    refine (specI_any _).mono ?_
    rintro e w1 ⟨rfl, hf1, hb1⟩
    clear hf1
    go_wp2_with fail
    refine (fit_at 12 0 _ _ _ _ _ rfl rfl (by decide) (by decide) (by decide)).mono ?_
    rintro e w2 ⟨rfl, hb2⟩
    rw [HL.out]
    have B2 := hb1.trans (hb2.mono hb1.size)
    clear hb1 hb2
    go_wp2_with fail
    refine (specU_any _).mono ?_
    rintro e w3 ⟨rfl, hf3, hb3⟩
    clear hf3
    have B3 := B2.trans (hb3.mono B2.size)
    clear hb3 B2
    go_wp2_with fail
    refine (fit_at 20 0 _ _ _ _ _ rfl rfl (by decide) (by decide) (by decide)).mono ?_
    rintro e w4 ⟨rfl, hb4⟩
    rw [HH.out]
    have B4 := B3.trans (hb4.mono B3.size)
    clear hb4 B3
    go_wp2_with fail
    refine (split_yes x _ x1 x2).mono ?_
    rintro e w5 ⟨rfl, hb5⟩
    have B5 := B4.trans (hb5.mono B4.size)
    go_wp2_with fail
    go_ret
    exact ⟨rfl, B5⟩
end Go.Proofs.Ytcofgoddhgfjaaa
