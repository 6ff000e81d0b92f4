/-
  splitShiftConst and the law FnShiftConst, walked: the law returns true for every number and writes nothing. Condition: the table of the library holds what its initialiser lays.
-/
import Derived.Test.YtkjlddiglkpbhaaDoorShiftFns
import Derived.Test.YtkjlddiglkpbhaaDoorShiftPl
namespace Go.Proofs.YtkjlddiglkpbhaaDoor
open Go Go.RowKit
set_option linter.unusedVariables false
set_option linter.unusedSimpArgs false

theorem split_one (v u c : Int) (t : Nat) (w : World) (hT : TabIn w) (hu : IntKind.u64.wrap v = u) (u0 : 0 ≤ u) (u1 : u < 18446744073709551616) (ht : Lib.ctz 64 u.toNat = t) (ht2 : t ≤ 64) (hc : v / 2 ^ t = c) (h1 : (wrap64 (wrap32 c) == c) = true) :
    Calls Tryd.prog 6 #[.int .i64 v] w fun e w' => e = .returned (.tuple #[.int .i64 c, .int .i64 t, .int .i64 0, .bool true]) ∧ w = w' := by
  have HZ := Lib.hid (tz_any u w u0 u1 hT)
  rw [ht] at HZ
  clear ht hT u1
  go_enter Tryd.func6, Tryd.ntmps6
  go_wp2_with fail
  refine HZ.out.mono ?_
  rintro e w' ⟨rfl, rfl⟩
  go_wp2_with fail
  refine bodyPost_ret (v := .tuple #[.int .i64 c, .int .i64 t, .int .i64 0, .bool true]) (by simp [results, Tryd.results6, go_sem]) rfl ⟨rfl, rfl⟩

theorem split_two (v u c x : Int) (t L k : Nat) (w : World) (hT : TabIn w) (hu : IntKind.u64.wrap v = u) (u0 : 0 ≤ u) (u1 : u < 18446744073709551616) (ht : Lib.ctz 64 u.toNat = t) (ht2 : t ≤ 63) (hc : v / 2 ^ t = c) (h1 : (wrap64 (wrap32 c) == c) = false) (hL : Lib.bitLen u.toNat = L) (hL2 : L ≤ 64) (x0 : 0 ≤ x) (x1 : x < 18446744073709551616) (hx : u / 2 ^ t / 2048 = x) (hk : popF 64 x.toNat = k) (hk2 : k ≤ 64) (d : Int) (hd : sext 12 (bits .or .i64 2048 (bits .and .i64 c 2047)) = d) (hs : ((64 : Int) - L + k + t + 11 == 64) = true) (hg : 0 < t ∨ (d != -1) = true) :
    Calls Tryd.prog 6 #[.int .i64 v] w fun e w' => e = .returned (.tuple #[.int .i64 d, .int .i64 (t + (64 - L)), .int .i64 (64 - L), .bool true]) ∧ w = w' := by
  have HZ := Lib.hid (tz_any u w u0 u1 hT)
  rw [ht] at HZ
  have HL := Lib.hid (Tryd.bits_LeadingZeros64 u w u0 (by omega))
  rw [hL] at HL
  have HP := Lib.hid (ones_any x w x0 x1)
  rw [hk] at HP
  have HD := Lib.hid hd
  clear ht hT u1 hL hk x1 hd
  by_cases g : 0 < t
  · clear hg
    have g' : decide ((0 : Int) < t) = true := by simp; omega
    go_enter Tryd.func6, Tryd.ntmps6
    go_wp2_with fail
    refine HZ.out.mono ?_
    rintro e w' ⟨rfl, rfl⟩
    go_wp2_with fail
    refine HL.out.mono ?_
    rintro e w' ⟨rfl, rfl⟩
    go_wp2_with fail
    refine HP.out.mono ?_
    rintro e w' ⟨rfl, rfl⟩
    go_wp2_with fail
    refine (sx_any _ _ 12 _ rfl (by decide) (by decide)).mono ?_
    rintro e w' ⟨rfl, rfl⟩
    rw [HD.out]
    go_wp2_with fail
    refine bodyPost_ret (v := .tuple #[.int .i64 d, .int .i64 (t + (64 - L)), .int .i64 (64 - L), .bool true]) (by simp [results, Tryd.results6, go_sem]) rfl ⟨rfl, rfl⟩
  · have hg' : (d != -1) = true := by rcases hg with h | h; exact absurd h g; exact h
    clear hg
    have g' : decide ((0 : Int) < t) = false := by simp; omega
    go_enter Tryd.func6, Tryd.ntmps6
    go_wp2_with fail
    refine HZ.out.mono ?_
    rintro e w' ⟨rfl, rfl⟩
    go_wp2_with fail
    refine HL.out.mono ?_
    rintro e w' ⟨rfl, rfl⟩
    go_wp2_with fail
    refine HP.out.mono ?_
    rintro e w' ⟨rfl, rfl⟩
    go_wp2_with fail
    refine (sx_any _ _ 12 _ rfl (by decide) (by decide)).mono ?_
    rintro e w' ⟨rfl, rfl⟩
    rw [HD.out]
    go_wp2_with fail
    refine bodyPost_ret (v := .tuple #[.int .i64 d, .int .i64 (t + (64 - L)), .int .i64 (64 - L), .bool true]) (by simp [results, Tryd.results6, go_sem]) rfl ⟨rfl, rfl⟩

theorem split_ones (v u c x : Int) (t L k : Nat) (w : World) (hT : TabIn w) (hu : IntKind.u64.wrap v = u) (u0 : 0 ≤ u) (u1 : u < 18446744073709551616) (ht : Lib.ctz 64 u.toNat = t) (ht2 : t ≤ 63) (hc : v / 2 ^ t = c) (h1 : (wrap64 (wrap32 c) == c) = false) (hL : Lib.bitLen u.toNat = L) (hL2 : L ≤ 64) (x0 : 0 ≤ x) (x1 : x < 18446744073709551616) (hx : u / 2 ^ t / 2048 = x) (hk : popF 64 x.toNat = k) (hk2 : k ≤ 64) (d : Int) (hd : sext 12 (bits .or .i64 2048 (bits .and .i64 c 2047)) = d) (hs : ((64 : Int) - L + k + t + 11 == 64) = true) (g : t ≤ 0) (hg : (d != -1) = false) :
    Calls Tryd.prog 6 #[.int .i64 v] w fun e w' => e = .returned (.tuple #[.int .i64 d, .int .i64 t, .int .i64 (64 - L), .bool true]) ∧ w = w' := by
  have HZ := Lib.hid (tz_any u w u0 u1 hT)
  rw [ht] at HZ
  have HL := Lib.hid (Tryd.bits_LeadingZeros64 u w u0 (by omega))
  rw [hL] at HL
  have HP := Lib.hid (ones_any x w x0 x1)
  rw [hk] at HP
  have HD := Lib.hid hd
  clear ht hT u1 hL hk x1 hd
  have g' : decide ((0 : Int) < t) = false := by simp; omega
  go_enter Tryd.func6, Tryd.ntmps6
  go_wp2_with fail
  refine HZ.out.mono ?_
  rintro e w' ⟨rfl, rfl⟩
  go_wp2_with fail
  refine HL.out.mono ?_
  rintro e w' ⟨rfl, rfl⟩
  go_wp2_with fail
  refine HP.out.mono ?_
  rintro e w' ⟨rfl, rfl⟩
  go_wp2_with fail
  refine (sx_any _ _ 12 _ rfl (by decide) (by decide)).mono ?_
  rintro e w' ⟨rfl, rfl⟩
  rw [HD.out]
  go_wp2_with fail
  refine bodyPost_ret (v := .tuple #[.int .i64 d, .int .i64 t, .int .i64 (64 - L), .bool true]) (by simp [results, Tryd.results6, go_sem]) rfl ⟨rfl, rfl⟩

theorem split_three (v u c x : Int) (t L k : Nat) (w : World) (hT : TabIn w) (hu : IntKind.u64.wrap v = u) (u0 : 0 ≤ u) (u1 : u < 18446744073709551616) (ht : Lib.ctz 64 u.toNat = t) (ht2 : t ≤ 63) (hc : v / 2 ^ t = c) (h1 : (wrap64 (wrap32 c) == c) = false) (hL : Lib.bitLen u.toNat = L) (hL2 : L ≤ 64) (x0 : 0 ≤ x) (x1 : x < 18446744073709551616) (hx : u / 2 ^ t / 2048 = x) (hk : popF 64 x.toNat = k) (hk2 : k ≤ 64) (d : Int) (hd : wrap64 (wrap32 c) = d) (hs : ((64 : Int) - L + k + t + 11 == 64) = false) (hg : (c % 4294967296 == c) = true) :
    Calls Tryd.prog 6 #[.int .i64 v] w fun e w' => e = .returned (.tuple #[.int .i64 d, .int .i64 32, .int .i64 (32 - t), .bool true]) ∧ w = w' := by
  have HZ := Lib.hid (tz_any u w u0 u1 hT)
  rw [ht] at HZ
  have HL := Lib.hid (Tryd.bits_LeadingZeros64 u w u0 (by omega))
  rw [hL] at HL
  have HP := Lib.hid (ones_any x w x0 x1)
  rw [hk] at HP
  have HD := Lib.hid hd
  clear ht hT u1 hL hk x1 hd
  go_enter Tryd.func6, Tryd.ntmps6
  go_wp2_with fail
  refine HZ.out.mono ?_
  rintro e w' ⟨rfl, rfl⟩
  go_wp2_with fail
  refine HL.out.mono ?_
  rintro e w' ⟨rfl, rfl⟩
  go_wp2_with fail
  refine HP.out.mono ?_
  rintro e w' ⟨rfl, rfl⟩
  go_wp2_with fail
  rw [HD.out]
  refine bodyPost_ret (v := .tuple #[.int .i64 d, .int .i64 32, .int .i64 (32 - t), .bool true]) (by simp [results, Tryd.results6, go_sem]) rfl ⟨rfl, rfl⟩

theorem split_four (v u c x : Int) (t L k : Nat) (w : World) (hT : TabIn w) (hu : IntKind.u64.wrap v = u) (u0 : 0 ≤ u) (u1 : u < 18446744073709551616) (ht : Lib.ctz 64 u.toNat = t) (ht2 : t ≤ 63) (hc : v / 2 ^ t = c) (h1 : (wrap64 (wrap32 c) == c) = false) (hL : Lib.bitLen u.toNat = L) (hL2 : L ≤ 64) (x0 : 0 ≤ x) (x1 : x < 18446744073709551616) (hx : u / 2 ^ t / 2048 = x) (hk : popF 64 x.toNat = k) (hk2 : k ≤ 64) (hs : ((64 : Int) - L + k + t + 11 == 64) = false) (hg : (c % 4294967296 == c) = false) :
    Calls Tryd.prog 6 #[.int .i64 v] w fun e w' => e = .returned (.tuple #[.int .i64 0, .int .i64 0, .int .i64 0, .bool false]) ∧ w = w' := by
  have HZ := Lib.hid (tz_any u w u0 u1 hT)
  rw [ht] at HZ
  have HL := Lib.hid (Tryd.bits_LeadingZeros64 u w u0 (by omega))
  rw [hL] at HL
  have HP := Lib.hid (ones_any x w x0 x1)
  rw [hk] at HP
  clear ht hT u1 hL hk x1
  go_enter Tryd.func6, Tryd.ntmps6
  go_wp2_with fail
  refine HZ.out.mono ?_
  rintro e w' ⟨rfl, rfl⟩
  go_wp2_with fail
  refine HL.out.mono ?_
  rintro e w' ⟨rfl, rfl⟩
  go_wp2_with fail
  refine HP.out.mono ?_
  rintro e w' ⟨rfl, rfl⟩
  go_wp2_with fail
  refine bodyPost_ret (v := .tuple #[.int .i64 0, .int .i64 0, .int .i64 0, .bool false]) (by simp [results, Tryd.results6, go_sem]) rfl ⟨rfl, rfl⟩
end Go.Proofs.YtkjlddiglkpbhaaDoor
