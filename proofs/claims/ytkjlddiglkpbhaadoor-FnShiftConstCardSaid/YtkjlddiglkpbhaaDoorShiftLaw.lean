/-
  The law FnShiftConst, walked: it returns true for every number and leaves the world as it was. Condition: the table of the library holds what its initialiser lays.
-/
import Derived.Test.YtkjlddiglkpbhaaDoorShift
namespace Go.Proofs.YtkjlddiglkpbhaaDoor
open Go Go.RowKit
set_option linter.unusedVariables false
set_option linter.unusedSimpArgs false

theorem neg12 (c : Int) : sext 12 (bits .or .i64 2048 (bits .and .i64 c 2047)) = c % 2048 - 2048 := by
  have e : bits .and .i64 c 2047 = c % 2048 := and_mask_i64 c 11 (by decide)
  rw [e, or_low_i64 2048 (c % 2048) 11 (by decide) (by omega) (by decide) (by omega) (by simp only [Int.reducePow]; omega) (by decide)]
  unfold sext; simp only [Int.reducePow, Nat.reduceSub]; omega

/-- What splitShiftConst comes to at a number that isn't zero. -/
def Outcome (v : Int) (w : World) : Prop :=
  (∃ (imm : Int) (l r : Nat), Good v imm l r ∧ Calls Tryd.prog 6 #[.int .i64 v] w fun e w' => e = .returned (.tuple #[.int .i64 imm, .int .i64 l, .int .i64 r, .bool true]) ∧ w = w') ∨
  Calls Tryd.prog 6 #[.int .i64 v] w fun e w' => e = .returned (.tuple #[.int .i64 0, .int .i64 0, .int .i64 0, .bool false]) ∧ w = w'

theorem split_any (v : Int) (w : World) (hT : TabIn w) (h1 : -9223372036854775808 ≤ v) (h2 : v < 9223372036854775808) (h0 : v ≠ 0) : Outcome v w := by
  obtain ⟨t, m, ht, htl, hm, hv⟩ := ctz_parts v h1 h2 h0
  have hu : IntKind.u64.wrap v = v % 18446744073709551616 := IntKind.wrap_u64 v
  have u0 : 0 ≤ v % 18446744073709551616 := by omega
  have u1 : v % 18446744073709551616 < 18446744073709551616 := by omega
  obtain ⟨U, hU⟩ : ∃ U : Nat, v % 18446744073709551616 = (U : Int) := ⟨_, (Int.toNat_of_nonneg u0).symm⟩
  rw [hU, Int.toNat_natCast] at ht hm
  rw [hU] at hu u0 u1
  obtain ⟨c, hc⟩ : ∃ c, v / 2 ^ t = c := ⟨_, rfl⟩
  rw [hc] at hv
  cases g1 : (wrap64 (wrap32 c) == c) with
  | true =>
    have e : wrap64 (wrap32 c) = c := by simpa using g1
    have b : -2147483648 ≤ c ∧ c < 2147483648 := by unfold wrap64 wrap32 at e; omega
    refine .inl ⟨c, t, 0, good_one v c t h1 h2 hv htl b.1 b.2, ?_⟩
    exact split_one v U c t w hT hu u0 u1 (by rw [Int.toNat_natCast]; exact ht) (by omega) hc g1
  | false =>
    obtain ⟨L, hL⟩ : ∃ L, Lib.bitLen U = L := ⟨_, rfl⟩
    have hL2 : L ≤ 64 := hL ▸ bitLen_le 64 U
    obtain ⟨k, hk⟩ : ∃ k, popF 64 (U / 2 ^ t / 2048) = k := ⟨_, rfl⟩
    have hk2 : k ≤ 64 := hk ▸ popF_le 64 _
    have hx : (U : Int) / 2 ^ t / 2048 = ((U / 2 ^ t / 2048 : Nat) : Int) := by
      rw [pow_cast, Int.natCast_ediv, Int.natCast_ediv]; rfl
    have x1 : ((U / 2 ^ t / 2048 : Nat) : Int) < 18446744073709551616 := by
      have a := Nat.div_le_self U (2 ^ t)
      have b := Nat.div_le_self (U / 2 ^ t) 2048
      omega
    have ht' : Lib.ctz 64 (U : Int).toNat = t := by rw [Int.toNat_natCast]; exact ht
    have hL' : Lib.bitLen (U : Int).toNat = L := by rw [Int.toNat_natCast]; exact hL
    have hk' : popF 64 ((U / 2 ^ t / 2048 : Nat) : Int).toNat = k := by rw [Int.toNat_natCast]; exact hk
    cases hs : ((64 : Int) - L + k + t + 11 == 64) with
    | true =>
      have hs' : L = k + t + 11 := by
        have : (64 : Int) - L + k + t + 11 = 64 := by simpa using hs
        omega
      by_cases g : 0 < t ∨ (c % 2048 - 2048 != -1) = true
      · refine .inl ⟨c % 2048 - 2048, t + (64 - L), 64 - L, good_two v c U t m k L h1 h2 hU hm hv hL hk hs' hL2, ?_⟩
        have H := split_two v U c _ t L k w hT hu u0 u1 ht' (by omega) hc g1 hL' hL2 (Int.natCast_nonneg _) x1 hx hk' hk2 _ (neg12 c) hs g
        rw [show ((t : Int) + (64 - (L : Int))) = ((t + (64 - L) : Nat) : Int) by omega, show ((64 : Int) - (L : Int)) = ((64 - L : Nat) : Int) by omega] at H
        exact H
      · have ht0 : t = 0 := by omega
        have hd : (c % 2048 - 2048 != -1) = false := by
          cases q : (c % 2048 - 2048 != -1) with
          | true => exact absurd (.inr q) g
          | false => rfl
        have hd' : c % 2048 - 2048 = -1 := by simpa using hd
        have H := split_ones v U c _ t L k w hT hu u0 u1 ht' (by omega) hc g1 hL' hL2 (Int.natCast_nonneg _) x1 hx hk' hk2 _ (neg12 c) hs (by omega) hd
        subst ht0
        refine .inl ⟨c % 2048 - 2048, 0, 64 - L, good_ones v c U m k L h1 h2 hU hm hv hL hk hs' hL2 hd', ?_⟩
        rw [show ((64 : Int) - (L : Int)) = ((64 - L : Nat) : Int) by omega] at H
        exact H
    | false =>
      cases hg : (c % 4294967296 == c) with
      | true =>
        have e : c % 4294967296 = c := by simpa using hg
        have b1 : 2147483648 ≤ c := by
          refine Int.not_lt.1 fun hlt => ?_
          have q : wrap64 (wrap32 c) = c := by unfold wrap64 wrap32; omega
          rw [q] at g1; simp at g1
        obtain ⟨t32, hgood⟩ := good_three v c t h1 h2 hv b1 (by omega)
        refine .inl ⟨c - 4294967296, 32, 32 - t, hgood, ?_⟩
        have H := split_three v U c _ t L k w hT hu u0 u1 ht' (by omega) hc g1 hL' hL2 (Int.natCast_nonneg _) x1 hx hk' hk2 (c - 4294967296) (by unfold wrap64 wrap32; omega) hs hg
        rw [show ((32 : Int) - (t : Int)) = ((32 - t : Nat) : Int) by omega] at H
        exact H
      | false =>
        exact .inr (split_four v U c _ t L k w hT hu u0 u1 ht' (by omega) hc g1 hL' hL2 (Int.natCast_nonneg _) x1 hx hk' hk2 hs hg)

/-- The two packages around it hand its results on. -/
theorem outer (v imm l r : Int) (b : Bool) (w : World)
    (H : Hid (Calls Tryd.prog 6 #[.int .i64 v] w fun e w' => e = .returned (.tuple #[.int .i64 imm, .int .i64 l, .int .i64 r, .bool b]) ∧ w = w')) :
    Calls Tryd.prog 4 #[.int .i64 v] w fun e w' => e = .returned (.tuple #[.int .i64 imm, .int .i64 l, .int .i64 r, .bool b]) ∧ w = w' := by
  have H5 : Hid (Calls Tryd.prog 5 #[.int .i64 v] w fun e w' => e = .returned (.tuple #[.int .i64 imm, .int .i64 l, .int .i64 r, .bool b]) ∧ w = w') := by
    refine Lib.hid ?_
    go_enter Tryd.func5, Tryd.ntmps5
    go_wp2_with fail
    refine H.out.mono ?_
    rintro e w' ⟨rfl, rfl⟩
    go_wp2_with fail
    refine bodyPost_ret (v := .tuple #[.int .i64 imm, .int .i64 l, .int .i64 r, .bool b]) (by simp [results, Tryd.results5, go_sem]) rfl ⟨rfl, rfl⟩
  clear H
  go_enter Tryd.func4, Tryd.ntmps4
  go_wp2_with fail
  refine H5.out.mono ?_
  rintro e w' ⟨rfl, rfl⟩
  go_wp2_with fail
  refine bodyPost_ret (v := .tuple #[.int .i64 imm, .int .i64 l, .int .i64 r, .bool b]) (by simp [results, Tryd.results4, go_sem]) rfl ⟨rfl, rfl⟩

theorem forty (w : World) (hT : TabIn w) : Calls Tryd.prog 4 #[.int .i64 1099511627776] w fun e w' => e = .returned (.tuple #[.int .i64 1, .int .i64 (40 : Nat), .int .i64 0, .bool true]) ∧ w = w' :=
  outer _ _ _ _ _ w (Lib.hid (split_one 1099511627776 1099511627776 1 40 w hT (by decide) (by decide) (by decide) (by decide +kernel) (by decide) (by decide) (by unfold wrap64 wrap32; decide)))
theorem forty_back : (wrap64 (IntKind.u64.wrap (IntKind.u64.wrap 1 * 2 ^ 40) / 2 ^ 0) != 1099511627776) = false := by unfold wrap64; decide

set_option maxRecDepth 100000 in
theorem law_ok (v imm : Int) (l r : Nat) (w : World) (hT : TabIn w) (hv : (v == 0) = false) (l1 : l < 64) (r1 : r < 64) (i1 : -2147483648 ≤ imm) (i2 : imm < 2147483648)
    (hf : (wrap64 (IntKind.u64.wrap (IntKind.u64.wrap imm * 2 ^ l) / 2 ^ r) == v) = true)
    (H : Hid (Calls Tryd.prog 4 #[.int .i64 v] w fun e w' => e = .returned (.tuple #[.int .i64 imm, .int .i64 l, .int .i64 r, .bool true]) ∧ w = w')) :
    Calls Tryd.prog 3 #[.int .i64 v] w fun e w' => e = .returned (.bool true) ∧ w = w' := by
  have H2 := Lib.hid (forty w hT)
  have i3 : (imm == imm) = true := by simp
  have hq := forty_back
  clear hT
  go_enter Tryd.func3, Tryd.ntmps3
  go_wp2_with fail
  refine H.out.mono ?_
  rintro e w' ⟨rfl, rfl⟩
  go_wp2_with fail
  refine H2.out.mono ?_
  rintro e w' ⟨rfl, rfl⟩
  go_wp2_with fail
  go_ret
  exact ⟨rfl, rfl⟩
set_option maxRecDepth 100000 in
theorem law_refused (v : Int) (w : World) (hT : TabIn w) (hv : (v == 0) = false)
    (H : Hid (Calls Tryd.prog 4 #[.int .i64 v] w fun e w' => e = .returned (.tuple #[.int .i64 0, .int .i64 0, .int .i64 0, .bool false]) ∧ w = w')) :
    Calls Tryd.prog 3 #[.int .i64 v] w fun e w' => e = .returned (.bool true) ∧ w = w' := by
  have H2 := Lib.hid (forty w hT)
  have hq := forty_back
  clear hT
  go_enter Tryd.func3, Tryd.ntmps3
  go_wp2_with fail
  refine H.out.mono ?_
  rintro e w' ⟨rfl, rfl⟩
  go_wp2_with fail
  refine H2.out.mono ?_
  rintro e w' ⟨rfl, rfl⟩
  go_wp2_with fail
  go_ret
  exact ⟨rfl, rfl⟩
set_option maxRecDepth 100000 in
theorem law_zero (w : World) (hT : TabIn w) :
    Calls Tryd.prog 3 #[.int .i64 0] w fun e w' => e = .returned (.bool true) ∧ w = w' := by
  have H := Lib.hid (outer 0 0 _ 0 true w (Lib.hid (split_one 0 0 0 64 w hT (by decide) (by decide) (by decide) (by decide +kernel) (by decide) (by decide) (by unfold wrap64 wrap32; decide))))
  have H2 := Lib.hid (forty w hT)
  have hq := forty_back
  clear hT
  go_enter Tryd.func3, Tryd.ntmps3
  go_wp2_with fail
  refine H.out.mono ?_
  rintro e w' ⟨rfl, rfl⟩
  go_wp2_with fail
  refine H2.out.mono ?_
  rintro e w' ⟨rfl, rfl⟩
  go_wp2_with fail
  go_ret
  exact ⟨rfl, rfl⟩

theorem fnShiftConst_walk (v : Int) (w : World) (hT : TabIn w) (h1 : -9223372036854775808 ≤ v) (h2 : v < 9223372036854775808) :
    Calls Tryd.prog 3 #[.int .i64 v] w fun e w' => e = .returned (.bool true) ∧ w = w' := by
  by_cases h0 : v = 0
  · subst h0; exact law_zero w hT
  · have hv : (v == 0) = false := by simpa using h0
    rcases split_any v w hT h1 h2 h0 with ⟨imm, l, r, ⟨i1, i2, l1, r1, hf⟩, H⟩ | H
    · exact law_ok v imm l r w hT hv l1 r1 i1 i2 (by simpa using hf) (Lib.hid (outer _ _ _ _ _ w (Lib.hid H)))
    · exact law_refused v w hT hv (Lib.hid (outer _ _ _ _ _ w (Lib.hid H)))
end Go.Proofs.YtkjlddiglkpbhaaDoor
