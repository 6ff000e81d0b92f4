/-
  errors.New, immFits, immIFits, walked: nil if the number fits in so many bits (1 to 63), else an error in new memory. No other conditions.
-/
import Derived.Test.YtafjijinhjgafaaProg
import Derived.Test.YtafjijinhjgafaaBits
import Derived.WalkKit
import Derived.WalkSpells
import Derived.WalkLawsBesides
import Derived.RegionTactic
import Derived.Lib.Hide
import Derived.Below
import Derived.Outline
namespace Go.Proofs.Ytafjijinhjgafaa
open Go Go.RowKit
set_option linter.unusedVariables false
set_option linter.unusedSimpArgs false

theorem new_any (s : ByteArray) (w : World) :
    Calls Try.prog 30 #[.string s] w fun e w' => e = .returned (.iface 43 (.pointer (some ⟨w.heap.size, 0, none⟩))) ∧ Below w.heap.size w w' := by
  go_enter Try.func30, Try.ntmps30
  go_wp2
  go_ret
  exact ⟨rfl, (Below.refl _ _).alloc (Nat.le_refl _) _⟩

theorem immFits_signed_yes (n H : Int) (nb : Nat) (w : World) (h1 : 1 ≤ nb) (h2 : nb ≤ 63) (hH : (2 : Int) ^ (nb - 1) = H) (c1 : -H ≤ n) (c2 : n < H) :
    Calls Try.prog 29 #[.int .i64 n, .int .u64 nb, .bool true] w fun e w' => e = .returned .nilIface ∧ w = w' := by
  have a1 : H ≤ 4611686018427387904 := hH ▸ pow_le_pow (nb - 1) 62 (by omega)
  have a0 : 1 ≤ H := by have := two_pow_pos (nb - 1); omega
  have w1 : wrap64 (-2 ^ (nb - 1)) = -H := by rw [hH]; exact IntWalk.wrap64_in _ ⟨by omega, by omega⟩
  have w2 : wrap64 (2 ^ (nb - 1)) = H := by rw [hH]; exact IntWalk.wrap64_in _ ⟨by omega, by omega⟩
  clear hH
  go_enter Try.func29, Try.ntmps29
  go_wp2_with fail
  go_ret
  exact ⟨rfl, rfl⟩

theorem immFits_signed_no (n H : Int) (nb : Nat) (w : World) (h1 : 1 ≤ nb) (h2 : nb ≤ 63) (hH : (2 : Int) ^ (nb - 1) = H) (c : n < -H ∨ H ≤ n) :
    Calls Try.prog 29 #[.int .i64 n, .int .u64 nb, .bool true] w fun e w' => e = .returned (.iface 43 (.pointer (some ⟨w.heap.size, 0, none⟩))) ∧ Below w.heap.size w w' := by
  have a1 : H ≤ 4611686018427387904 := hH ▸ pow_le_pow (nb - 1) 62 (by omega)
  have a0 : 1 ≤ H := by have := two_pow_pos (nb - 1); omega
  have w1 : wrap64 (-2 ^ (nb - 1)) = -H := by rw [hH]; exact IntWalk.wrap64_in _ ⟨by omega, by omega⟩
  have w2 : wrap64 (2 ^ (nb - 1)) = H := by rw [hH]; exact IntWalk.wrap64_in _ ⟨by omega, by omega⟩
  clear hH
  rcases c with c | c
  · by_cases c3 : nb ≤ 16
    all_goals
      go_enter Try.func29, Try.ntmps29
      go_wp2_with fail
      refine (new_any _ _).mono ?_
      rintro e w' ⟨rfl, hb⟩
      go_wp2_with fail
      go_ret
      exact ⟨rfl, hb⟩
  · have c' : ¬ n < -H := by omega
    by_cases c3 : nb ≤ 16
    all_goals
      go_enter Try.func29, Try.ntmps29
      go_wp2_with fail
      refine (new_any _ _).mono ?_
      rintro e w' ⟨rfl, hb⟩
      go_wp2_with fail
      go_ret
      exact ⟨rfl, hb⟩

theorem immIFits_yes (n H : Int) (nb : Nat) (w : World) (h1 : 1 ≤ nb) (h2 : nb ≤ 63) (hH : (2 : Int) ^ (nb - 1) = H) (c1 : -H ≤ n) (c2 : n < H) :
    Calls Try.prog 24 #[.int .i64 n, .int .u64 nb] w fun e w' => e = .returned .nilIface ∧ w = w' := by
  have H0 := Lib.hid (immFits_signed_yes n H nb w h1 h2 hH c1 c2)
  clear hH c1 c2
  go_enter Try.func24, Try.ntmps24
  go_wp2_with fail
  refine H0.out.mono ?_
  rintro e w' ⟨rfl, rfl⟩
  go_wp2_with fail
  go_ret
  exact ⟨rfl, rfl⟩
theorem immIFits_no (n H : Int) (nb : Nat) (w : World) (h1 : 1 ≤ nb) (h2 : nb ≤ 63) (hH : (2 : Int) ^ (nb - 1) = H) (c : n < -H ∨ H ≤ n) :
    Calls Try.prog 24 #[.int .i64 n, .int .u64 nb] w fun e w' => e = .returned (.iface 43 (.pointer (some ⟨w.heap.size, 0, none⟩))) ∧ Below w.heap.size w w' := by
  have H0 := Lib.hid (immFits_signed_no n H nb w h1 h2 hH c)
  clear hH c
  go_enter Try.func24, Try.ntmps24
  go_wp2_with fail
  refine H0.out.mono ?_
  rintro e w' ⟨rfl, hb⟩
  go_wp2_with fail
  go_ret
  exact ⟨rfl, hb⟩
end Go.Proofs.Ytafjijinhjgafaa
