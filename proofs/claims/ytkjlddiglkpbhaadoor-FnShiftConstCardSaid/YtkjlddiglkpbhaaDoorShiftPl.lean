/-
  Plain lemmas on splitting a constant into an immediate and shifts. No program in sight.
-/
import Derived.Test.YtkjlddiglkpbhaaDoorPop
import Derived.Lib.TrailingZeros
import Derived.Lib.BitFns
namespace Go.Proofs.YtkjlddiglkpbhaaDoor
open Go Go.RowKit
set_option linter.unusedVariables false
set_option linter.unusedSimpArgs false

/-- What the law asks of an immediate and two shifts. -/
def Good (v imm : Int) (l r : Nat) : Prop := -2147483648 ≤ imm ∧ imm < 2147483648 ∧ l < 64 ∧ r < 64 ∧ wrap64 (IntKind.u64.wrap (IntKind.u64.wrap imm * 2 ^ l) / 2 ^ r) = v

theorem u64_shl (a : Int) (l : Nat) : IntKind.u64.wrap (IntKind.u64.wrap a * 2 ^ l) = a * 2 ^ l % 18446744073709551616 := by
  rw [IntKind.wrap_u64, IntKind.wrap_u64, Int.mul_emod, Int.emod_emod, ← Int.mul_emod]
theorem wrap64_u (v u : Int) (h1 : -9223372036854775808 ≤ v) (h2 : v < 9223372036854775808) (hu : v % 18446744073709551616 = u) : wrap64 u = v := by
  unfold wrap64; omega

theorem bitLen_lt (f x : Nat) (h : x < 2 ^ f) : x < 2 ^ Lib.bitLenAux f x := by
  induction f generalizing x with
  | zero => simpa [Lib.bitLenAux] using h
  | succ f ih =>
    simp only [Lib.bitLenAux]
    split
    · omega
    · rw [Nat.pow_succ] at h
      have := ih (x / 2) (by omega)
      rw [Nat.add_comm, Nat.pow_succ]; omega
theorem bitLen_le (f x : Nat) : Lib.bitLenAux f x ≤ f := by
  induction f generalizing x with
  | zero => simp [Lib.bitLenAux]
  | succ f ih =>
    simp only [Lib.bitLenAux]
    split
    · omega
    · have := ih (x / 2); omega

/-- A number that isn't zero: its lowest one bit. -/
theorem ctz_parts (v : Int) (h1 : -9223372036854775808 ≤ v) (h2 : v < 9223372036854775808) (h0 : v ≠ 0) :
    ∃ (t m : Nat), Lib.ctz 64 (v % 18446744073709551616).toNat = t ∧ t < 64 ∧ (v % 18446744073709551616).toNat = 2 ^ t * m ∧ v = 2 ^ t * (v / 2 ^ t) := by
  obtain ⟨U, hU⟩ : ∃ U : Nat, v % 18446744073709551616 = (U : Int) := ⟨(v % 18446744073709551616).toNat, by omega⟩
  have hU0 : 0 < U := by omega
  obtain ⟨m, hm, ht⟩ := Lib.ctzFrom_spec 64 U hU0 (by omega)
  have e : Lib.ctz 64 U = Lib.ctzFrom 64 U := by unfold Lib.ctz; rw [if_neg (by omega)]
  rw [hU, Int.toNat_natCast, e]
  refine ⟨_, 2 * m + 1, rfl, ht, hm, ?_⟩
  generalize Lib.ctzFrom 64 U = t at *
  have hp := two_pow_pos t
  have hd : (2 : Int) ^ t ∣ v := by
    have a : (2 : Int) ^ t ∣ 18446744073709551616 := ⟨2 ^ (64 - t), by rw [← two_pow_add, show t + (64 - t) = 64 by omega]; rfl⟩
    have b : (2 : Int) ^ t ∣ (U : Int) := ⟨((2 * m + 1 : Nat) : Int), by rw [hm, pow_cast]; exact Int.natCast_mul _ _⟩
    have c : v = (U : Int) + 18446744073709551616 * (v / 18446744073709551616) := by omega
    rw [c]
    exact Int.dvd_add b (Int.dvd_mul_of_dvd_left a)
  rw [Int.mul_ediv_cancel' hd]

theorem good_one (v c : Int) (t : Nat) (h1 : -9223372036854775808 ≤ v) (h2 : v < 9223372036854775808) (hv : v = 2 ^ t * c) (ht : t < 64) (c1 : -2147483648 ≤ c) (c2 : c < 2147483648) : Good v c t 0 := by
  refine ⟨c1, c2, ht, by decide, ?_⟩
  rw [u64_shl, Int.pow_zero, Int.ediv_one, Int.mul_comm, ← hv]
  exact wrap64_u v _ h1 h2 rfl

theorem good_three (v c : Int) (t : Nat) (h1 : -9223372036854775808 ≤ v) (h2 : v < 9223372036854775808) (hv : v = 2 ^ t * c) (c1 : 2147483648 ≤ c) (c2 : c < 4294967296) : t < 32 ∧ Good v (c - 4294967296) 32 (32 - t) := by
  have ht : t < 32 := by
    refine Nat.lt_of_not_le fun h => ?_
    have a : (2 : Int) ^ 32 ≤ 2 ^ t := pow_le_pow 32 t h
    have b : (2 : Int) ^ 32 * 2147483648 ≤ 2 ^ t * c := Int.mul_le_mul a c1 (by decide) (Int.le_of_lt (two_pow_pos t))
    rw [← hv] at b
    have : (2 : Int) ^ 32 * 2147483648 = 9223372036854775808 := by decide
    omega
  refine ⟨ht, by omega, by omega, by decide, by omega, ?_⟩
  rw [u64_shl, show ((c - 4294967296) * 2 ^ 32 : Int) % 18446744073709551616 = c * 4294967296 by rw [show (2 : Int) ^ 32 = 4294967296 from by decide]; omega]
  have e : (4294967296 : Int) = 2 ^ t * 2 ^ (32 - t) := by rw [← two_pow_add, show t + (32 - t) = 32 by omega]; decide
  rw [e, ← Int.mul_assoc, Int.mul_ediv_cancel _ (by have := two_pow_pos (32 - t); omega), Int.mul_comm, ← hv]
  exact IntWalk.wrap64_in v ⟨h1, by omega⟩

/-- The middle of the number is all ones: the immediate is negative, of 12 bits. -/
theorem middle (v c : Int) (U t m k L : Nat) (h1 : -9223372036854775808 ≤ v) (h2 : v < 9223372036854775808) (hU : v % 18446744073709551616 = (U : Int)) (hm : U = 2 ^ t * m) (hv : v = 2 ^ t * c)
    (hL : Lib.bitLen U = L) (hk : popF 64 (U / 2 ^ t / 2048) = k) (hs : L = k + t + 11) (hL64 : L ≤ 64) :
    (m : Int) = 2 ^ (k + 11) + (c % 2048 - 2048) := by
  have hUlt : U < 2 ^ L := by rw [← hL]; exact bitLen_lt 64 U (by omega)
  have hpt := Nat.two_pow_pos t
  have hd : U / 2 ^ t = m := by rw [hm, Nat.mul_div_cancel_left _ hpt]
  rw [hd] at hk
  have hm2 : m < 2 ^ (k + 11) := by
    rw [hm, hs, show k + t + 11 = t + (k + 11) by omega, Nat.pow_add] at hUlt
    exact Nat.lt_of_mul_lt_mul_left hUlt
  have hx : m / 2048 < 2 ^ k := by
    rw [Nat.pow_add] at hm2
    exact Nat.div_lt_of_lt_mul (by rw [Nat.mul_comm]; exact hm2)
  have hall := pop_all k (m / 2048) (by omega) hx hk
  have hc : c % 2048 = (m : Int) % 2048 := by
    have hq : v = (U : Int) + 18446744073709551616 * (v / 18446744073709551616) := by omega
    generalize v / 18446744073709551616 = q at hq
    have e64 : (18446744073709551616 : Int) = 2 ^ t * (2 ^ (53 - t) * 2048) := by
      rw [show (2048 : Int) = 2 ^ 11 from by decide, ← two_pow_add, ← two_pow_add, show t + (53 - t + 11) = 64 by omega]; decide
    have hUi : (U : Int) = 2 ^ t * (m : Int) := by rw [hm, pow_cast]; exact Int.natCast_mul _ _
    rw [hUi, e64, hv, Int.mul_assoc, ← Int.mul_add] at hq
    have hcm := Int.eq_of_mul_eq_mul_left (by have := two_pow_pos t; omega) hq
    rw [hcm, Int.mul_assoc, Int.mul_comm (2 ^ (53 - t)), Int.mul_assoc]
    omega
  have hp2 : (2 : Nat) ^ (k + 11) = 2 ^ k * 2048 := by rw [Nat.pow_add]
  have hp3 : (2 : Int) ^ (k + 11) = ((2 ^ k : Nat) : Int) * 2048 := by rw [two_pow_add, pow_cast]; rfl
  have hpk := Nat.two_pow_pos k
  rw [hc, hp3]
  generalize (2 : Nat) ^ k = K at *
  omega

theorem good_two (v c : Int) (U t m k L : Nat) (h1 : -9223372036854775808 ≤ v) (h2 : v < 9223372036854775808) (hU : v % 18446744073709551616 = (U : Int)) (hm : U = 2 ^ t * m) (hv : v = 2 ^ t * c)
    (hL : Lib.bitLen U = L) (hk : popF 64 (U / 2 ^ t / 2048) = k) (hs : L = k + t + 11) (hL64 : L ≤ 64) : Good v (c % 2048 - 2048) (t + (64 - L)) (64 - L) := by
  have hmid := middle v c U t m k L h1 h2 hU hm hv hL hk hs hL64
  refine ⟨by omega, by omega, by omega, by omega, ?_⟩
  have e64 : (2 : Int) ^ (k + 11) * 2 ^ (t + (64 - L)) = 18446744073709551616 := by
    rw [← two_pow_add, show k + 11 + (t + (64 - L)) = 64 by omega]; decide
  have hp := two_pow_pos (t + (64 - L))
  have hlt : (m : Int) < 2 ^ (k + 11) := by omega
  have e : (c % 2048 - 2048) * 2 ^ (t + (64 - L)) = (m : Int) * 2 ^ (t + (64 - L)) + 18446744073709551616 * (-1) := by
    rw [← e64, show c % 2048 - 2048 = (m : Int) - 2 ^ (k + 11) by omega, Int.sub_mul]; omega
  have hb : (m : Int) * 2 ^ (t + (64 - L)) < 18446744073709551616 := by rw [← e64]; exact Int.mul_lt_mul_of_pos_right hlt hp
  rw [u64_shl, e, Int.add_mul_emod_self_left, Int.emod_eq_of_lt (Int.mul_nonneg (by omega) (by omega)) hb, two_pow_add, ← Int.mul_assoc, Int.mul_ediv_cancel _ (by have := two_pow_pos (64 - L); omega)]
  have hUi : (U : Int) = 2 ^ t * (m : Int) := by rw [hm, pow_cast]; exact Int.natCast_mul _ _
  rw [Int.mul_comm, ← hUi]
  exact wrap64_u v _ h1 h2 hU
theorem good_ones (v c : Int) (U m k L : Nat) (h1 : -9223372036854775808 ≤ v) (h2 : v < 9223372036854775808) (hU : v % 18446744073709551616 = (U : Int)) (hm : U = 2 ^ 0 * m) (hv : v = 2 ^ 0 * c)
    (hL : Lib.bitLen U = L) (hk : popF 64 (U / 2 ^ 0 / 2048) = k) (hs : L = k + 0 + 11) (hL64 : L ≤ 64) (hc : c % 2048 - 2048 = -1) : Good v (c % 2048 - 2048) 0 (64 - L) := by
  have hmid := middle v c U 0 m k L h1 h2 hU hm hv hL hk hs hL64
  refine ⟨by omega, by omega, by decide, by omega, ?_⟩
  have e64 : (18446744073709551616 : Int) = 2 ^ (64 - L) * 2 ^ (k + 11) := by
    rw [← two_pow_add, show 64 - L + (k + 11) = 64 by omega]; decide
  have hp := two_pow_pos (64 - L)
  rw [hc] at hmid
  rw [u64_shl, hc, show (-1 : Int) * 2 ^ 0 % 18446744073709551616 = 18446744073709551615 from by decide]
  have e : (18446744073709551615 : Int) = (2 ^ (64 - L) - 1) + 2 ^ (64 - L) * (m : Int) := by
    rw [hmid, Int.mul_add, ← e64]; omega
  rw [e, Int.add_mul_ediv_left _ _ (by omega), Int.ediv_eq_zero_of_lt (by omega) (by omega), Int.zero_add]
  have hUi : (U : Int) = (m : Int) := by rw [hm]; simp
  rw [← hUi]
  exact wrap64_u v _ h1 h2 hU
end Go.Proofs.YtkjlddiglkpbhaaDoor
