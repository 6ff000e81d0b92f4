/-
  Plain lemmas on bits of integers: a mask is a remainder, an or of disjoint parts a sum, a sign extension a remainder. No program in sight, no conditions beyond those of each lemma.
-/
import Derived.WalkKit
import Derived.Laws.BitsAllLaws
namespace Go.Proofs.YtdecplcmcoglcaaDoor
open Go Go.RowKit
set_option linter.unusedVariables false
set_option linter.unusedSimpArgs false

theorem ofInt_nat (b : Nat) (x : Int) : (BitVec.ofInt b x).toNat = (x % (2 ^ b : Nat)).toNat := BitVec.toNat_ofInt _

theorem wrap64_nat (r : Nat) (h : r < 9223372036854775808) : IntKind.i64.wrap (r : Int) = r := by
  rw [IntKind.wrap_i64]; omega
theorem wrap64_of (r : Nat) (v : Int) (h : (r : Int) % 18446744073709551616 = v % 18446744073709551616) (h1 : -9223372036854775808 ≤ v) (h2 : v < 9223372036854775808) : IntKind.i64.wrap (r : Int) = v := by
  rw [IntKind.wrap_i64]; omega

/-- x & (2^m - 1) on int64. -/
theorem and_mask_i64 (x : Int) (m : Nat) (hm : m ≤ 62) : bits .and .i64 x ((2 : Int) ^ m - 1) = x % 2 ^ m := by
  show IntKind.i64.wrap ((BitVec.ofInt 64 x &&& BitVec.ofInt 64 ((2 : Int) ^ m - 1)).toNat : Int) = _
  have hp : (2 : Nat) ^ m ≤ 2 ^ 62 := Nat.pow_le_pow_right (by decide) hm
  have hq : 0 < (2 : Nat) ^ m := Nat.two_pow_pos m
  have e : ((2 : Int) ^ m) = ((2 ^ m : Nat) : Int) := by simp
  have hd : ((2 ^ m : Nat) : Int) ∣ 18446744073709551616 := by
    have : (2 : Nat) ^ m ∣ 18446744073709551616 := Nat.pow_dvd_pow (n := 64) 2 (by omega)
    exact Int.natCast_dvd_natCast.2 this
  rw [BitVec.toNat_and, ofInt_nat, ofInt_nat, e]
  generalize hM : (2 : Nat) ^ m = M at *
  have e1 : (((M : Int) - 1) % ((2 ^ 64 : Nat) : Int)).toNat = M - 1 := by omega
  rw [e1, ← hM, Nat.and_two_pow_sub_one_eq_mod, hM]
  have hlt : (x % ((2 ^ 64 : Nat) : Int)).toNat % M < M := Nat.mod_lt _ hq
  rw [wrap64_nat _ (by omega)]
  have hc : (((x % ((2 ^ 64 : Nat) : Int)).toNat % M : Nat) : Int) = (x % 18446744073709551616) % (M : Int) := by
    rw [Int.natCast_emod, Int.toNat_of_nonneg (by omega)]; rfl
  rw [hc, Int.emod_emod_of_dvd _ hd]

theorem and_one_i64 (x : Int) : bits .and .i64 x 1 = x % 2 := by
  have := and_mask_i64 x 1 (by decide)
  simpa using this

theorem and_mask_u32 (x : Int) (m : Nat) (hm : m ≤ 32) (h0 : 0 ≤ x) (h1 : x < 4294967296) : bits .and .u32 x ((2 : Int) ^ m - 1) = x % 2 ^ m := by
  have hp : (2 : Nat) ^ m ≤ 2 ^ 32 := Nat.pow_le_pow_right (by decide) hm
  have hq : 0 < (2 : Nat) ^ m := Nat.two_pow_pos m
  have e : ((2 : Int) ^ m) = ((2 ^ m : Nat) : Int) := by simp
  rw [e]
  rw [u32_and _ _ h0 h1 (by omega) (by omega)]
  have e1 : (((2 ^ m : Nat) : Int) - 1).toNat = 2 ^ m - 1 := by omega
  rw [e1, Nat.and_two_pow_sub_one_eq_mod, Int.natCast_emod, Int.toNat_of_nonneg h0]

theorem pow_cast (m : Nat) : ((2 : Int) ^ m) = ((2 ^ m : Nat) : Int) := by simp
theorem pow_le_pow (i j : Nat) (h : i ≤ j) : (2 : Int) ^ i ≤ 2 ^ j := by
  rw [pow_cast, pow_cast]; exact Int.ofNat_le.2 (Nat.pow_le_pow_right (by decide) h)
theorem toNat_mod (a : Int) (M : Nat) (h0 : 0 ≤ a) (h : a % (M : Int) = 0) : a.toNat % M = 0 := by
  obtain ⟨A, rfl⟩ := Int.eq_ofNat_of_zero_le h0
  rw [Int.toNat_natCast]; exact_mod_cast h

theorem or_low_nat (a b m : Nat) (hd : a % 2 ^ m = 0) (hb : b < 2 ^ m) : a ||| b = a + b := by
  obtain ⟨q, rfl⟩ := Nat.dvd_of_mod_eq_zero hd
  exact (Nat.two_pow_add_eq_or_of_lt hb q).symm

theorem or_bit_nat (o p : Nat) (h : o / 2 ^ p % 2 = 0) : o ||| 2 ^ p = o + 2 ^ p := by
  have hp : 0 < 2 ^ p := Nat.two_pow_pos p
  have e := Nat.div_add_mod o (2 ^ p)
  have hr : o % 2 ^ p < 2 ^ p := Nat.mod_lt _ hp
  obtain ⟨q, hq⟩ : ∃ q, o / 2 ^ p = 2 * q := ⟨o / 2 ^ p / 2, by omega⟩
  have e2 : o = 2 ^ (p + 1) * q + o % 2 ^ p := by
    rw [Nat.pow_succ, Nat.mul_assoc, ← hq]; omega
  generalize o % 2 ^ p = r at *
  have hr1 : r < 2 ^ (p + 1) := by rw [Nat.pow_succ]; omega
  have hr2 : 2 ^ p + r < 2 ^ (p + 1) := by rw [Nat.pow_succ]; omega
  have a1 : 2 ^ p ||| r = 2 ^ p + r := by
    have := Nat.two_pow_add_eq_or_of_lt hr 1
    simpa using this.symm
  rw [e2, Nat.two_pow_add_eq_or_of_lt hr1, Nat.or_assoc, Nat.or_comm r, a1, ← Nat.two_pow_add_eq_or_of_lt hr2, ← Nat.two_pow_add_eq_or_of_lt hr1]
  omega

theorem or_low_u32 (a b : Int) (m : Nat) (ha : 0 ≤ a) (ha' : a < 4294967296) (hd : a % 2 ^ m = 0) (hb : 0 ≤ b) (hb' : b < 2 ^ m) (hm : m ≤ 32) : bits .or .u32 a b = a + b := by
  have hp : (2 : Nat) ^ m ≤ 2 ^ 32 := Nat.pow_le_pow_right (by decide) hm
  have e : ((2 : Int) ^ m) = ((2 ^ m : Nat) : Int) := by simp
  rw [e] at hd hb'
  rw [u32_or _ _ ha ha' hb (by omega), or_low_nat _ _ m (toNat_mod _ _ ha hd) (by omega)]
  omega

theorem or_bit_u32 (o b : Int) (p : Nat) (hp : p < 32) (ho : 0 ≤ o) (ho' : o < 4294967296) (h : o / 2 ^ p % 2 = 0) (hb : b = 0 ∨ b = 1) : bits .or .u32 o (b * 2 ^ p) = o + b * 2 ^ p := by
  have hq : (2 : Nat) ^ p < 2 ^ 32 := Nat.pow_lt_pow_right (by decide) hp
  have e : ((2 : Int) ^ p) = ((2 ^ p : Nat) : Int) := by simp
  rw [e] at h ⊢
  rcases hb with rfl | rfl
  · rw [Int.zero_mul, u32_or _ _ ho ho' (Int.le_refl 0) (by decide)]; simp; omega
  · have hq' : ((2 ^ p : Nat) : Int) < 4294967296 := Int.ofNat_lt.2 hq
    rw [Int.one_mul, u32_or _ _ ho ho' (Int.natCast_nonneg _) hq', Int.toNat_natCast]
    obtain ⟨O, rfl⟩ := Int.eq_ofNat_of_zero_le ho
    rw [Int.toNat_natCast, or_bit_nat _ _ (by omega)]
    rfl

theorem or_nat_i64 (a b : Nat) (ha : a < 9223372036854775808) (hb : b < 9223372036854775808) : bits .or .i64 (a : Int) (b : Int) = ((a ||| b : Nat) : Int) := by
  have hx : a ||| b < 2 ^ 63 := Nat.or_lt_two_pow (by omega) (by omega)
  show IntKind.i64.wrap ((BitVec.ofInt 64 (a : Int) ||| BitVec.ofInt 64 (b : Int)).toNat : Int) = _
  rw [BitVec.toNat_or, ofInt_nat, ofInt_nat]
  have e1 : ((a : Int) % ((2 ^ 64 : Nat) : Int)).toNat = a := by omega
  have e2 : ((b : Int) % ((2 ^ 64 : Nat) : Int)).toNat = b := by omega
  rw [e1, e2, wrap64_nat _ (by omega)]

theorem or_bit_i64 (o b : Int) (p : Nat) (hp : p < 62) (ho : 0 ≤ o) (ho' : o < 9223372036854775808) (h : o / 2 ^ p % 2 = 0) (hb : b = 0 ∨ b = 1) : bits .or .i64 o (b * 2 ^ p) = o + b * 2 ^ p := by
  have hq : (2 : Nat) ^ p < 2 ^ 62 := Nat.pow_lt_pow_right (by decide) hp
  have e : ((2 : Int) ^ p) = ((2 ^ p : Nat) : Int) := by simp
  rw [e] at h ⊢
  obtain ⟨O, rfl⟩ := Int.eq_ofNat_of_zero_le ho
  rcases hb with rfl | rfl
  · rw [Int.zero_mul]
    have := or_nat_i64 O 0 (by omega) (by omega)
    simpa using this
  · rw [Int.one_mul, or_nat_i64 _ _ (by omega) (by omega), or_bit_nat _ _ (by omega)]
    rfl

theorem or_low_i64 (a b : Int) (m : Nat) (ha : -9223372036854775808 ≤ a) (hs : a + b < 9223372036854775808) (hd : a % 2 ^ m = 0) (hb : 0 ≤ b) (hb' : b < 2 ^ m) (hm : m ≤ 62) : bits .or .i64 a b = a + b := by
  have hp : (2 : Nat) ^ m ≤ 2 ^ 62 := Nat.pow_le_pow_right (by decide) hm
  have e : ((2 : Int) ^ m) = ((2 ^ m : Nat) : Int) := by simp
  have hdv : ((2 ^ m : Nat) : Int) ∣ 18446744073709551616 := by
    have : (2 : Nat) ^ m ∣ 18446744073709551616 := Nat.pow_dvd_pow (n := 64) 2 (by omega)
    exact Int.natCast_dvd_natCast.2 this
  rw [e] at hd hb'
  show IntKind.i64.wrap ((BitVec.ofInt 64 a ||| BitVec.ofInt 64 b).toNat : Int) = _
  rw [BitVec.toNat_or, ofInt_nat, ofInt_nat]
  have h1 : (a % ((2 ^ 64 : Nat) : Int)).toNat % 2 ^ m = 0 := by
    have e64 : ((2 ^ 64 : Nat) : Int) = 18446744073709551616 := rfl
    rw [e64]
    exact toNat_mod _ _ (by omega) (by rw [Int.emod_emod_of_dvd _ hdv]; exact hd)
  have h2 : (b % ((2 ^ 64 : Nat) : Int)).toNat < 2 ^ m := by omega
  rw [or_low_nat _ _ m h1 h2]
  apply wrap64_of
  · have e64 : ((2 ^ 64 : Nat) : Int) = 18446744073709551616 := rfl
    rw [e64]
    omega
  · omega
  · omega

theorem two_pow_pos (i : Nat) : (0 : Int) < 2 ^ i := Int.pow_pos (by decide)
theorem two_pow_add (i j : Nat) : (2 : Int) ^ (i + j) = 2 ^ i * 2 ^ j := Int.pow_add 2 i j

/-- n's lower b bits, read with a sign. -/
def sext (b : Nat) (n : Int) : Int := (n + 2 ^ (b - 1)) % 2 ^ b - 2 ^ (b - 1)

theorem sext_shift (b : Nat) (n : Int) (h1 : 1 ≤ b) (h2 : b ≤ 64) : wrap64 (n * 2 ^ (64 - b)) / 2 ^ (64 - b) = sext b n := by
  have e1 : (2 : Int) ^ b = 2 * 2 ^ (b - 1) := by
    have : b = 1 + (b - 1) := by omega
    rw [this, two_pow_add]; simp
  have e2 : (2 : Int) ^ (64 - b) * 2 ^ (b - 1) = 9223372036854775808 := by
    rw [← two_pow_add, show 64 - b + (b - 1) = 63 by omega]; decide
  have hK := two_pow_pos (64 - b)
  unfold wrap64 sext
  rw [e1]
  generalize (2 : Int) ^ (64 - b) = K at *
  generalize (2 : Int) ^ (b - 1) = B at *
  have e3 : n * K + 9223372036854775808 = K * (n + B) := by rw [Int.mul_add, e2, Int.mul_comm]
  have e4 : (18446744073709551616 : Int) = K * (2 * B) := by
    have : K * (2 * B) = 2 * (K * B) := by rw [Int.mul_left_comm]
    omega
  rw [e3, e4, Int.mul_emod_mul_of_pos _ _ hK, ← e2, ← Int.mul_sub, Int.mul_ediv_cancel_left _ (by omega)]

theorem sext_parts (b : Nat) (n : Int) (h1 : 1 ≤ b) : -2 ^ (b - 1) ≤ sext b n ∧ sext b n < 2 ^ (b - 1) ∧ n = sext b n + 2 ^ b * ((n + 2 ^ (b - 1)) / 2 ^ b) := by
  have e1 : (2 : Int) ^ b = 2 * 2 ^ (b - 1) := by
    have : b = 1 + (b - 1) := by omega
    rw [this, two_pow_add]; simp
  have hB := two_pow_pos (b - 1)
  unfold sext
  have a := Int.emod_nonneg (n + 2 ^ (b - 1)) (show (2 : Int) ^ b ≠ 0 by omega)
  have c := Int.emod_lt_of_pos (n + 2 ^ (b - 1)) (show (0 : Int) < 2 ^ b by omega)
  have d := Int.emod_add_mul_ediv (n + 2 ^ (b - 1)) (2 ^ b)
  exact ⟨by omega, by omega, by omega⟩

theorem bit_low (b i : Nat) (n r q : Int) (h : i < b) (hn : n = r + 2 ^ b * q) : n / 2 ^ i % 2 = r / 2 ^ i % 2 := by
  have e : (2 : Int) ^ b * q = 2 ^ i * (2 * (2 ^ (b - 1 - i) * q)) := by
    have : b = i + (1 + (b - 1 - i)) := by omega
    rw [show (2 : Int) ^ b = 2 ^ (i + (1 + (b - 1 - i))) by rw [← this], two_pow_add, two_pow_add, Int.mul_assoc, Int.mul_assoc]; rfl
  rw [hn, e, Int.add_mul_ediv_left _ _ (by have := two_pow_pos i; omega)]
  omega

theorem div_small (r B : Int) (h1 : -B ≤ r) (h2 : r < B) (hB : 0 < B) : r / B = if r < 0 then -1 else 0 := by
  split
  · have e : r = -1 * B + (r + B) := by omega
    rw [e, Int.add_comm, Int.add_mul_ediv_right _ _ (by omega), Int.ediv_eq_zero_of_lt (by omega) (by omega)]; rfl
  · exact Int.ediv_eq_zero_of_lt (by omega) h2

theorem sext_bit (b i : Nat) (n : Int) (h1 : 1 ≤ b) : sext b n / 2 ^ i % 2 = n / 2 ^ min i (b - 1) % 2 := by
  obtain ⟨a, c, d⟩ := sext_parts b n h1
  by_cases hi : i < b
  · rw [Nat.min_eq_left (by omega)]
    exact (bit_low b i n _ _ hi d).symm
  · rw [Nat.min_eq_right (by omega), bit_low b (b - 1) n _ _ (by omega) d]
    have hle : (2 : Int) ^ (b - 1) ≤ 2 ^ i := by
      have := Nat.pow_le_pow_right (n := 2) (by decide) (show b - 1 ≤ i by omega)
      exact_mod_cast this
    have hp := two_pow_pos (b - 1)
    rw [div_small _ _ a c hp, div_small _ (2 ^ i) (by omega) (by omega) (by omega)]

theorem snoc_ind {α : Type} {P : List α → Prop} (h0 : P []) (hs : ∀ l a, P l → P (l ++ [a])) (l : List α) : P l := by
  rw [← List.reverse_reverse l]
  induction l.reverse with
  | nil => exact h0
  | cons a l ih => rw [List.reverse_cons]; exact hs _ _ ih

/-- bits of n in the order of a pattern, the first one highest -/
def pat (n : Int) (l : List Int) : Int := l.foldl (fun a k => a * 2 + n / 2 ^ k.toNat % 2) 0
theorem pat_snoc (n : Int) (l : List Int) (k : Int) : pat n (l ++ [k]) = pat n l * 2 + n / 2 ^ k.toNat % 2 := by simp [pat]
theorem pat_bound (n : Int) (l : List Int) : 0 ≤ pat n l ∧ pat n l < 2 ^ l.length := by
  induction l using snoc_ind with
  | h0 => simp [pat]
  | hs l k ih =>
    rw [pat_snoc, List.length_append, two_pow_add]
    simp only [List.length_singleton]
    omega
theorem pat_bit (n : Int) (l : List Int) : ∀ i (h : i < l.length), pat n l / 2 ^ (l.length - 1 - i) % 2 = n / 2 ^ (l[i]).toNat % 2 := by
  induction l using snoc_ind with
  | h0 => intro i h; simp at h
  | hs l k ih =>
    intro i h
    rw [pat_snoc]
    simp only [List.length_append, List.length_singleton] at h ⊢
    by_cases hi : i < l.length
    · rw [List.getElem_append_left hi, ← ih i hi]
      have e : l.length + 1 - 1 - i = 1 + (l.length - 1 - i) := by omega
      rw [e, two_pow_add, ← Int.ediv_ediv_of_nonneg (by decide)]
      congr 2
      omega
    · have : i = l.length := by omega
      subst this
      simp

theorem mod_two_pow_succ (x : Int) (b : Nat) : x % 2 ^ (b + 1) = x % 2 ^ b + (x / 2 ^ b % 2) * 2 ^ b := by
  have hp := two_pow_pos b
  rw [two_pow_add]
  have e := Int.emod_add_mul_ediv x (2 ^ b)
  have l0 := Int.emod_nonneg x (show (2 : Int) ^ b ≠ 0 by omega)
  have l1 := Int.emod_lt_of_pos x hp
  have e2 := Int.emod_add_mul_ediv (x / 2 ^ b) 2
  generalize (2 : Int) ^ b = B at *
  generalize x / B = q at *
  generalize x % B = r at *
  have hx : x = (r + q % 2 * B) + (B * 2 ^ 1) * (q / 2) := by
    have : B * q = B * (q % 2) + B * (2 * (q / 2)) := by rw [← Int.mul_add, e2]
    rw [Int.mul_comm (q % 2) B, Int.mul_assoc]
    have h2 : (2 : Int) ^ 1 = 2 := rfl
    rw [h2]; omega
  rw [hx, Int.add_mul_emod_self_left]
  have hq : q % 2 = 0 ∨ q % 2 = 1 := by omega
  have h2 : (2 : Int) ^ 1 = 2 := rfl
  rw [h2]
  rcases hq with h | h <;> rw [h] <;> apply Int.emod_eq_of_lt <;> omega

/-- o and the field: b bits of n from f on, laid from t on -/
def fld (n : Int) (f t b : Nat) : Int := (n / 2 ^ f % 2 ^ b) * 2 ^ t
theorem fld_zero (n : Int) (f t : Nat) : fld n f t 0 = 0 := by simp [fld]
theorem fld_succ (n : Int) (f t b : Nat) : fld n f t (b + 1) = fld n f t b + (n / 2 ^ (f + b) % 2) * 2 ^ (t + b) := by
  unfold fld
  rw [mod_two_pow_succ, Int.add_mul, two_pow_add f b, two_pow_add t b, Int.ediv_ediv_of_nonneg (Int.le_of_lt (two_pow_pos f)), Int.mul_assoc, Int.mul_comm (2 ^ b)]
theorem fld_clear (n o : Int) (f t b i : Nat) (h : o / 2 ^ t % 2 ^ b = 0) (hi : i < b) : (o + fld n f t i) / 2 ^ (t + i) % 2 = 0 := by
  unfold fld
  have ht := two_pow_pos t
  have hp := two_pow_pos i
  rw [two_pow_add, ← Int.ediv_ediv_of_nonneg (Int.le_of_lt ht), Int.add_mul_ediv_right _ _ (by omega)]
  have l0 := Int.emod_nonneg (n / 2 ^ f) (show (2 : Int) ^ i ≠ 0 by omega)
  have l1 := Int.emod_lt_of_pos (n / 2 ^ f) hp
  obtain ⟨q, hq⟩ := Int.dvd_of_emod_eq_zero h
  have e : (2 : Int) ^ b = 2 ^ i * (2 * 2 ^ (b - 1 - i)) := by
    have : b = i + (1 + (b - 1 - i)) := by omega
    rw [show (2 : Int) ^ b = 2 ^ (i + (1 + (b - 1 - i))) by rw [← this], two_pow_add, two_pow_add]; rfl
  rw [hq, e, Int.add_comm, Int.mul_assoc, Int.add_mul_ediv_left _ _ (by omega), Int.ediv_eq_zero_of_lt l0 l1]
  rw [Int.mul_assoc]; omega
theorem fld_bound (n : Int) (f t b : Nat) : 0 ≤ fld n f t b ∧ fld n f t b < 2 ^ (t + b) := by
  unfold fld
  have ht := two_pow_pos t
  have hp := two_pow_pos b
  have l0 := Int.emod_nonneg (n / 2 ^ f) (show (2 : Int) ^ b ≠ 0 by omega)
  have l1 := Int.emod_lt_of_pos (n / 2 ^ f) hp
  rw [Nat.add_comm, two_pow_add]
  exact ⟨Int.mul_nonneg l0 (by omega), Int.mul_lt_mul_of_pos_right l1 ht⟩

theorem and_one_u32 (x : Int) (h0 : 0 ≤ x) (h1 : x < 4294967296) : bits .and .u32 x 1 = x % 2 := by
  have := and_mask_u32 x 1 (by decide) h0 h1
  simpa using this
theorem div_pow_u32 (n : Int) (k : Nat) (h0 : 0 ≤ n) (h1 : n < 4294967296) : 0 ≤ n / 2 ^ k ∧ n / 2 ^ k < 4294967296 := by
  have hp := two_pow_pos k
  exact ⟨Int.ediv_nonneg h0 (by omega), Int.lt_of_le_of_lt (Int.ediv_le_self _ h0) h1⟩

theorem place_eq (n k : Int) (h1 : 1 ≤ k) (h2 : k ≤ 4611686018427387904) : (wrap64 (n.tmod k + k)).tmod k = n % k := by
  have a := Int.tmod_lt_of_pos n (show 0 < k by omega)
  have b : -k < n.tmod k := Int.lt_tmod_of_pos n (by omega)
  rw [IntWalk.wrap64_in _ ⟨by omega, by omega⟩, Int.tmod_eq_emod_of_nonneg (by omega), Int.add_emod_right]
  have c := Int.mul_tdiv_add_tmod n k
  rw [show n.tmod k = n + k * (-(n.tdiv k)) by rw [Int.mul_neg]; omega, Int.add_mul_emod_self_left]

theorem ret_int {k : IntKind} {a b : Int} (h : a = b) : Ending.returned (.int k a) = .returned (.int k b) := by rw [h]
theorem ret_bool {a b : Bool} (h : a = b) : Ending.returned (.bool a) = .returned (.bool b) := by rw [h]
end Go.Proofs.YtdecplcmcoglcaaDoor
