/-
  Plain lemmas on fields of bits: what the loops over a format's fields compute is a sum of fields, if the fields lie apart. No program in sight.
-/
import Derived.Test.YtcofgoddhgfjaaaBits
namespace Go.Proofs.Ytcofgoddhgfjaaa
open Go Go.RowKit
set_option linter.unusedVariables false
set_option linter.unusedSimpArgs false

/-- A field: b bits of the immediate from f on stand in the instruction from t on. -/
structure Fd where
  f : Nat
  t : Nat
  b : Nat

theorem bits_u32 (op : BinOp) (x y : Int) : 0 ≤ bits op .u32 x y ∧ bits op .u32 x y < 4294967296 := by
  unfold bits; simp only; rw [IntKind.wrap_u32']; omega

/-! ### encoding -/
def encF (n : Int) (f t : Nat) (o : Int) : Nat → Int
  | 0 => o
  | j + 1 => bits .or .u32 (encF n f t o j) (bits .and .i64 (n / 2 ^ (f + j)) 1 % 4294967296 * 2 ^ (t + j) % 4294967296)
def encL (n : Int) (fs : List Fd) (o : Int) : Int := fs.foldl (fun o F => encF n F.f F.t o F.b) o
theorem encL_snoc (n : Int) (fs : List Fd) (F : Fd) (o : Int) : encL n (fs ++ [F]) o = encF n F.f F.t (encL n fs o) F.b := by simp [encL]

theorem bit_01 (x : Int) : x % 2 = 0 ∨ x % 2 = 1 := by omega
theorem bit_shift (c : Int) (p : Nat) (hc : c = 0 ∨ c = 1) (hp : p < 32) : c % 4294967296 * 2 ^ p % 4294967296 = c * 2 ^ p := by
  have h1 : (2 : Int) ^ p ≤ 2147483648 := pow_le_pow p 31 (by omega)
  have h0 := two_pow_pos p
  rcases hc with rfl | rfl
  · simp
  · rw [show (1 : Int) % 4294967296 = 1 from rfl, Int.one_mul]; exact Int.emod_eq_of_lt (by omega) (by omega)

theorem encF_eq (n o : Int) (f t b : Nat) (h0 : 0 ≤ o) (h1 : o < 4294967296) (hc : o / 2 ^ t % 2 ^ b = 0) (ht : t + b ≤ 32) :
    ∀ j, j ≤ b → encF n f t o j = o + fld n f t j ∧ 0 ≤ encF n f t o j ∧ encF n f t o j < 4294967296 := by
  intro j
  induction j with
  | zero => intro _; simp [encF, fld_zero]; omega
  | succ j ih =>
    intro hj
    obtain ⟨e, l0, l1⟩ := ih (by omega)
    refine ⟨?_, bits_u32 _ _ _⟩
    rw [fld_succ, ← Int.add_assoc]
    unfold encF
    rw [and_one_i64, bit_shift _ _ (bit_01 _) (by omega), e, or_bit_u32 _ _ _ (by omega) (by omega) (by omega) (fld_clear n o f t b j hc (by omega)) (bit_01 _)]

theorem encL_cons (n o : Int) (f t b : Nat) (fs : List Fd) (h0 : 0 ≤ o) (h1 : o < 4294967296) (hc : o / 2 ^ t % 2 ^ b = 0) (ht : t + b ≤ 32) :
    encL n (⟨f, t, b⟩ :: fs) o = encL n fs (o + fld n f t b) ∧ 0 ≤ o + fld n f t b ∧ o + fld n f t b < 4294967296 := by
  obtain ⟨e, l0, l1⟩ := encF_eq n o f t b h0 h1 hc ht b (Nat.le_refl _)
  rw [e] at l0 l1
  exact ⟨by rw [← e]; rfl, l0, l1⟩

/-! ### decoding -/
def decF (v : Int) (f t : Nat) (o : Int) : Nat → Int
  | 0 => o
  | j + 1 => bits .or .i64 (decF v f t o j) (wrap64 (wrap64 (bits .and .u32 (v / 2 ^ (t + j)) 1) * 2 ^ (f + j)))
def decL (v : Int) (fs : List Fd) (o : Int) : Int := fs.foldl (fun o F => decF v F.f F.t o F.b) o
theorem decL_snoc (v : Int) (fs : List Fd) (F : Fd) (o : Int) : decL v (fs ++ [F]) o = decF v F.f F.t (decL v fs o) F.b := by simp [decL]

theorem bit_shift64 (c : Int) (p : Nat) (hc : c = 0 ∨ c = 1) (hp : p ≤ 61) : wrap64 (c * 2 ^ p) = c * 2 ^ p := by
  have h1 : (2 : Int) ^ p ≤ 2305843009213693952 := pow_le_pow p 61 (by omega)
  have h0 := two_pow_pos p
  rcases hc with rfl | rfl
  · simp [wrap64]
  · rw [Int.one_mul]; exact IntWalk.wrap64_in _ ⟨by omega, by omega⟩

theorem decF_eq (v o : Int) (f t b : Nat) (hv0 : 0 ≤ v) (hv1 : v < 4294967296) (h0 : 0 ≤ o) (h1 : o < 2 ^ 32) (hc : o / 2 ^ f % 2 ^ b = 0) (hf : f + b ≤ 32) :
    ∀ j, j ≤ b → decF v f t o j = o + fld v t f j := by
  intro j
  induction j with
  | zero => intro _; simp [decF, fld_zero]
  | succ j ih =>
    intro hj
    have e := ih (by omega)
    obtain ⟨d0, d1⟩ := div_pow_u32 v (t + j) hv0 hv1
    obtain ⟨g0, g1⟩ := fld_bound v t f j
    have hp : (2 : Int) ^ (f + j) ≤ 2 ^ 32 := pow_le_pow _ _ (by omega)
    rw [fld_succ, ← Int.add_assoc]
    unfold decF
    rw [and_one_u32 _ d0 d1, IntWalk.wrap64_in (v / 2 ^ (t + j) % 2) ⟨by omega, by omega⟩, bit_shift64 _ _ (bit_01 _) (by omega), e, or_bit_i64 _ _ _ (by omega) (by omega) (by omega) (fld_clear v o t f b j hc (by omega)) (bit_01 _)]

theorem decL_cons (v o : Int) (f t b : Nat) (fs : List Fd) (hv0 : 0 ≤ v) (hv1 : v < 4294967296) (h0 : 0 ≤ o) (h1 : o < 2 ^ 32) (hc : o / 2 ^ f % 2 ^ b = 0) (hf : f + b ≤ 32) :
    decL v (⟨f, t, b⟩ :: fs) o = decL v fs (o + fld v t f b) := by
  have e := decF_eq v o f t b hv0 hv1 h0 h1 hc hf b (Nat.le_refl _)
  rw [← e]; rfl

/-- The immediate with its sign. -/
def decV (bits : Nat) (fs : List Fd) (v : Int) : Int := if (decL v fs 0 / 2 ^ (bits - 1) == 1) = true then wrap64 (decL v fs 0 - wrap64 (2 ^ bits)) else decL v fs 0

/-! ### the mask -/
def maskL (fs : List Fd) (o : Int) : Int := fs.foldl (fun o F => bits .or .u32 o ((2 ^ F.b - 1) % 4294967296 * 2 ^ F.t % 4294967296)) o
theorem maskL_snoc (fs : List Fd) (F : Fd) (o : Int) : maskL (fs ++ [F]) o = bits .or .u32 (maskL fs o) ((2 ^ F.b - 1) % 4294967296 * 2 ^ F.t % 4294967296) := by simp [maskL]

/-! ### a number that fits -/
def fitv (bits zeros : Nat) (n : Int) : Int := (n % 2 ^ bits - 2 ^ (bits - 1)) / 2 ^ zeros * 2 ^ zeros
theorem two_pow_succ (b : Nat) (h : 1 ≤ b) : (2 : Int) ^ b = 2 * 2 ^ (b - 1) := by
  have : b = 1 + (b - 1) := by omega
  rw [this, two_pow_add]; simp
theorem fit_eq (bits zeros : Nat) (n K : Int) (h1 : 1 ≤ bits) (h2 : bits ≤ 40) (hz : zeros ≤ 40) (hK : (2 : Int) ^ bits = K) (h3 : K ≤ 1099511627776) :
    wrap64 (wrap64 ((wrap64 (n.tmod K + K)).tmod K - K / 2) / 2 ^ zeros * 2 ^ zeros) = fitv bits zeros n := by
  unfold fitv
  have e := two_pow_succ bits h1
  have hp := two_pow_pos (bits - 1)
  have hz0 := two_pow_pos zeros
  have hz1 : (2 : Int) ^ zeros ≤ 1099511627776 := pow_le_pow zeros 40 hz
  rw [place_eq n K (by omega) (by omega), hK]
  have a := Int.emod_nonneg n (show K ≠ 0 by omega)
  have b := Int.emod_lt_of_pos n (show 0 < K by omega)
  rw [IntWalk.wrap64_in (n % K - K / 2) ⟨by omega, by omega⟩, show K / 2 = 2 ^ (bits - 1) by omega]
  generalize hx : n % K - 2 ^ (bits - 1) = x
  have c := Int.emod_add_mul_ediv x (2 ^ zeros)
  have d0 := Int.emod_nonneg x (show (2 : Int) ^ zeros ≠ 0 by omega)
  have d1 := Int.emod_lt_of_pos x hz0
  have c' : x / 2 ^ zeros * 2 ^ zeros = x - x % 2 ^ zeros := by rw [Int.mul_comm]; omega
  rw [c']
  exact IntWalk.wrap64_in _ ⟨by omega, by omega⟩

/-- Whether a number fits a format. -/
def fitsB (bits zeros : Nat) (n : Int) : Bool := decide (-2 ^ (bits - 1) ≤ n ∧ n < 2 ^ (bits - 1) ∧ n % 2 ^ zeros = 0)
end Go.Proofs.Ytcofgoddhgfjaaa
