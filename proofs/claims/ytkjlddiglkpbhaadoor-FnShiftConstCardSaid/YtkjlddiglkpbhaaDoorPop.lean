/-
  Plain lemmas on the number of one bits: the parallel sum of a 64-bit number's bits, by bytes. No program in sight.
-/
import Derived.Test.YtkjlddiglkpbhaaDoorBits
namespace Go.Proofs.YtkjlddiglkpbhaaDoor
open Go Go.RowKit
set_option linter.unusedVariables false
set_option linter.unusedSimpArgs false

/-- The sum of the lowest n bits. -/
def popF : Nat → Nat → Nat
  | 0, _ => 0
  | n + 1, x => x % 2 + popF n (x / 2)
theorem popF_zero (n : Nat) : popF n 0 = 0 := by induction n with
  | zero => rfl
  | succ n ih => simp [popF, ih]
theorem popF_add (a b x : Nat) : popF (a + b) x = popF a x + popF b (x / 2 ^ a) := by
  induction a generalizing x with
  | zero => simp [popF]
  | succ a ih =>
    rw [show a + 1 + b = (a + b) + 1 by omega]
    simp only [popF]
    rw [ih (x / 2), Nat.div_div_eq_div_mul, show 2 * 2 ^ a = 2 ^ (a + 1) by rw [Nat.pow_succ]; omega]
    omega
theorem popF_le (n x : Nat) : popF n x ≤ n := by
  induction n generalizing x with
  | zero => simp [popF]
  | succ n ih => simp only [popF]; have := ih (x / 2); omega
theorem popF_full (n x : Nat) (hx : x < 2 ^ n) (h : popF n x = n) : x = 2 ^ n - 1 := by
  induction n generalizing x with
  | zero => simp at hx ⊢; omega
  | succ n ih =>
    simp only [popF] at h
    have l := popF_le n (x / 2)
    rw [Nat.pow_succ] at hx ⊢
    have := ih (x / 2) (by omega) (by omega)
    have hp := Nat.two_pow_pos n
    omega
theorem pop_all (k x : Nat) (hk : k ≤ 64) (hx : x < 2 ^ k) (h : popF 64 x = k) : x = 2 ^ k - 1 := by
  have e := popF_add k (64 - k) x
  rw [show k + (64 - k) = 64 by omega, Nat.div_eq_of_lt hx, popF_zero] at e
  exact popF_full k x hx (by omega)

/-! ### byte by byte -/
def rep (v : Nat) : Nat → Nat
  | 0 => 0
  | n + 1 => v + 256 * rep v n
def mapB (f : Nat → Nat) : Nat → Nat → Nat
  | 0, _ => 0
  | n + 1, x => f (x % 256) + 256 * mapB f n (x / 256)

theorem and_byte (a A m M : Nat) (ha : a < 256) (hm : m < 256) : (a + 256 * A) &&& (m + 256 * M) = (a &&& m) + 256 * (A &&& M) := by
  have h1 : ((a + 256 * A) &&& (m + 256 * M)) % 2 ^ 8 = a &&& m := by
    rw [Nat.and_mod_two_pow, show (a + 256 * A) % 2 ^ 8 = a by omega, show (m + 256 * M) % 2 ^ 8 = m by omega]
  have h2 : ((a + 256 * A) &&& (m + 256 * M)) / 2 ^ 8 = A &&& M := by
    rw [Nat.and_div_two_pow, show (a + 256 * A) / 2 ^ 8 = A by omega, show (m + 256 * M) / 2 ^ 8 = M by omega]
  generalize (a + 256 * A) &&& (m + 256 * M) = L at *
  omega

def f1 (b : Nat) : Nat := (b / 2 &&& 85) + (b &&& 85)
def f2 (b : Nat) : Nat := (b / 4 &&& 51) + (b &&& 51)
def g2 (b : Nat) : Nat := f2 (f1 b)
def h3 (b : Nat) : Nat := g2 b / 16 + g2 b % 16
theorem f1_leak : ∀ b, b < 256 → ∀ c, c < 2 → (b / 2 + 128 * c) &&& 85 = b / 2 &&& 85 := by decide +kernel
theorem f2_leak : ∀ b, b < 256 → ∀ c, c < 4 → (b / 4 + 64 * c) &&& 51 = b / 4 &&& 51 := by decide +kernel
theorem f1_lt : ∀ b, b < 256 → f1 b < 256 := by decide +kernel
theorem g2_small : ∀ b, b < 256 → g2 b % 16 ≤ 4 ∧ g2 b / 16 ≤ 4 := by decide +kernel
theorem h3_pop : ∀ b, b < 256 → h3 b = popF 8 b := by decide +kernel

theorem step1 (n x : Nat) : (x / 2 &&& rep 85 n) + (x &&& rep 85 n) = mapB f1 n x := by
  induction n generalizing x with
  | zero => simp [rep, mapB]
  | succ n ih =>
    have hb : x % 256 < 256 := Nat.mod_lt _ (by decide)
    simp only [rep, mapB]
    rw [← ih (x / 256)]
    have e1 : x / 2 = (x % 256 / 2 + 128 * (x / 256 % 2)) + 256 * (x / 256 / 2) := by omega
    have e2 := and_byte (x % 256 / 2 + 128 * (x / 256 % 2)) (x / 256 / 2) 85 (rep 85 n) (by omega) (by decide)
    have e3 := and_byte (x % 256) (x / 256) 85 (rep 85 n) hb (by decide)
    rw [← e1] at e2
    rw [show x % 256 + 256 * (x / 256) = x by omega] at e3
    rw [e2, e3, f1_leak _ hb _ (by omega)]
    unfold f1; omega
theorem step2 (n y : Nat) : (y / 4 &&& rep 51 n) + (y &&& rep 51 n) = mapB f2 n y := by
  induction n generalizing y with
  | zero => simp [rep, mapB]
  | succ n ih =>
    have hb : y % 256 < 256 := Nat.mod_lt _ (by decide)
    simp only [rep, mapB]
    rw [← ih (y / 256)]
    have e1 : y / 4 = (y % 256 / 4 + 64 * (y / 256 % 4)) + 256 * (y / 256 / 4) := by omega
    have e2 := and_byte (y % 256 / 4 + 64 * (y / 256 % 4)) (y / 256 / 4) 51 (rep 51 n) (by omega) (by decide)
    have e3 := and_byte (y % 256) (y / 256) 51 (rep 51 n) hb (by decide)
    rw [← e1] at e2
    rw [show y % 256 + 256 * (y / 256) = y by omega] at e3
    rw [e2, e3, f2_leak _ hb _ (by omega)]
    unfold f2; omega
theorem step12 (n x : Nat) : mapB f2 n (mapB f1 n x) = mapB g2 n x := by
  induction n generalizing x with
  | zero => rfl
  | succ n ih =>
    have hb : x % 256 < 256 := Nat.mod_lt _ (by decide)
    have hf := f1_lt _ hb
    simp only [mapB]
    rw [show (f1 (x % 256) + 256 * mapB f1 n (x / 256)) % 256 = f1 (x % 256) by omega, show (f1 (x % 256) + 256 * mapB f1 n (x / 256)) / 256 = mapB f1 n (x / 256) by omega, ih]
    rfl
theorem g2_low (n x : Nat) : mapB g2 n x % 16 ≤ 4 := by
  cases n with
  | zero => simp [mapB]
  | succ n =>
    have hb : x % 256 < 256 := Nat.mod_lt _ (by decide)
    have := (g2_small _ hb).1
    simp only [mapB]; omega
theorem step3 (n x : Nat) : (mapB g2 n x / 16 + mapB g2 n x) &&& rep 15 n = mapB h3 n x := by
  induction n generalizing x with
  | zero => simp [rep, mapB]
  | succ n ih =>
    have hb : x % 256 < 256 := Nat.mod_lt _ (by decide)
    obtain ⟨s1, s2⟩ := g2_small _ hb
    have s3 := g2_low n (x / 256)
    have hh : h3 (x % 256) = g2 (x % 256) / 16 + g2 (x % 256) % 16 := rfl
    simp only [rep, mapB]
    rw [← ih (x / 256), hh]
    generalize mapB g2 n (x / 256) = Y at *
    generalize g2 (x % 256) = g at *
    have e1 : (g + 256 * Y) / 16 + (g + 256 * Y) = (g / 16 + g + 16 * (Y % 16)) + 256 * (Y / 16 + Y) := by omega
    rw [e1, and_byte _ _ 15 _ (by omega) (by decide)]
    have e2 : (g / 16 + g + 16 * (Y % 16)) &&& 15 = g / 16 + g % 16 := by
      rw [show (15 : Nat) = 2 ^ 4 - 1 from rfl, Nat.and_two_pow_sub_one_eq_mod]; omega
    rw [e2]
theorem mapB_le (f : Nat → Nat) (v : Nat) (hf : ∀ b, b < 256 → f b ≤ v) (n x : Nat) : mapB f n x ≤ rep v n := by
  induction n generalizing x with
  | zero => simp [mapB]
  | succ n ih =>
    have := hf (x % 256) (Nat.mod_lt _ (by decide))
    have := ih (x / 256)
    simp only [mapB, rep]; omega

theorem popF_mod (n x : Nat) : popF n x = popF n (x % 2 ^ n) := by
  induction n generalizing x with
  | zero => rfl
  | succ n ih =>
    simp only [popF]
    rw [ih (x / 2), Nat.pow_succ, Nat.mul_comm (2 ^ n) 2, Nat.mod_mul_right_div_self, Nat.mod_mul_right_mod]
theorem popF8_mod (x : Nat) : popF 8 x = popF 8 (x % 256) := popF_mod 8 x
theorem pop_bytes (x : Nat) : popF 64 x = h3 (x % 256) + (h3 (x / 256 % 256) + (h3 (x / 256 / 256 % 256) + (h3 (x / 256 / 256 / 256 % 256) + (h3 (x / 256 / 256 / 256 / 256 % 256) + (h3 (x / 256 / 256 / 256 / 256 / 256 % 256) + (h3 (x / 256 / 256 / 256 / 256 / 256 / 256 % 256) + h3 (x / 256 / 256 / 256 / 256 / 256 / 256 / 256 % 256))))))) := by
  have step : ∀ m y, popF (8 + m) y = h3 (y % 256) + popF m (y / 256) := fun m y => by
    rw [popF_add, popF8_mod, h3_pop _ (Nat.mod_lt _ (by decide))]
  rw [show (64 : Nat) = 8 + (8 + (8 + (8 + (8 + (8 + (8 + (8 + 0))))))) from rfl, step, step, step, step, step, step, step, step]
  simp only [popF, Nat.add_zero]
theorem h3_le : ∀ b, b < 256 → h3 b ≤ 8 := by decide +kernel
theorem byte_div (p A : Nat) (hp : p < 256) : (p + 256 * A) / 256 = A := by omega
theorem byte_div2 (a b A : Nat) (ha : a < 256) (hb : b < 256) : (a + 256 * b + 65536 * A) / 65536 = A := by omega
theorem byte_div4 (a b c d A : Nat) (ha : a < 256) (hb : b < 256) (hc : c < 256) (hd : d < 256) : (a + 256 * b + 65536 * c + 16777216 * d + 4294967296 * A) / 4294967296 = A := by omega
theorem bytes_sum (p0 p1 p2 p3 p4 p5 p6 p7 y : Nat) (hy : y = p0 + 256 * (p1 + 256 * (p2 + 256 * (p3 + 256 * (p4 + 256 * (p5 + 256 * (p6 + 256 * p7)))))))
    (l0 : p0 ≤ 8) (l1 : p1 ≤ 8) (l2 : p2 ≤ 8) (l3 : p3 ≤ 8) (l4 : p4 ≤ 8) (l5 : p5 ≤ 8) (l6 : p6 ≤ 8) (l7 : p7 ≤ 8) :
    (y + y / 256 + (y + y / 256) / 65536 + (y + y / 256 + (y + y / 256) / 65536) / 4294967296) % 128 = p0 + (p1 + (p2 + (p3 + (p4 + (p5 + (p6 + p7)))))) ∧ y + y / 256 + (y + y / 256) / 65536 + (y + y / 256 + (y + y / 256) / 65536) / 4294967296 < 9223372036854775808 := by
  have d1 : y / 256 = p1 + 256 * (p2 + 256 * (p3 + 256 * (p4 + 256 * (p5 + 256 * (p6 + 256 * p7))))) := by
    rw [hy, byte_div _ _ (by omega)]
  obtain ⟨y4, h4⟩ : ∃ y4, y4 = y + y / 256 := ⟨_, rfl⟩
  rw [← h4]
  have e4 : y4 = (p0 + p1) + 256 * (p1 + p2) + 65536 * ((p2 + p3) + 256 * ((p3 + p4) + 256 * ((p4 + p5) + 256 * ((p5 + p6) + 256 * ((p6 + p7) + 256 * p7))))) := by
    rw [h4, d1, hy]; clear h4 d1 hy; omega
  have d2 : y4 / 65536 = (p2 + p3) + 256 * ((p3 + p4) + 256 * ((p4 + p5) + 256 * ((p5 + p6) + 256 * ((p6 + p7) + 256 * p7)))) := by
    rw [e4, byte_div2 _ _ _ (by omega) (by omega)]
  obtain ⟨y5, h5⟩ : ∃ y5, y5 = y4 + y4 / 65536 := ⟨_, rfl⟩
  rw [← h5]
  have e5 : y5 = (p0 + p1 + p2 + p3) + 256 * (p1 + p2 + p3 + p4) + 65536 * (p2 + p3 + p4 + p5) + 16777216 * (p3 + p4 + p5 + p6) + 4294967296 * ((p4 + p5 + p6 + p7) + 256 * ((p5 + p6 + p7) + 256 * ((p6 + p7) + 256 * p7))) := by
    rw [h5, d2, e4]; clear h5 d2 e4 h4 d1 hy; omega
  have d3 : y5 / 4294967296 = (p4 + p5 + p6 + p7) + 256 * ((p5 + p6 + p7) + 256 * ((p6 + p7) + 256 * p7)) := by
    rw [e5, byte_div4 _ _ _ _ _ (by omega) (by omega) (by omega) (by omega)]
  rw [d3, e5]
  clear d3 e5 h5 d2 e4 h4 d1 hy
  constructor
  · have e : p0 + p1 + p2 + p3 + 256 * (p1 + p2 + p3 + p4) + 65536 * (p2 + p3 + p4 + p5) + 16777216 * (p3 + p4 + p5 + p6) + 4294967296 * (p4 + p5 + p6 + p7 + 256 * (p5 + p6 + p7 + 256 * (p6 + p7 + 256 * p7))) + (p4 + p5 + p6 + p7 + 256 * (p5 + p6 + p7 + 256 * (p6 + p7 + 256 * p7)))
        = (p0 + (p1 + (p2 + (p3 + (p4 + (p5 + (p6 + p7))))))) + 128 * (2 * (p1 + p2 + p3 + p4) + 512 * (p2 + p3 + p4 + p5) + 131072 * (p3 + p4 + p5 + p6) + 33554432 * (p4 + p5 + p6 + p7 + 256 * (p5 + p6 + p7 + 256 * (p6 + p7 + 256 * p7))) + 2 * (p5 + p6 + p7 + 256 * (p6 + p7 + 256 * p7))) := by omega
    rw [e, Nat.add_mul_mod_self_left, Nat.mod_eq_of_lt (by omega)]
  · omega
theorem last_steps (x y : Nat) (hy : y = mapB h3 8 x) :
    (y + y / 256 + (y + y / 256) / 65536 + (y + y / 256 + (y + y / 256) / 65536) / 4294967296) % 128 = popF 64 x ∧ y + y / 256 + (y + y / 256) / 65536 + (y + y / 256 + (y + y / 256) / 65536) / 4294967296 < 9223372036854775808 := by
  rw [pop_bytes]
  simp only [mapB, Nat.mul_zero, Nat.add_zero] at hy
  have l0 := h3_le (x % 256) (Nat.mod_lt _ (by decide))
  have l1 := h3_le (x / 256 % 256) (Nat.mod_lt _ (by decide))
  have l2 := h3_le (x / 256 / 256 % 256) (Nat.mod_lt _ (by decide))
  have l3 := h3_le (x / 256 / 256 / 256 % 256) (Nat.mod_lt _ (by decide))
  have l4 := h3_le (x / 256 / 256 / 256 / 256 % 256) (Nat.mod_lt _ (by decide))
  have l5 := h3_le (x / 256 / 256 / 256 / 256 / 256 % 256) (Nat.mod_lt _ (by decide))
  have l6 := h3_le (x / 256 / 256 / 256 / 256 / 256 / 256 % 256) (Nat.mod_lt _ (by decide))
  have l7 := h3_le (x / 256 / 256 / 256 / 256 / 256 / 256 / 256 % 256) (Nat.mod_lt _ (by decide))
  generalize h3 (x % 256) = p0 at *
  generalize h3 (x / 256 % 256) = p1 at *
  generalize h3 (x / 256 / 256 % 256) = p2 at *
  generalize h3 (x / 256 / 256 / 256 % 256) = p3 at *
  generalize h3 (x / 256 / 256 / 256 / 256 % 256) = p4 at *
  generalize h3 (x / 256 / 256 / 256 / 256 / 256 % 256) = p5 at *
  generalize h3 (x / 256 / 256 / 256 / 256 / 256 / 256 % 256) = p6 at *
  generalize h3 (x / 256 / 256 / 256 / 256 / 256 / 256 / 256 % 256) = p7 at *
  exact bytes_sum p0 p1 p2 p3 p4 p5 p6 p7 y hy l0 l1 l2 l3 l4 l5 l6 l7
end Go.Proofs.YtkjlddiglkpbhaaDoor
