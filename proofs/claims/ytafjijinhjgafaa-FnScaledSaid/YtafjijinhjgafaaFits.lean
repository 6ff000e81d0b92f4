/-
  FitsSigned, FitsUnsigned, ScaledSigned, ScaledUnsigned and Even, walked, and the laws FnFits and FnScaled: they return true for all numbers. Conditions of the contracts: 1 to 63 bits, a scale from 1 to 16.
-/
import Derived.Test.YtafjijinhjgafaaEven
import Derived.Test.YtafjijinhjgafaaSign
namespace Go.Proofs.Ytafjijinhjgafaa
open Go Go.RowKit
set_option linter.unusedVariables false
set_option linter.unusedSimpArgs false

def sB (k : Nat) (n : Int) : Bool := decide (-2 ^ (k - 1) ≤ n ∧ n < 2 ^ (k - 1))
def uB (k : Nat) (n : Int) : Bool := decide (0 ≤ n ∧ n < 2 ^ k)
def mB (s n : Int) : Bool := n.tmod s == 0
def scS (k : Nat) (s n : Int) : Bool := sB k n && mB s n
def scU (k : Nat) (s n : Int) : Bool := uB k n && mB s n

theorem pow_range (nb : Nat) (h1 : 1 ≤ nb) (h2 : nb ≤ 63) : wrap64 (wrap64 (2 ^ nb) - 1) = 2 ^ nb - 1 := by
  have a1 : (2 : Int) ^ nb ≤ 9223372036854775808 := pow_le_pow nb 63 h2
  have a0 := two_pow_pos nb
  generalize (2 : Int) ^ nb = P at *
  unfold wrap64; omega

theorem immFits_unsigned_yes (n : Int) (nb : Nat) (w : World) (h1 : 1 ≤ nb) (h2 : nb ≤ 63) (c1 : 0 ≤ n) (c2 : n < 2 ^ nb) :
    Calls Try.prog 29 #[.int .i64 n, .int .u64 nb, .bool false] w fun e w' => e = .returned .nilIface ∧ w = w' := by
  have hw := pow_range nb h1 h2
  obtain ⟨M, hM⟩ : ∃ M : Int, (2 : Int) ^ nb - 1 = M := ⟨_, rfl⟩
  rw [hM] at hw
  have c2' : n ≤ M := by omega
  clear c2 hM
  go_enter Try.func29, Try.ntmps29
  go_wp2_with fail
  go_ret
  exact ⟨rfl, rfl⟩
theorem immFits_unsigned_no (n : Int) (nb : Nat) (w : World) (h1 : 1 ≤ nb) (h2 : nb ≤ 63) (c : n < 0 ∨ 2 ^ nb ≤ n) :
    Calls Try.prog 29 #[.int .i64 n, .int .u64 nb, .bool false] w fun e w' => e = .returned (.iface 43 (.pointer (some ⟨w.heap.size, 0, none⟩))) ∧ Below w.heap.size w w' := by
  have hw := pow_range nb h1 h2
  have hp := two_pow_pos nb
  obtain ⟨M, hM⟩ : ∃ M : Int, (2 : Int) ^ nb - 1 = M := ⟨_, rfl⟩
  rw [hM] at hw
  have c' : n < 0 ∨ M < n := by omega
  clear c hM hp
  rcases c' with c | c
  · by_cases c3 : nb ≤ 16
    all_goals
      go_enter Try.func29, Try.ntmps29
      go_wp2_with fail
      refine (new_any _ _).mono ?_
      rintro e w' ⟨rfl, hb⟩
      go_wp2_with fail
      go_ret
      exact ⟨rfl, hb⟩
  · by_cases c4 : n < 0
    · by_cases c3 : nb ≤ 16
      all_goals
        go_enter Try.func29, Try.ntmps29
        go_wp2_with fail
        refine (new_any _ _).mono ?_
        rintro e w' ⟨rfl, hb⟩
        go_wp2_with fail
        go_ret
        exact ⟨rfl, hb⟩
    · by_cases c3 : nb ≤ 16
      all_goals
        go_enter Try.func29, Try.ntmps29
        go_wp2_with fail
        refine (new_any _ _).mono ?_
        rintro e w' ⟨rfl, hb⟩
        go_wp2_with fail
        go_ret
        exact ⟨rfl, hb⟩

theorem immFitsS_t (n b : Int) (k : Nat) (w : World) (hk : (k : Int) = b) (h1 : 1 ≤ k) (h2 : k ≤ 63) (h : sB k n = true) :
    Calls Try.prog 29 #[.int .i64 n, .int .u64 b, .bool true] w fun e w' => e = .returned .nilIface ∧ Below w.heap.size w w' := by
  subst hk
  have h := of_decide_eq_true h
  refine (immFits_signed_yes n _ k w h1 h2 rfl h.1 h.2).mono ?_
  rintro e w' ⟨rfl, rfl⟩
  exact ⟨rfl, Below.refl _ _⟩
theorem immFitsS_f (n b : Int) (k : Nat) (w : World) (hk : (k : Int) = b) (h1 : 1 ≤ k) (h2 : k ≤ 63) (h : sB k n = false) :
    Calls Try.prog 29 #[.int .i64 n, .int .u64 b, .bool true] w fun e w' => e = .returned (.iface 43 (.pointer (some ⟨w.heap.size, 0, none⟩))) ∧ Below w.heap.size w w' := by
  subst hk
  have h := of_decide_eq_false h
  exact immFits_signed_no n _ k w h1 h2 rfl (by omega)
theorem immFitsU_t (n b : Int) (k : Nat) (w : World) (hk : (k : Int) = b) (h1 : 1 ≤ k) (h2 : k ≤ 63) (h : uB k n = true) :
    Calls Try.prog 29 #[.int .i64 n, .int .u64 b, .bool false] w fun e w' => e = .returned .nilIface ∧ Below w.heap.size w w' := by
  subst hk
  have h := of_decide_eq_true h
  refine (immFits_unsigned_yes n k w h1 h2 h.1 h.2).mono ?_
  rintro e w' ⟨rfl, rfl⟩
  exact ⟨rfl, Below.refl _ _⟩
theorem immFitsU_f (n b : Int) (k : Nat) (w : World) (hk : (k : Int) = b) (h1 : 1 ≤ k) (h2 : k ≤ 63) (h : uB k n = false) :
    Calls Try.prog 29 #[.int .i64 n, .int .u64 b, .bool false] w fun e w' => e = .returned (.iface 43 (.pointer (some ⟨w.heap.size, 0, none⟩))) ∧ Below w.heap.size w w' := by
  subst hk
  have h := of_decide_eq_false h
  exact immFits_unsigned_no n k w h1 h2 (by omega)
theorem fitsSigned_any (n b : Int) (k : Nat) (w : World) (hk : (k : Int) = b) (h1 : 1 ≤ k) (h2 : k ≤ 63) :
    Calls Try.prog 10 #[.int .i64 n, .int .i64 b] w fun e w' => e = .returned (.bool (sB k n)) ∧ Below w.heap.size w w' := by
  have l1 : 1 ≤ b := by omega
  have l2 : b ≤ 63 := by omega
  have H := Lib.hid hk
  clear hk
  cases hs : sB k n
  · have HS := Lib.hid hs
    clear hs
    go_enter Try.func10, Try.ntmps10
    go_wp2_with (first | (go_at_call 29; refine (immFitsS_f n b k _ H.out h1 h2 HS.out).mono ?_; rintro e w1 ⟨rfl, hb⟩) | go_in)
    go_ret
    exact ⟨rfl, hb⟩
  · have HS := Lib.hid hs
    clear hs
    go_enter Try.func10, Try.ntmps10
    go_wp2_with (first | (go_at_call 29; refine (immFitsS_t n b k _ H.out h1 h2 HS.out).mono ?_; rintro e w1 ⟨rfl, hb⟩) | go_in)
    go_ret
    exact ⟨rfl, hb⟩
theorem fitsUnsigned_any (n b : Int) (k : Nat) (w : World) (hk : (k : Int) = b) (h1 : 1 ≤ k) (h2 : k ≤ 63) :
    Calls Try.prog 11 #[.int .i64 n, .int .i64 b] w fun e w' => e = .returned (.bool (uB k n)) ∧ Below w.heap.size w w' := by
  have l1 : 1 ≤ b := by omega
  have l2 : b ≤ 63 := by omega
  have H := Lib.hid hk
  clear hk
  cases hs : uB k n
  · have HS := Lib.hid hs
    clear hs
    go_enter Try.func11, Try.ntmps11
    go_wp2_with (first | (go_at_call 29; refine (immFitsU_f n b k _ H.out h1 h2 HS.out).mono ?_; rintro e w1 ⟨rfl, hb⟩) | go_in)
    go_ret
    exact ⟨rfl, hb⟩
  · have HS := Lib.hid hs
    clear hs
    go_enter Try.func11, Try.ntmps11
    go_wp2_with (first | (go_at_call 29; refine (immFitsU_t n b k _ H.out h1 h2 HS.out).mono ?_; rintro e w1 ⟨rfl, hb⟩) | go_in)
    go_ret
    exact ⟨rfl, hb⟩
theorem scaledSigned_any (n b s : Int) (k : Nat) (w : World) (hk : (k : Int) = b) (h1 : 1 ≤ k) (h2 : k ≤ 63) (hs1 : 1 ≤ s) (hs2 : s ≤ 16) :
    Calls Try.prog 12 #[.int .i64 n, .int .i64 b, .int .i64 s] w fun e w' => e = .returned (.bool (scS k s n)) ∧ Below w.heap.size w w' := by
  have l1 : 1 ≤ b := by omega
  have l2 : b ≤ 63 := by omega
  have H := Lib.hid hk
  have z : (s == 0) = false := by simp; omega
  clear hk
  unfold scS
  cases hs : sB k n
  · have HS := Lib.hid hs
    clear hs
    go_enter Try.func12, Try.ntmps12
    go_wp2_with (first | (go_at_call 29; refine (immFitsS_f n b k _ H.out h1 h2 HS.out).mono ?_; rintro e w1 ⟨rfl, hb⟩) | go_in)
    go_ret
    exact ⟨rfl, hb⟩
  · have HS := Lib.hid hs
    clear hs
    go_enter Try.func12, Try.ntmps12
    go_wp2_with (first | (go_at_call 29; refine (immFitsS_t n b k _ H.out h1 h2 HS.out).mono ?_; rintro e w1 ⟨rfl, hb⟩) | go_in)
    go_ret
    exact ⟨rfl, hb⟩
theorem scaledUnsigned_any (n b s : Int) (k : Nat) (w : World) (hk : (k : Int) = b) (h1 : 1 ≤ k) (h2 : k ≤ 63) (hs1 : 1 ≤ s) (hs2 : s ≤ 16) :
    Calls Try.prog 13 #[.int .i64 n, .int .i64 b, .int .i64 s] w fun e w' => e = .returned (.bool (scU k s n)) ∧ Below w.heap.size w w' := by
  have l1 : 1 ≤ b := by omega
  have l2 : b ≤ 63 := by omega
  have H := Lib.hid hk
  have z : (s == 0) = false := by simp; omega
  clear hk
  unfold scU
  cases hs : uB k n
  · have HS := Lib.hid hs
    clear hs
    go_enter Try.func13, Try.ntmps13
    go_wp2_with (first | (go_at_call 29; refine (immFitsU_f n b k _ H.out h1 h2 HS.out).mono ?_; rintro e w1 ⟨rfl, hb⟩) | go_in)
    go_ret
    exact ⟨rfl, hb⟩
  · have HS := Lib.hid hs
    clear hs
    go_enter Try.func13, Try.ntmps13
    go_wp2_with (first | (go_at_call 29; refine (immFitsU_t n b k _ H.out h1 h2 HS.out).mono ?_; rintro e w1 ⟨rfl, hb⟩) | go_in)
    go_ret
    exact ⟨rfl, hb⟩
theorem even_any (n : Int) (w : World) :
    Calls Try.prog 14 #[.int .i64 n] w fun e w' => e = .returned (.bool (n % 2 == 0)) ∧ Below w.heap.size w w' := by
  by_cases h : n % 2 = 0
  · have HS := Lib.hid h
    clear h
    go_enter Try.func14, Try.ntmps14
    go_wp2_with (first | (go_at_call 28; refine (immEven_yes n _ HS.out).mono ?_; rintro e w1 ⟨rfl, rfl⟩) | go_in)
    go_ret
    exact ⟨ret_bool (by rw [HS.out]; rfl), Below.refl _ _⟩
  · have h' : n % 2 = 1 := by omega
    have HS := Lib.hid h'
    clear h h'
    go_enter Try.func14, Try.ntmps14
    go_wp2_with (first | (go_at_call 28; refine (immEven_no n _ HS.out).mono ?_; rintro e w1 ⟨rfl, hb⟩) | go_in)
    go_ret
    exact ⟨ret_bool (by rw [HS.out]; rfl), hb⟩
end Go.Proofs.Ytafjijinhjgafaa
