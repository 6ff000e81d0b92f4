/-
  encodeBitPattern, walked: over a slice of at most 32 numbers from 0 to 31 it returns the bits of the number in the slice's order, the first one highest. Conditions: the slice's cells hold these numbers; the number is one of 32 bits.
-/
import Derived.Test.YtpnihechnlkhpaaProg
import Derived.Test.YtpnihechnlkhpaaBits
import Derived.WalkKit
import Derived.WalkSpells
import Derived.WalkLawsBesides
import Derived.Lib.Hide
namespace Go.Proofs.Ytpnihechnlkhpaa
open Go Go.RowKit
set_option linter.unusedVariables false
set_option linter.unusedSimpArgs false



theorem pat_step (n x : Int) (l : List Int) (k : Nat) (h0 : 0 ≤ n) (h1 : n < 4294967296) (hk : k < l.length) (hl : l.length ≤ 32) (hx : l[k] = x) :
    bits BinOp.or IntKind.u32 (pat n (List.take k l) * 2 % 4294967296) (bits BinOp.and IntKind.u32 (n / 2 ^ x.toNat) 1) = pat n (l.take (k + 1)) := by
  obtain ⟨d0, d1⟩ := div_pow_u32 n x.toNat h0 h1
  obtain ⟨p0, p1⟩ := pat_bound n (l.take k)
  have hlen : (l.take k).length = k := by simp; omega
  rw [hlen] at p1
  have hk2 : (2 : Int) ^ k ≤ 2147483648 := pow_le_pow k 31 (by omega)
  rw [and_one_u32 _ d0 d1, List.take_succ_eq_append_getElem hk, pat_snoc, hx, Int.emod_eq_of_lt (by omega) (by omega),
    or_low_u32 _ _ 1 (by omega) (by omega) (by omega) (by omega) (by omega) (by decide)]

theorem encodeBitPattern_row (n : Int) (l : List Int) (b off cap : Nat) (w : World) (hn0 : 0 ≤ n) (hn1 : n < 4294967296) (hl : l.length ≤ 32)
    (hb : ∀ k ∈ l, 0 ≤ k ∧ k < 32) (hc : ∀ i, (h : i < l.length) → w.cell? ⟨b, off + i, none⟩ = some (.int .i64 l[i])) :
    Calls Try.prog 35 #[.int .u32 n, .slice (some ⟨b, off, none⟩) l.length cap] w fun e w' => e = .returned (.int .u32 (pat n l)) ∧ w = w' := by
  have HC := Lib.hid hc
  have HB := Lib.hid hb
  clear hc hb
  go_enter Try.func35, Try.ntmps35
  go_wp2
  go_loop [5, 10] (fun o i => ∃ k : Nat, k ≤ l.length ∧ i = .int .i64 k ∧ o = .int .u32 (pat n (l.take k))) (fun _ i => l.length - (intOf i).toNat)
  case atStart => exact ⟨0, by omega, rfl, rfl⟩
  case round =>
    obtain ⟨k, hk, rfl, rfl⟩ := hrel
    by_cases hlt : k < l.length
    · have hcell := HC.out k hlt
      obtain ⟨hb0, hb1⟩ := HB.out l[k] (List.getElem_mem hlt)
      generalize hx : l[k] = x at *
      have HX := Lib.hid hx
      clear hx
      go_wp2
      go_round
      case rel => exact ⟨k + 1, by omega, by go_num, by rw [pat_step n x l k hn0 hn1 hlt hl HX.out]⟩
      case measure => simp [intOf]; omega
    · go_wp2
      go_ret
      exact ⟨ret_int (by rw [List.take_of_length_le (by omega)]), rfl⟩

theorem encodeBitPattern_nil (n : Int) (a : Option Addr) (cap : Nat) (w : World) :
    Calls Try.prog 35 #[.int .u32 n, .slice a 0 cap] w fun e w' => e = .returned (.int .u32 0) ∧ w = w' := by
  go_enter Try.func35, Try.ntmps35
  go_wp2
  refine wp_loop_rounds 1 ?_
  rw [rounds_succ]
  go_wp2
  go_ret
  exact ⟨rfl, rfl⟩
end Go.Proofs.Ytpnihechnlkhpaa
