/-
  The format CJ and its encoder, walked: the reference's format, what the encoder returns for an immediate and for another number, and that 'works' is true of it. No conditions beyond those of each theorem.
-/
import Derived.Test.YtpnihechnlkhpaaPlCJ
import Derived.Test.YtpnihechnlkhpaaFit
import Derived.Test.YtpnihechnlkhpaaEven
import Derived.Test.YtpnihechnlkhpaaPat
import Derived.Deep.RegionWith
namespace Go.Proofs.Ytpnihechnlkhpaa
open Go Go.RowKit
set_option linter.unusedVariables false
set_option linter.unusedSimpArgs false
theorem fineCJ : Fine fsCJ := ⟨by decide, by decide⟩
theorem specCJ_any (w : World) :
    Calls Try.prog 20 #[] w fun e w' => e = .returned (.agg #[.int .i64 12, .int .i64 1, .slice (some ⟨w.heap.size + 1, 0, none⟩) 8 8]) ∧ FieldsAt w' (w.heap.size + 1) fsCJ ∧ Below w.heap.size w w' := by
  go_enter Try.func20, Try.ntmps20
  go_wp2
  refine bodyPost_ret (v := .agg #[.int .i64 12, .int .i64 1, .slice (some ⟨w.heap.size + 1, 0, none⟩) 8 8]) (by simp [results, Try.results20, go_sem]) rfl ⟨rfl, ?_, ?_⟩
  · exact fieldsAt_new _ fsCJ _ _ (by simp)
  · exact ((Below.refl _ _).alloc (Nat.le_refl _) _).alloc (by simp) _
theorem patCellCJ (l : List Int) (w : World) (T : TypeId) (n : Nat) (hn : n = w.heap.size) : ∀ i, (h : i < l.length) → (w.alloc (.cells (l.map (Value.int .i64)).toArray T)).cell? ⟨n, 0 + i, none⟩ = some (.int .i64 l[i]) := by
  subst hn
  intro i h
  rw [World.cell?_alloc_new]
  simp [h]
theorem encodeCJ_yes (n : Int) (w : World) (c1 : -2048 ≤ n) (c2 : n < 2048) (c3 : n % 2 = 0) :
    Calls Try.prog 13 #[.int .i64 n] w fun e w' => e = .returned (.tuple #[.int .i64 (valCJ n), .bool true]) ∧ Below w.heap.size w w' := by
  have C := Lib.hid c3
  clear c3
  go_enter Try.func13, Try.ntmps13
  go_wp2_with (first | (go_at_call 27; refine (immIFits_yes n 2048 12 _ (by decide) (by decide) (by decide) c1 c2).mono ?_; rintro e w' ⟨rfl, rfl⟩) | (go_at_call 28; refine (immEven_yes n _ C.out).mono ?_; rintro e w' ⟨rfl, rfl⟩) | (go_at_call 35; refine (encodeBitPattern_row _ [11, 4, 9, 8, 10, 6, 7, 3, 2, 1, 5] _ 0 11 _ (by omega) (by omega) (by decide) (by decide) (patCellCJ [11, 4, 9, 8, 10, 6, 7, 3, 2, 1, 5] _ _ _ rfl)).mono ?_; rintro e w' ⟨rfl, rfl⟩) | go_in)
  go_region
  go_wp2
  go_ret2
  exact ⟨rfl, ((Below.refl _ _).alloc (Nat.le_refl _) _).drew⟩
theorem encodeCJ_out (n : Int) (w : World) (c : n < -2048 ∨ 2048 ≤ n) :
    Calls Try.prog 13 #[.int .i64 n] w fun e w' => e = .returned (.tuple #[.int .i64 0, .bool false]) ∧ Below w.heap.size w w' := by
  have C := Lib.hid c
  clear c
  go_enter Try.func13, Try.ntmps13
  go_wp2_with (first | (go_at_call 27; refine (immIFits_no n 2048 12 _ (by decide) (by decide) (by decide) C.out).mono ?_; rintro e w' ⟨rfl, hb⟩) | go_in)
  go_region
  go_wp2
  go_ret2
  exact ⟨rfl, hb.drew⟩
theorem encodeCJ_odd (n : Int) (w : World) (c1 : -2048 ≤ n) (c2 : n < 2048) (c : n % 2 = 1) :
    Calls Try.prog 13 #[.int .i64 n] w fun e w' => e = .returned (.tuple #[.int .i64 0, .bool false]) ∧ Below w.heap.size w w' := by
  have C := Lib.hid c
  clear c
  go_enter Try.func13, Try.ntmps13
  go_wp2_with (first | (go_at_call 27; refine (immIFits_yes n 2048 12 _ (by decide) (by decide) (by decide) c1 c2).mono ?_; rintro e w' ⟨rfl, rfl⟩) | (go_at_call 28; refine (immEven_no n _ C.out).mono ?_; rintro e w' ⟨rfl, hb⟩) | go_in)
  go_region
  go_wp2
  go_ret2
  exact ⟨rfl, hb.drew⟩
theorem encodeCJ_no (n : Int) (w : World) (c : ¬ (-2048 ≤ n ∧ n < 2048 ∧ n % 2 = 0)) :
    Calls Try.prog 13 #[.int .i64 n] w fun e w' => e = .returned (.tuple #[.int .i64 0, .bool false]) ∧ Below w.heap.size w w' := by
  by_cases h : n < -2048 ∨ 2048 ≤ n
  · exact encodeCJ_out n w h
  · exact encodeCJ_odd n w (by omega) (by omega) (by omega)
end Go.Proofs.Ytpnihechnlkhpaa
