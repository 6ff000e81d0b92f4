/-
  The format CB and its encoder, walked: the reference's format, what the encoder returns for an immediate and for another number, and that 'works' is true of it. No conditions beyond those of each theorem.
-/
import Derived.Test.YtpnihechnlkhpaaPlCB
import Derived.Test.YtpnihechnlkhpaaFit
import Derived.Test.YtpnihechnlkhpaaEven
import Derived.Test.YtpnihechnlkhpaaPat
import Derived.Deep.RegionWith
namespace Go.Proofs.Ytpnihechnlkhpaa
open Go Go.RowKit
set_option linter.unusedVariables false
set_option linter.unusedSimpArgs false
theorem fineCB : Fine fsCB := ⟨by decide, by decide⟩
theorem specCB_any (w : World) :
    Calls Try.prog 16 #[] w fun e w' => e = .returned (.agg #[.int .i64 9, .int .i64 1, .slice (some ⟨w.heap.size + 1, 0, none⟩) 5 5]) ∧ FieldsAt w' (w.heap.size + 1) fsCB ∧ Below w.heap.size w w' := by
  go_enter Try.func16, Try.ntmps16
  go_wp2
  refine bodyPost_ret (v := .agg #[.int .i64 9, .int .i64 1, .slice (some ⟨w.heap.size + 1, 0, none⟩) 5 5]) (by simp [results, Try.results16, go_sem]) rfl ⟨rfl, ?_, ?_⟩
  · exact fieldsAt_new _ fsCB _ _ (by simp)
  · exact ((Below.refl _ _).alloc (Nat.le_refl _) _).alloc (by simp) _
theorem patCellCB (l : List Int) (w : World) (T : TypeId) (n : Nat) (hn : n = w.heap.size) : ∀ i, (h : i < l.length) → (w.alloc (.cells (l.map (Value.int .i64)).toArray T)).cell? ⟨n, 0 + i, none⟩ = some (.int .i64 l[i]) := by
  subst hn
  intro i h
  rw [World.cell?_alloc_new]
  simp [h]
theorem encodeCB_yes (n : Int) (w : World) (c1 : -256 ≤ n) (c2 : n < 256) (c3 : n % 2 = 0) :
    Calls Try.prog 12 #[.int .i64 n] w fun e w' => e = .returned (.tuple #[.int .i64 (valCB n), .bool true]) ∧ Below w.heap.size w w' := by
  have C := Lib.hid c3
  clear c3
  go_enter Try.func12, Try.ntmps12
  go_wp2_with (first | (go_at_call 27; refine (immIFits_yes n 256 9 _ (by decide) (by decide) (by decide) c1 c2).mono ?_; rintro e w' ⟨rfl, rfl⟩) | (go_at_call 28; refine (immEven_yes n _ C.out).mono ?_; rintro e w' ⟨rfl, rfl⟩) | (go_at_call 35; refine (encodeBitPattern_row _ [8, 4, 3, 7, 6, 2, 1, 5] _ 0 8 _ (by omega) (by omega) (by decide) (by decide) (patCellCB [8, 4, 3, 7, 6, 2, 1, 5] _ _ _ rfl)).mono ?_; rintro e w' ⟨rfl, rfl⟩) | go_in)
  go_region
  go_wp2
  go_ret2
  exact ⟨rfl, ((Below.refl _ _).alloc (Nat.le_refl _) _).drew⟩
theorem encodeCB_out (n : Int) (w : World) (c : n < -256 ∨ 256 ≤ n) :
    Calls Try.prog 12 #[.int .i64 n] w fun e w' => e = .returned (.tuple #[.int .i64 0, .bool false]) ∧ Below w.heap.size w w' := by
  have C := Lib.hid c
  clear c
  go_enter Try.func12, Try.ntmps12
  go_wp2_with (first | (go_at_call 27; refine (immIFits_no n 256 9 _ (by decide) (by decide) (by decide) C.out).mono ?_; rintro e w' ⟨rfl, hb⟩) | go_in)
  go_region
  go_wp2
  go_ret2
  exact ⟨rfl, hb.drew⟩
theorem encodeCB_odd (n : Int) (w : World) (c1 : -256 ≤ n) (c2 : n < 256) (c : n % 2 = 1) :
    Calls Try.prog 12 #[.int .i64 n] w fun e w' => e = .returned (.tuple #[.int .i64 0, .bool false]) ∧ Below w.heap.size w w' := by
  have C := Lib.hid c
  clear c
  go_enter Try.func12, Try.ntmps12
  go_wp2_with (first | (go_at_call 27; refine (immIFits_yes n 256 9 _ (by decide) (by decide) (by decide) c1 c2).mono ?_; rintro e w' ⟨rfl, rfl⟩) | (go_at_call 28; refine (immEven_no n _ C.out).mono ?_; rintro e w' ⟨rfl, hb⟩) | go_in)
  go_region
  go_wp2
  go_ret2
  exact ⟨rfl, hb.drew⟩
theorem encodeCB_no (n : Int) (w : World) (c : ¬ (-256 ≤ n ∧ n < 256 ∧ n % 2 = 0)) :
    Calls Try.prog 12 #[.int .i64 n] w fun e w' => e = .returned (.tuple #[.int .i64 0, .bool false]) ∧ Below w.heap.size w w' := by
  by_cases h : n < -256 ∨ 256 ≤ n
  · exact encodeCB_out n w h
  · exact encodeCB_odd n w (by omega) (by omega) (by omega)
end Go.Proofs.Ytpnihechnlkhpaa
