/-
  The reference's functions on formats, walked: fit, Encoded, Decoded, Mask and Fits over a format whose fields lie in a row of cells. Conditions: the cells hold the fields, at most ten of them, within the instruction's and the immediate's bits.
-/
import Derived.Test.YtdophgcjlckpiaaProg
import Derived.Test.YtdophgcjlckpiaaFit
import Derived.WalkKit
import Derived.WalkSpells
import Derived.WalkLawsBesides
import Derived.RegionTactic
import Derived.Lib.Hide
import Derived.Below
namespace Go.Proofs.Ytdophgcjlckpiaa
open Go Go.RowKit
set_option linter.unusedVariables false
set_option linter.unusedSimpArgs false

theorem encoded_any (bits zeros g cap : Nat) (fs : List Fd) (n : Int) (w : World) (hf : FieldsAt w g fs) (hb : Fine fs) :
    Calls Try.prog 23 #[.agg #[.int .i64 bits, .int .i64 zeros, .slice (some ⟨g, 0, none⟩) fs.length cap], .int .i64 n] w fun e w' => e = .returned (.int .u32 (encL n fs 0)) ∧ Below w.heap.size w w' := by
  have hg := hf.1
  have hl := hb.1
  have HF := Lib.hid hf.2
  have HB := Lib.hid hb.2
  clear hf hb
  go_enter Try.func23, Try.ntmps23
  go_wp2
  go_loopw [5, 12] (fun o i wr => ∃ k : Nat, k ≤ fs.length ∧ i = .int .i64 k ∧ o = .int .u32 (encL n (fs.take k) 0) ∧ Below w.heap.size w wr) (fun _ i _ => fs.length - (intOf i).toNat)
  case atStart => exact ⟨0, by omega, rfl, rfl, (Below.refl _ _).alloc (Nat.le_refl _) _⟩
  case round =>
    obtain ⟨k, hk, rfl, rfl, hnx⟩ := hrel
    by_cases hlt : k < fs.length
    · obtain ⟨c0, c1, c2⟩ := HF.out k hlt
      have d0 := (hnx.cell (p := ⟨g, _, none⟩) hg).trans c0
      have d1 := (hnx.cell (p := ⟨g, _, none⟩) hg).trans c1
      have d2 := (hnx.cell (p := ⟨g, _, none⟩) hg).trans c2
      obtain ⟨b0, b1⟩ := HB.out fs[k] (List.getElem_mem hlt)
      generalize hX : fs[k] = F at *
      obtain ⟨f, t, b⟩ := F
      have HX := Lib.hid (take_snoc fs k hlt _ hX)
      clear hX c0 c1 c2
      simp only at d0 d1 d2 b0 b1
      have hsz := hnx.size
      go_wp2
      obtain ⟨wo, rfl⟩ : ∃ wo : World, wo = wr := ⟨_, rfl⟩
      go_loopw [5, 18] (fun o i wr => ∃ j q : Nat, j ≤ b ∧ i = .int .i64 j ∧ o = .int .u32 (encF n f t (encL n (fs.take k) 0) j) ∧ wr = (wo.alloc (Obj.cells #[Value.int IntKind.i64 ↑f, Value.int IntKind.i64 ↑t, Value.int IntKind.i64 ↑b] 38)).drewN q) (fun _ i _ => b - (intOf i).toNat)
      case atStart => exact ⟨0, 0, by omega, rfl, rfl, rfl⟩
      case round =>
        obtain ⟨j, q, hj, rfl, rfl, rfl⟩ := hrel
        by_cases hjb : j < b
        · go_wp2
          go_region
          go_wp2
          go_roundw
          case rel => exact ⟨j + 1, q + 1, by omega, by go_num, rfl, rfl⟩
          case measure => simp [intOf]; omega
        · obtain rfl : j = b := by omega
          go_wp2
          go_roundw
          case rel => exact ⟨k + 1, by omega, by go_num, by rw [HX.out, encL_snoc], below_drewN (hnx.alloc hsz _) _⟩
          case measure => simp [intOf]; omega
    · go_wp2
      go_ret
      exact ⟨ret_int (by rw [List.take_of_length_le (by omega)]), hnx⟩
theorem decoded_any (bits zeros g cap : Nat) (fs : List Fd) (v : Int) (w : World) (hz1 : 1 ≤ bits) (hz2 : bits ≤ 60) (hf : FieldsAt w g fs) (hb : Fine fs) :
    Calls Try.prog 16 #[.agg #[.int .i64 bits, .int .i64 zeros, .slice (some ⟨g, 0, none⟩) fs.length cap], .int .u32 v] w fun e w' => e = .returned (.int .i64 (decV bits fs v)) ∧ Below w.heap.size w w' := by
  have hg := hf.1
  have hl := hb.1
  have HF := Lib.hid hf.2
  have HB := Lib.hid hb.2
  clear hf hb
  go_enter Try.func16, Try.ntmps16
  go_wp2
  go_loopw [5, 12] (fun o i wr => ∃ k : Nat, k ≤ fs.length ∧ i = .int .i64 k ∧ o = .int .i64 (decL v (fs.take k) 0) ∧ Below (w.heap.size + 1) (w.alloc (Obj.cells #[.int .i64 bits, .int .i64 zeros, .slice (some ⟨g, 0, none⟩) fs.length cap] 24)) wr) (fun _ i _ => fs.length - (intOf i).toNat)
  case atStart => exact ⟨0, by omega, rfl, rfl, Below.refl _ _⟩
  case round =>
    obtain ⟨k, hk, rfl, rfl, hnx1⟩ := hrel
    have hnx : Below w.heap.size w wr := ((Below.refl _ _).alloc (Nat.le_refl _) _).trans (hnx1.mono (by omega))
    by_cases hlt : k < fs.length
    · obtain ⟨c0, c1, c2⟩ := HF.out k hlt
      have d0 := (hnx.cell (p := ⟨g, _, none⟩) hg).trans c0
      have d1 := (hnx.cell (p := ⟨g, _, none⟩) hg).trans c1
      have d2 := (hnx.cell (p := ⟨g, _, none⟩) hg).trans c2
      obtain ⟨b0, b1⟩ := HB.out fs[k] (List.getElem_mem hlt)
      generalize hX : fs[k] = F at *
      obtain ⟨f, t, b⟩ := F
      have HX := Lib.hid (take_snoc fs k hlt _ hX)
      clear hX c0 c1 c2
      simp only at d0 d1 d2 b0 b1
      have hsz := hnx.size
      have hsz1 : w.heap.size + 1 ≤ wr.heap.size := by have := hnx1.size; simp at this; omega
      go_wp2
      obtain ⟨wo, rfl⟩ : ∃ wo : World, wo = wr := ⟨_, rfl⟩
      go_loopw [5, 18] (fun o i wr => ∃ j q : Nat, j ≤ b ∧ i = .int .i64 j ∧ o = .int .i64 (decF v f t (decL v (fs.take k) 0) j) ∧ wr = (wo.alloc (Obj.cells #[Value.int IntKind.i64 ↑f, Value.int IntKind.i64 ↑t, Value.int IntKind.i64 ↑b] 38)).drewN q) (fun _ i _ => b - (intOf i).toNat)
      case atStart => exact ⟨0, 0, by omega, rfl, rfl, rfl⟩
      case round =>
        obtain ⟨j, q, hj, rfl, rfl, rfl⟩ := hrel
        by_cases hjb : j < b
        · go_wp2
          go_region
          go_wp2
          go_roundw
          case rel => exact ⟨j + 1, q + 1, by omega, by go_num, rfl, rfl⟩
          case measure => simp [intOf]; omega
        · obtain rfl : j = b := by omega
          go_wp2
          go_roundw
          case rel => exact ⟨k + 1, by omega, by go_num, by rw [HX.out, decL_snoc], below_drewN (hnx1.alloc hsz1 _) _⟩
          case measure => simp [intOf]; omega
    · obtain rfl : k = fs.length := by omega
      have hbox : wr.cell? ⟨w.heap.size, 0, none⟩ = some (.int .i64 bits) := (hnx1.cell (p := ⟨w.heap.size, 0, none⟩) (Nat.lt_succ_self _)).trans (World.cell?_alloc_new w _ _ 0)
      rw [List.take_of_length_le (Nat.le_refl _)]
      by_cases hd : (decL v fs 0 / 2 ^ (bits - 1) == 1) = true
      · go_wp2
        go_ret
        exact ⟨ret_int (by unfold decV; rw [if_pos hd]), hnx⟩
      · have hd' : (decL v fs 0 / 2 ^ (bits - 1) == 1) = false := by simpa using hd
        have HD := Lib.hid hd
        clear hd
        go_wp2
        go_ret
        exact ⟨ret_int (by unfold decV; rw [if_neg HD.out]), hnx⟩

theorem mask_any (bits zeros g cap : Nat) (fs : List Fd) (w : World) (hf : FieldsAt w g fs) (hb : Fine fs) :
    Calls Try.prog 17 #[.agg #[.int .i64 bits, .int .i64 zeros, .slice (some ⟨g, 0, none⟩) fs.length cap]] w fun e w' => e = .returned (.int .u32 (maskL fs 0)) ∧ Below w.heap.size w w' := by
  have hg := hf.1
  have hl := hb.1
  have HF := Lib.hid hf.2
  have HB := Lib.hid hb.2
  clear hf hb
  go_enter Try.func17, Try.ntmps17
  go_wp2
  go_loopw [3, 9] (fun o i wr => ∃ k : Nat, k ≤ fs.length ∧ i = .int .i64 k ∧ o = .int .u32 (maskL (fs.take k) 0) ∧ Below w.heap.size w wr) (fun _ i _ => fs.length - (intOf i).toNat)
  case atStart => exact ⟨0, by omega, rfl, rfl, (Below.refl _ _).alloc (Nat.le_refl _) _⟩
  case round =>
    obtain ⟨k, hk, rfl, rfl, hnx⟩ := hrel
    by_cases hlt : k < fs.length
    · obtain ⟨c0, c1, c2⟩ := HF.out k hlt
      have d0 := (hnx.cell (p := ⟨g, _, none⟩) hg).trans c0
      have d1 := (hnx.cell (p := ⟨g, _, none⟩) hg).trans c1
      have d2 := (hnx.cell (p := ⟨g, _, none⟩) hg).trans c2
      obtain ⟨b0, b1⟩ := HB.out fs[k] (List.getElem_mem hlt)
      generalize hX : fs[k] = F at *
      obtain ⟨f, t, b⟩ := F
      have HX := Lib.hid (take_snoc fs k hlt _ hX)
      clear hX c0 c1 c2
      simp only at d0 d1 d2 b0 b1
      have hsz := hnx.size
      go_wp2
      go_region
      go_wp2
      go_roundw
      case rel => exact ⟨k + 1, by omega, by go_num, by rw [HX.out, maskL_snoc], (hnx.alloc hsz _).drew⟩
      case measure => simp [intOf]; omega
    · go_wp2
      go_ret
      exact ⟨ret_int (by rw [List.take_of_length_le (by omega)]), hnx⟩

theorem fits_any (bits zeros : Nat) (v : Value) (n : Int) (w : World) (h1 : 1 ≤ bits) (h2 : bits ≤ 40) (h3 : zeros ≤ 40) :
    Calls Try.prog 22 #[.agg #[.int .i64 bits, .int .i64 zeros, v], .int .i64 n] w fun e w' => e = .returned (.bool (fitsB bits zeros n)) ∧ Below w.heap.size w w' := by
  obtain ⟨H, hH⟩ : ∃ H : Int, (2 : Int) ^ (bits - 1) = H := ⟨_, rfl⟩
  obtain ⟨Z, hZ⟩ : ∃ Z : Int, (2 : Int) ^ zeros = Z := ⟨_, rfl⟩
  have a1 : H ≤ 1099511627776 := hH ▸ pow_le_pow (bits - 1) 40 (by omega)
  have a0 : 1 ≤ H := by have := two_pow_pos (bits - 1); omega
  have b1 : Z ≤ 1099511627776 := hZ ▸ pow_le_pow zeros 40 h3
  have b0 : 1 ≤ Z := by have := two_pow_pos zeros; omega
  have w1 : wrap64 (-2 ^ (bits - 1)) = -H := by rw [hH]; exact IntWalk.wrap64_in _ ⟨by omega, by omega⟩
  have w2 : wrap64 (2 ^ (bits - 1)) = H := by rw [hH]; exact IntWalk.wrap64_in _ ⟨by omega, by omega⟩
  have w3 : wrap64 (2 ^ zeros) = Z := by rw [hZ]; exact IntWalk.wrap64_in _ ⟨by omega, by omega⟩
  have hand : Go.bits .and .i64 n (Z - 1) = n % Z := by rw [← hZ]; exact and_mask_i64 n zeros (by omega)
  have hB : fitsB bits zeros n = decide (-H ≤ n ∧ n < H ∧ n % Z = 0) := by unfold fitsB; rw [hH, hZ]
  clear hH hZ
  by_cases c1 : -H ≤ n
  · by_cases c2 : n < H
    · by_cases c3 : n % Z = 0
      · have HB := Lib.hid (show fitsB bits zeros n = true by rw [hB]; simp [c1, c2, c3])
        have c3' : (Go.bits .and .i64 n (Z - 1) == 0) = true := by rw [hand]; simpa using c3
        clear hB c3 hand
        go_enter Try.func22, Try.ntmps22
        go_wp2
        go_ret
        exact ⟨ret_bool HB.out.symm, (Below.refl _ _).alloc (Nat.le_refl _) _⟩
      · have HB := Lib.hid (show fitsB bits zeros n = false by rw [hB]; simp [c3])
        have c3' : (Go.bits .and .i64 n (Z - 1) == 0) = false := by rw [hand]; simpa using c3
        clear hB c3 hand
        go_enter Try.func22, Try.ntmps22
        go_wp2
        go_ret
        exact ⟨ret_bool HB.out.symm, (Below.refl _ _).alloc (Nat.le_refl _) _⟩
    · have HB := Lib.hid (show fitsB bits zeros n = false by rw [hB]; simp [c2])
      clear hB hand
      go_enter Try.func22, Try.ntmps22
      go_wp2
      go_ret
      exact ⟨ret_bool HB.out.symm, (Below.refl _ _).alloc (Nat.le_refl _) _⟩
  · have HB := Lib.hid (show fitsB bits zeros n = false by rw [hB]; simp [c1])
    clear hB hand
    go_enter Try.func22, Try.ntmps22
    go_wp2
    go_ret
    exact ⟨ret_bool HB.out.symm, (Below.refl _ _).alloc (Nat.le_refl _) _⟩

/-! ### The same at numbers that are written out -/
theorem encoded_at (bits zeros : Nat) (B Z : Int) (g len cap : Nat) (fs : List Fd) (n : Int) (w : World) (hB : (bits : Int) = B) (hZ : (zeros : Int) = Z) (hl : fs.length = len) (hf : FieldsAt w g fs) (hb : Fine fs) :
    Calls Try.prog 23 #[.agg #[.int .i64 B, .int .i64 Z, .slice (some ⟨g, 0, none⟩) len cap], .int .i64 n] w fun e w' => e = .returned (.int .u32 (encL n fs 0)) ∧ Below w.heap.size w w' := by
  subst hB hZ hl; exact encoded_any bits zeros g cap fs n w hf hb
theorem decoded_at (bits zeros : Nat) (B Z : Int) (g len cap : Nat) (fs : List Fd) (v : Int) (w : World) (hB : (bits : Int) = B) (hZ : (zeros : Int) = Z) (hl : fs.length = len) (h1 : 1 ≤ bits) (h2 : bits ≤ 60) (hf : FieldsAt w g fs) (hb : Fine fs) :
    Calls Try.prog 16 #[.agg #[.int .i64 B, .int .i64 Z, .slice (some ⟨g, 0, none⟩) len cap], .int .u32 v] w fun e w' => e = .returned (.int .i64 (decV bits fs v)) ∧ Below w.heap.size w w' := by
  subst hB hZ hl; exact decoded_any bits zeros g cap fs v w h1 h2 hf hb
theorem mask_at (bits zeros : Nat) (B Z : Int) (g len cap : Nat) (fs : List Fd) (w : World) (hB : (bits : Int) = B) (hZ : (zeros : Int) = Z) (hl : fs.length = len) (hf : FieldsAt w g fs) (hb : Fine fs) :
    Calls Try.prog 17 #[.agg #[.int .i64 B, .int .i64 Z, .slice (some ⟨g, 0, none⟩) len cap]] w fun e w' => e = .returned (.int .u32 (maskL fs 0)) ∧ Below w.heap.size w w' := by
  subst hB hZ hl; exact mask_any bits zeros g cap fs w hf hb
theorem fits_at (bits zeros : Nat) (B Z : Int) (v : Value) (n : Int) (w : World) (hB : (bits : Int) = B) (hZ : (zeros : Int) = Z) (h1 : 1 ≤ bits) (h2 : bits ≤ 40) (h3 : zeros ≤ 40) :
    Calls Try.prog 22 #[.agg #[.int .i64 B, .int .i64 Z, v], .int .i64 n] w fun e w' => e = .returned (.bool (fitsB bits zeros n)) ∧ Below w.heap.size w w' := by
  subst hB hZ; exact fits_any bits zeros v n w h1 h2 h3
end Go.Proofs.Ytdophgcjlckpiaa
