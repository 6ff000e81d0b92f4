/-
  The operands' encodings and impl.VectorType, walked. Condition: the look-ups of the listed map answer, in the world of the call and in every later one.
-/
import Derived.Test.YtdecplcmcoglcaaDoorProg
import Derived.Test.YtdecplcmcoglcaaDoorBits
import Derived.Test.YtdecplcmcoglcaaDoorVecMap
import Derived.WalkKit
import Derived.WalkSpells
import Derived.WalkLawsBesides
import Derived.RegionTactic
import Derived.Lib.Hide
import Derived.Below
namespace Go.Proofs.YtdecplcmcoglcaaDoor
open Go Go.RowKit
set_option linter.unusedVariables false
set_option linter.unusedSimpArgs false

/-- The map's cell, and its look-ups in every later world. -/
structure Looks (W : World) (bm : Nat) : Prop where
  cell : W.cell? ⟨0, 0, none⟩ = some (.map (some bm))
  pos : 0 < W.heap.size
  look : ∀ wr, Below W.heap.size W wr → ∀ i : Nat, i < 15 → ∃ s, (Instr.lookup 41 (.map (some bm)) (.int .i64 (65536 + (i : Int))) true).run Tryd.prog wr = .ok (.tuple #[.agg #[.int .u32 (encs.getD i 0), .string s], .bool true]) wr

theorem encode_any (W : World) (bm : Nat) (hL : Looks W bm) (w : World) (hb : Below W.heap.size W w) (so : Int) (i : Nat) (hi : i < 15) (hso : 65536 + (i : Int) = so) :
    Calls Tryd.prog 9 #[.int .i64 so] w fun e w' => e = .returned (.int .u32 (encs.getD i 0)) ∧ Below W.heap.size W w' := by
  obtain ⟨s, hrun⟩ := hL.look w hb i hi
  have hc : w.cell? ⟨0, 0, none⟩ = some (.map (some bm)) := (hb.cell (p := ⟨0, 0, none⟩) hL.pos).trans hL.cell
  rw [hso] at hrun
  have l1 : 65536 ≤ so := by omega
  have l2 : so < 65551 := by omega
  have hsz := hb.size
  clear hL hso
  generalize encs.getD i 0 = v at *
  go_enter Tryd.func9, Tryd.ntmps9
  go_wp2
  go_ret
  exact ⟨rfl, hb.alloc hsz _⟩

def vt (p3 p2 p0 p1 : Int) : Int := wrap64 (bits .or .u32 (bits .or .u32 (bits .or .u32 (p3 * 128 % 4294967296) (p2 * 64 % 4294967296)) (p0 * 8 % 4294967296)) p1)
/-- The type of a vector: width a, group g, tail b, mask c. -/
def vtN (a g b c : Nat) : Int := vt (encs.getD c 0) (encs.getD (2 + b) 0) (encs.getD (11 + a) 0) (encs.getD (4 + g) 0)
/-- What the law asks, up to the third part of the register group. -/
theorem vec_low : ∀ a, a < 4 → ∀ g, g < 4 → ∀ b, b < 2 → ∀ c, c < 2 → vtN a g b c = bits .or .i64 (bits .or .i64 (bits .or .i64 (g : Int) ((a : Int) * 8)) ((1 - (b : Int)) * 64)) ((1 - (c : Int)) * 128) := by
  unfold vtN vt; decide +kernel
theorem vec_high : ∀ a, a < 4 → ∀ g, g < 7 → 3 < g → ∀ b, b < 2 → ∀ c, c < 2 → vtN a g b c = bits .or .i64 (bits .or .i64 (bits .or .i64 (11 - (g : Int)) ((a : Int) * 8)) ((1 - (b : Int)) * 64)) ((1 - (c : Int)) * 128) := by
  unfold vtN vt; decide +kernel

theorem vec_any (W : World) (bm : Nat) (hL : Looks W bm) (w : World) (hb : Below W.heap.size W w) (x0 x1 x2 x3 : Int) (a g b c : Nat) (ha : a < 4) (hg : g < 7) (hb2 : b < 2) (hc2 : c < 2)
    (h0 : 65547 + (a : Int) = x0) (h1 : 65540 + (g : Int) = x1) (h2 : 65538 + (b : Int) = x2) (h3 : 65536 + (c : Int) = x3) :
    Calls Tryd.prog 6 #[.int .i64 x0, .int .i64 x1, .int .i64 x2, .int .i64 x3] w fun e w' => e = .returned (.tuple #[.int .i64 (vtN a g b c), .nilIface]) ∧ Below W.heap.size W w' := by
  have E3 := Lib.hid (fun w hb => encode_any W bm hL w hb x3 c (by omega) (by omega))
  have E2 := Lib.hid (fun w hb => encode_any W bm hL w hb x2 (2 + b) (by omega) (by omega))
  have E0 := Lib.hid (fun w hb => encode_any W bm hL w hb x0 (11 + a) (by omega) (by omega))
  have E1 := Lib.hid (fun w hb => encode_any W bm hL w hb x1 (4 + g) (by omega) (by omega))
  have l0 : 65547 ≤ x0 := by omega
  have l0' : x0 ≤ 65550 := by omega
  have l1 : 65540 ≤ x1 := by omega
  have l1' : x1 ≤ 65546 := by omega
  have l2 : x2 = 65538 ∨ x2 = 65539 := by omega
  have l3 : x3 = 65536 ∨ x3 = 65537 := by omega
  clear h0 h1 h2 h3 hL
  unfold vtN
  generalize encs.getD c 0 = p3 at *
  generalize encs.getD (2 + b) 0 = p2 at *
  generalize encs.getD (11 + a) 0 = p0 at *
  generalize encs.getD (4 + g) 0 = p1 at *
  rcases l2 with rfl | rfl <;> rcases l3 with rfl | rfl
  all_goals
    go_enter Tryd.func6, Tryd.ntmps6
    go_wp2_with fail
    refine (E3.out _ hb).mono ?_
    rintro e w1 ⟨rfl, hb1⟩
    go_wp2_with fail
    refine (E2.out _ hb1).mono ?_
    rintro e w2 ⟨rfl, hb2⟩
    go_wp2_with fail
    refine (E0.out _ hb2).mono ?_
    rintro e w3 ⟨rfl, hb3⟩
    go_wp2_with fail
    refine (E1.out _ hb3).mono ?_
    rintro e w4 ⟨rfl, hb4⟩
    go_wp2_with fail
    go_ret2
    exact ⟨rfl, hb4⟩

theorem vectorType_any (W : World) (bm : Nat) (hL : Looks W bm) (w : World) (hb : Below W.heap.size W w) (y0 y1 y2 y3 : Int) (a g b c : Nat) (ha : a < 4) (hg : g < 7) (hb2 : b < 2) (hc2 : c < 2)
    (h0 : (a : Int) = y0) (h1 : (g : Int) = y1) (h2 : (b : Int) = y2) (h3 : (c : Int) = y3) :
    Calls Tryd.prog 5 #[.int .i64 y0, .int .i64 y1, .int .i64 y2, .int .i64 y3] w fun e w' => e = .returned (.tuple #[.int .i64 (vtN a g b c), .bool true]) ∧ Below W.heap.size W w' := by
  have E := Lib.hid (vec_any W bm hL w hb (65547 + y0) (65540 + y1) (65538 + y2) (65536 + y3) a g b c ha hg hb2 hc2 (by omega) (by omega) (by omega) (by omega))
  have l0 : 0 ≤ y0 := by omega
  have l0' : y0 ≤ 3 := by omega
  have l1 : 0 ≤ y1 := by omega
  have l1' : y1 ≤ 6 := by omega
  have l2 : 0 ≤ y2 := by omega
  have l2' : y2 ≤ 1 := by omega
  have l3 : 0 ≤ y3 := by omega
  have l3' : y3 ≤ 1 := by omega
  clear h0 h1 h2 h3 hL
  generalize vtN a g b c = v at *
  go_enter Tryd.func5, Tryd.ntmps5
  go_wp2_with (first | (go_at_call 6; refine (E.out).mono ?_; rintro e w1 ⟨rfl, hb1⟩) | go_in)
  go_region
  go_wp2
  go_ret2
  exact ⟨rfl, hb1.drew⟩

theorem place_any (n k : Int) (w : World) (h1 : 1 ≤ k) (h2 : k ≤ 1000) :
    Calls Tryd.prog 4 #[.int .i64 n, .int .i64 k] w fun e w' => e = .returned (.int .i64 (n % k)) ∧ w = w' := by
  have hk : (k == 0) = false := by simp; omega
  go_enter Tryd.func4, Tryd.ntmps4
  go_wp2
  go_ret
  exact ⟨ret_int (place_eq n k h1 (by omega)), rfl⟩
end Go.Proofs.YtdecplcmcoglcaaDoor
