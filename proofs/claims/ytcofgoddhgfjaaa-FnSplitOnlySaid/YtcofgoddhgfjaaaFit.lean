/-
  fit, walked: it returns a number that fits the format. Conditions: the format has 1 to 40 bits and at most 40 zeros.
-/
import Derived.Test.YtcofgoddhgfjaaaProg
import Derived.Test.YtcofgoddhgfjaaaFields
import Derived.WalkKit
import Derived.WalkSpells
import Derived.WalkLawsBesides
import Derived.RegionTactic
import Derived.Lib.Hide
import Derived.Below
namespace Go.Proofs.Ytcofgoddhgfjaaa
open Go Go.RowKit
set_option linter.unusedVariables false
set_option linter.unusedSimpArgs false

/-- The fields lie in the row of block g. -/
def FieldsAt (w : World) (g : Nat) (fs : List Fd) : Prop := g < w.heap.size ∧ ∀ i, (h : i < fs.length) →
  w.cell? ⟨g, i * 3, none⟩ = some (.int .i64 fs[i].f) ∧ w.cell? ⟨g, i * 3 + 1, none⟩ = some (.int .i64 fs[i].t) ∧ w.cell? ⟨g, i * 3 + 2, none⟩ = some (.int .i64 fs[i].b)
theorem FieldsAt.below {w w' : World} {g B : Nat} {fs : List Fd} (h : FieldsAt w g fs) (hB : w.heap.size ≤ B) (hb : Below B w w') : FieldsAt w' g fs := by
  refine ⟨Nat.lt_of_lt_of_le h.1 hb.size, fun i hi => ?_⟩
  obtain ⟨h1, h2, h3⟩ := h.2 i hi
  have hg : g < B := Nat.lt_of_lt_of_le h.1 hB
  exact ⟨(hb.cell (p := ⟨g, _, none⟩) hg).trans h1, (hb.cell (p := ⟨g, _, none⟩) hg).trans h2, (hb.cell (p := ⟨g, _, none⟩) hg).trans h3⟩
def flat : List Fd → List Value
  | [] => []
  | F :: fs => .int .i64 F.f :: .int .i64 F.t :: .int .i64 F.b :: flat fs
theorem flat_get (fs : List Fd) : ∀ i, (h : i < fs.length) → (flat fs)[i * 3]? = some (.int .i64 fs[i].f) ∧ (flat fs)[i * 3 + 1]? = some (.int .i64 fs[i].t) ∧ (flat fs)[i * 3 + 2]? = some (.int .i64 fs[i].b) := by
  induction fs with
  | nil => intro i h; simp at h
  | cons F fs ih =>
    intro i h
    match i, h with
    | 0, _ => simp [flat]
    | i + 1, h =>
      have := ih i (by simpa using h)
      rw [show (i + 1) * 3 = i * 3 + 3 by omega]
      simpa [flat] using this
theorem fieldsAt_new (w : World) (fs : List Fd) (T : TypeId) (n : Nat) (hn : n = w.heap.size) : FieldsAt (w.alloc (.cells (flat fs).toArray T)) n fs := by
  subst hn
  refine ⟨by simp, fun i hi => ?_⟩
  obtain ⟨h1, h2, h3⟩ := flat_get fs i hi
  rw [World.cell?_alloc_new, World.cell?_alloc_new, World.cell?_alloc_new]
  simpa using ⟨h1, h2, h3⟩
/-- At most ten fields, within the immediate's and the instruction's bits. -/
def Fine (fs : List Fd) : Prop := fs.length ≤ 10 ∧ ∀ x ∈ fs, x.f + x.b ≤ 60 ∧ x.t + x.b ≤ 32

theorem fit_any (bits zeros : Nat) (v : Value) (n : Int) (w : World) (h1 : 1 ≤ bits) (h2 : bits ≤ 40) (h3 : zeros ≤ 40) :
    Calls Try.prog 11 #[.agg #[.int .i64 bits, .int .i64 zeros, v], .int .i64 n] w fun e w' => e = .returned (.int .i64 (fitv bits zeros n)) ∧ Below w.heap.size w w' := by
  obtain ⟨K, hK⟩ : ∃ K : Int, (2 : Int) ^ bits = K := ⟨_, rfl⟩
  have hle : K ≤ 1099511627776 := hK ▸ pow_le_pow bits 40 h2
  have hge : 1 ≤ K := by have := two_pow_pos bits; omega
  have hw : wrap64 (2 ^ bits) = K := by rw [hK]; exact IntWalk.wrap64_in _ ⟨by omega, by omega⟩
  have HF := Lib.hid (fit_eq bits zeros n _ h1 h2 h3 hK hle)
  clear hK
  go_enter Try.func11, Try.ntmps11
  go_wp2
  clear hw
  go_region
  go_wp2
  go_ret
  exact ⟨ret_int HF.out, ((Below.refl _ _).alloc (Nat.le_refl _) _).drew⟩

theorem fit_at (bits zeros : Nat) (B Z : Int) (v : Value) (n : Int) (w : World) (hB : (bits : Int) = B) (hZ : (zeros : Int) = Z) (h1 : 1 ≤ bits) (h2 : bits ≤ 40) (h3 : zeros ≤ 40) :
    Calls Try.prog 11 #[.agg #[.int .i64 B, .int .i64 Z, v], .int .i64 n] w fun e w' => e = .returned (.int .i64 (fitv bits zeros n)) ∧ Below w.heap.size w w' := by
  subst hB hZ; exact fit_any bits zeros v n w h1 h2 h3

/-- A format lies in block p: its bits, its zeros and its fields, whose row lies in block g. -/
structure FmtAt (w : World) (p g : Nat) (B Z : Int) (fs : List Fd) (len cap : Nat) : Prop where
  lt : p < w.heap.size
  c0 : w.cell? ⟨p, 0, none⟩ = some (.int .i64 B)
  c1 : w.cell? ⟨p, 1, none⟩ = some (.int .i64 Z)
  c2 : w.cell? ⟨p, 2, none⟩ = some (.slice (some ⟨g, 0, none⟩) len cap)
  flds : FieldsAt w g fs
theorem FmtAt.below {w w' : World} {p g n : Nat} {B Z : Int} {fs : List Fd} {len cap : Nat} (h : FmtAt w p g B Z fs len cap) (hn : w.heap.size ≤ n) (hb : Below n w w') : FmtAt w' p g B Z fs len cap :=
  have hp : p < n := Nat.lt_of_lt_of_le h.lt hn
  ⟨Nat.lt_of_lt_of_le h.lt hb.size, (hb.cell (p := ⟨p, _, none⟩) hp).trans h.c0, (hb.cell (p := ⟨p, _, none⟩) hp).trans h.c1, (hb.cell (p := ⟨p, _, none⟩) hp).trans h.c2, h.flds.below hn hb⟩
theorem FmtAt.drew {w : World} {p g : Nat} {B Z : Int} {fs : List Fd} {len cap : Nat} (h : FmtAt w p g B Z fs len cap) : FmtAt w.drew p g B Z fs len cap := ⟨h.lt, h.c0, h.c1, h.c2, h.flds⟩
theorem FmtAt.new {w : World} {g : Nat} (B Z : Int) {fs : List Fd} (len cap : Nat) (T : TypeId) (h : FieldsAt w g fs) : FmtAt (w.alloc (.cells #[.int .i64 B, .int .i64 Z, .slice (some ⟨g, 0, none⟩) len cap] T)) w.heap.size g B Z fs len cap :=
  ⟨by simp, World.cell?_alloc_new w _ _ 0, World.cell?_alloc_new w _ _ 1, World.cell?_alloc_new w _ _ 2, h.below (Nat.le_refl _) ((Below.refl _ _).alloc (Nat.le_refl _) _)⟩

theorem take_snoc (fs : List Fd) (k : Nat) (hk : k < fs.length) (F : Fd) (h : fs[k] = F) : fs.take (k + 1) = fs.take k ++ [F] := by
  rw [List.take_succ_eq_append_getElem hk, h]

end Go.Proofs.Ytcofgoddhgfjaaa
