/-
  What the listed map gives: each look-up of a vector operand, in the world of the call and in every later one, answers with the operand's encoding. Condition: the row's list is met.
-/
import Derived.Test.YtdecplcmcoglcaaDoorRows
import Derived.ProofKit
import Derived.LaidMore
import Derived.OpenShut
import Derived.Stop.Joined
import Derived.Maps.Keyed
import Derived.Below
namespace Go.Proofs.YtdecplcmcoglcaaDoor
open Go.ChangeShapes Go.WideShapes Go.ChangeAt Go.WideElems Go.RowKit
set_option linter.unusedVariables false
set_option linter.unusedSimpArgs false

theorem gOps : Tryd.prog.globalNamed "inlaywork/pub/riscvimm.specialOperands" = some 0 := by kernel_rfl
theorem tOps : (Tryd.prog.globals[0]?).map (·.type) = some 41 := by kernel_rfl
theorem law : Maps.Keyed Tryd.prog 32 := Maps.int_keyed Tryd.underlying32
theorem zero39 (w : World) : (zeroValue 39).run Tryd.prog w = .ok (.agg #[.int .u32 0, .string ⟨#[]⟩]) w := by kernel_rfl

/-- The encodings of the operands from 65536 on. -/
def encs : List Int := [1, 0, 1, 0, 0, 1, 2, 3, 7, 6, 5, 0, 1, 2, 3]

/-- An element of the map: its first part is known. -/
theorem elem_pair {H : Type} {enc : TypeId × Value → H} {W : World} {base : Nat} {sp : Nat → Bool} {held : Bool} {n : Nat} {v : Value} {y : DataW H × List MemPlace} {a : Int} {bs : List UInt8}
    (h : elemAt enc Tryd.prog W base sp held n 39 v = some y) (hy : y.1 = .agg [.lit (.int .u32 a), .lit (.string bs)]) : ∃ s, v = .agg #[.int .u32 a, .string s] := by
  unfold elemAt at h
  split at h
  · rename_i hf
    have c39 : Tryd.prog.cellsOf 39 = 2 := by kernel_rfl
    have c34 : Tryd.prog.cellsOf 34 = 1 := by kernel_rfl
    have c9 : Tryd.prog.cellsOf 9 = 1 := by kernel_rfl
    obtain ⟨y0, y1, m, rfl, hl, h0, h1⟩ := trod_struct2 Tryd.underlying39 h
    rw [c39] at hl
    obtain ⟨x, e0, rfl, _⟩ := DataW.trod_int Tryd.underlying34 h0
    obtain ⟨s, e1, rfl, _⟩ := DataW.trod_string Tryd.underlying9 h1
    simp only [c34, c9] at e0 e1
    have hx : x = a := by
      have e := hy
      simp only [DataW.agg.injEq, List.cons.injEq, DataW.lit.injEq, Lit.int.injEq] at e
      exact e.1.2
    subst hx
    refine ⟨s, ?_⟩
    cases v with
    | agg cs =>
      obtain ⟨l⟩ := cs
      simp only [Value.cells] at hl e0 e1
      match l, hl with
      | [p, q], _ =>
        simp at e0 e1
        rw [e0, e1]
    | _ => simp [Value.formed, Tryd.underlying39] at hf
  · cases h

/-- The datum at each operand. -/
theorem datum_at {H : Type} : ∀ i : Nat, i < 15 → ∃ bs, (Rows.laid_inlaywork_pub_riscvimm_specialOperands : DataW H).atKey (.int .i64 (65536 + (i : Int))) .nil = .agg [.lit (.int .u32 (encs.getD i 0)), .lit (.string bs)] := by
  intro i hi
  match i, hi with
  | 0, _ => exact ⟨_, rfl⟩
  | 1, _ => exact ⟨_, rfl⟩
  | 2, _ => exact ⟨_, rfl⟩
  | 3, _ => exact ⟨_, rfl⟩
  | 4, _ => exact ⟨_, rfl⟩
  | 5, _ => exact ⟨_, rfl⟩
  | 6, _ => exact ⟨_, rfl⟩
  | 7, _ => exact ⟨_, rfl⟩
  | 8, _ => exact ⟨_, rfl⟩
  | 9, _ => exact ⟨_, rfl⟩
  | 10, _ => exact ⟨_, rfl⟩
  | 11, _ => exact ⟨_, rfl⟩
  | 12, _ => exact ⟨_, rfl⟩
  | 13, _ => exact ⟨_, rfl⟩
  | 14, _ => exact ⟨_, rfl⟩

theorem of_laid {W : World} (h : laidMetH Tryd.prog Rows.fnVectorTypeRow.laid W) : ∃ bm, W.cell? ⟨0, 0, none⟩ = some (.map (some bm)) ∧ 0 < W.heap.size ∧
    ∀ wr, Below W.heap.size W wr → ∀ i : Nat, i < 15 → ∃ s, (Instr.lookup 41 (.map (some bm)) (.int .i64 (65536 + (i : Int))) true).run Tryd.prog wr = .ok (.tuple #[.agg #[.int .u32 (encs.getD i 0), .string s], .bool true]) wr := by
  rw [MakeChecks.laidMetH_plain _ _ _ (by kernel_rfl)] at h
  obtain ⟨ps, ⟨g0, t0, cs0, f0, p0, q0, hg0, ht0, hv0, hd0, _, _⟩, _, _⟩ := h
  obtain rfl := Option.some.inj (gOps.symm.trans hg0)
  obtain rfl := Option.some.inj (tOps.symm.trans ht0)
  rcases open_map Tryd.underlying41 hd0 with ⟨_, hx⟩ | ⟨bm, es, clock, m, rfl, hcs, hb, _, F, hx⟩
  · simp [Rows.laid_inlaywork_pub_riscvimm_specialOperands] at hx
  simp only [Prod.mk.injEq] at hx
  have hcell : W.cell? ⟨0, 0, none⟩ = some (.map (some bm)) := by
    have := World.var?_cell hg0 hv0 0
    rw [Array.eq_one_of_toList hcs] at this
    simpa using this
  have hbm : bm < W.heap.size := (Array.getElem?_eq_some_iff.1 hb).1
  refine ⟨bm, hcell, World.block_lt_of_cell? W _ hcell, fun wr hB i hi => ?_⟩
  have hb' : wr.heap[bm]? = some (.map es clock) := by rw [hB.block bm hbm]; exact hb
  obtain ⟨bs, hd⟩ := datum_at i hi
  rcases Maps.fit_look true (w := wr) law Tryd.underlying41 (zero39 wr) hb' F (Maps.keyOf_int_mk Tryd.underlying32 (WalkArith.wf_i64 (n := 65536 + (i : Int)) ⟨by omega, by omega⟩)) with ⟨_, _, hat⟩ | ⟨e0, y, _, _, hrun, hR, hat, _⟩
  · have := hat .nil
    rw [← hx.1, hd] at this
    exact absurd this (by intro e; cases e)
  · have hy := hat .nil
    rw [← hx.1, hd] at hy
    obtain ⟨s, hv⟩ := elem_pair hR hy.symm
    refine ⟨s, ?_⟩
    rw [hv] at hrun
    exact hrun
end Go.Proofs.YtdecplcmcoglcaaDoor
