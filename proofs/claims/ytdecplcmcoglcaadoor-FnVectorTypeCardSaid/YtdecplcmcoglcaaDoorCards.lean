/-
  DERIVED. GIVEN WITH THE SEED: THE CARDS: each row of YtdecplcmcoglcaaDoorRows.lean that lists a variable, with what it lists TIED to the program's text (the seventh form; the later family's looks); each row that meets fmt, with fmt's text TOLD by the authors' own Lean function (tested against real Go, not proved from fmt's source: count such statements apart). THE CARD IS WHAT COUNTS. Prove the row's statement (the work); the ties are given (YtdecplcmcoglcaaDoorTie.lean); close each card by the builder's one call (the guide's Derived/Test/ToyasCard.lean, 'card_holds'). Laid BY PROGRAM, IN A SANDBOX (cutbox-door.mjs). By AI agents, Wed Nov 11 2026. No macro, syntax, notation, axiom, sorry.
-/
import Derived.Test.YtdecplcmcoglcaaDoorRows
import GoSem.ClaimSeven
namespace Go.Proofs.YtdecplcmcoglcaaDoor
namespace Rows

/-- THE TIED CARD OF 'laws.FnVectorType'. -/
def fnVectorTypeCard : Claim7 := { stood := { row := fnVectorTypeRow, standIns := [], harness := (true, "bed2b694b29cf4489096bd6eee72f7cbd0c5e0662222487098a5b833e118d627"), looks := false }, kinds := [], alts := [], laidByText := true, laidKinds := [.mapped], laidTests := true, laidLooks := .later }
def FnVectorTypeCardSaid : Prop := Claim7.holds Tryd.pinned (.plain (OpenSpec.ofChange fnVectorTypeSpec)) fnVectorTypeCard

/-- THE SECOND FORM's CARD OF 'laws.FnVectorType'. -/
def fnVectorTypeUptoCard : Claim7 := { stood := { row := fnVectorTypeUptoRow, standIns := [], harness := (true, "bed2b694b29cf4489096bd6eee72f7cbd0c5e0662222487098a5b833e118d627"), looks := false }, kinds := [], alts := [], laidByText := true, laidKinds := [.mapped], laidTests := true, laidLooks := .later }
def FnVectorTypeUptoCardSaid : Prop := Claim7.holds Tryd.pinned (.plain (OpenSpec.upto fnVectorTypeSpec)) fnVectorTypeUptoCard
end Rows
end Go.Proofs.YtdecplcmcoglcaaDoor
