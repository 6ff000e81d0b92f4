/-
  DERIVED. GIVEN WITH THE SEED: THE CARDS: each row of YtkjlddiglkpbhaaDoorRows.lean that lists a variable, with what it lists TIED to the program's text (the seventh form; the later family's looks); each row that meets fmt, with fmt's text TOLD by the authors' own Lean function (tested against real Go, not proved from fmt's source: count such statements apart). THE CARD IS WHAT COUNTS. Prove the row's statement (the work); the ties are given (YtkjlddiglkpbhaaDoorTie.lean); close each card by the builder's one call (the guide's Derived/Test/ToyasCard.lean, 'card_holds'). Laid BY PROGRAM, IN A SANDBOX (cutbox-door.mjs). By AI agents, Wed Nov 11 2026. No macro, syntax, notation, axiom, sorry.
-/
import Derived.Test.YtkjlddiglkpbhaaDoorRows
import GoSem.ClaimSeven
namespace Go.Proofs.YtkjlddiglkpbhaaDoor
namespace Rows

/-- THE TIED CARD OF 'laws.FnShiftConst'. -/
def fnShiftConstCard : Claim7 := { stood := { row := fnShiftConstRow, standIns := [], harness := (true, "2bd9c98667dc6d0706fe7c3b9bd3acd19b9188acd829f214c82a32fd00ebae5d"), looks := false }, kinds := [], alts := [], laidByText := true, laidKinds := [.data], laidTests := true, laidLooks := .later }
def FnShiftConstCardSaid : Prop := Claim7.holds Tryd.pinned (.plain (OpenSpec.ofChange fnShiftConstSpec)) fnShiftConstCard

/-- THE SECOND FORM's CARD OF 'laws.FnShiftConst'. -/
def fnShiftConstUptoCard : Claim7 := { stood := { row := fnShiftConstUptoRow, standIns := [], harness := (true, "2bd9c98667dc6d0706fe7c3b9bd3acd19b9188acd829f214c82a32fd00ebae5d"), looks := false }, kinds := [], alts := [], laidByText := true, laidKinds := [.data], laidTests := true, laidLooks := .later }
def FnShiftConstUptoCardSaid : Prop := Claim7.holds Tryd.pinned (.plain (OpenSpec.upto fnShiftConstSpec)) fnShiftConstUptoCard
end Rows
end Go.Proofs.YtkjlddiglkpbhaaDoor
