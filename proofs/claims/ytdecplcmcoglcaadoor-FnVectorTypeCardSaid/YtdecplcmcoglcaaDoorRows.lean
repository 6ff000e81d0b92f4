/-
  NARROWER THAN 'FOR EVERY INPUT', by the rows' own cells (each row's printed sentence says how): FnVectorType: laid.
  DERIVED. THE GIVEN ROWS OF THIS SEAT. 1 by the template 'for every input the law returns true; each argument reads behind the call as it read before'; 0 by the template 'total and deterministic' (their statements: YtdecplcmcoglcaaDoorTotals.lean).
  GIVEN WITH THE SEED: the statements are not yours to turn. If you find one false, say at which input.
  Laid BY PROGRAM, IN A SANDBOX (cutbox-rows.mjs): the forced cells as the released guide's own fill.sh prints them over the translation 864c68ba409e9fa2… (all of the seat's roots in one cut). By AI agents, Wed Nov 11 2026. No macro, syntax, notation, axiom, sorry.
-/
import Derived.Test.YtdecplcmcoglcaaDoorChecked
import GoSem.Claim
import GoSem.ClaimJoined
import GoSem.ClaimMapViews
import Derived.JoinedTies
import Derived.KernelRfl
namespace Go.Proofs.YtdecplcmcoglcaaDoor
/- THE CELL 'sum', in the pinned program and in every row, IS THE sha256 OF THE DUMP (.gsa) THAT YtdecplcmcoglcaaDoorProg.lean LOADS. Nothing in Lean hashes anything: it is a label: what it is worth is what the hold of that sum in a sandbox is worth. -/
noncomputable def Tryd.pinned : Pinned := { name := "ytdecplcmcoglcaadoor", sum := "864c68ba409e9fa2c4732bb774765e41dc6abc36dd43bd8a66f8c47078f652b7", checked := Tryd.checked }
namespace Rows
def none {H : Type} : Left H := { results := [], args := [] }

/- WHAT THE LISTED PACKAGE-LEVEL VARIABLES READ AS WHEN THE CALL BEGINS. Each datum BY PROGRAM (the guide's laid-datum.mjs) off the statement by which the dump's own 'gosem.cut.vars' lays the variable. In a bare row this is a premise. The card (YtdecplcmcoglcaaDoorCards.lean) ties it to the program's text. -/
def laid_inlaywork_pub_riscvimm_specialOperands {H : Type} : DataW H := .map [(.int .i64 65536, .agg [.lit (.int .u32 1), .lit (.string [77, 65])]), (.int .i64 65537, .agg [.lit (.int .u32 0), .lit (.string [77, 85])]), (.int .i64 65538, .agg [.lit (.int .u32 1), .lit (.string [84, 65])]), (.int .i64 65539, .agg [.lit (.int .u32 0), .lit (.string [84, 85])]), (.int .i64 65540, .agg [.lit (.int .u32 0), .lit (.string [77, 49])]), (.int .i64 65541, .agg [.lit (.int .u32 1), .lit (.string [77, 50])]), (.int .i64 65542, .agg [.lit (.int .u32 2), .lit (.string [77, 52])]), (.int .i64 65543, .agg [.lit (.int .u32 3), .lit (.string [77, 56])]), (.int .i64 65544, .agg [.lit (.int .u32 7), .lit (.string [77, 70, 50])]), (.int .i64 65545, .agg [.lit (.int .u32 6), .lit (.string [77, 70, 52])]), (.int .i64 65546, .agg [.lit (.int .u32 5), .lit (.string [77, 70, 56])]), (.int .i64 65547, .agg [.lit (.int .u32 0), .lit (.string [69, 56])]), (.int .i64 65548, .agg [.lit (.int .u32 1), .lit (.string [69, 49, 54])]), (.int .i64 65549, .agg [.lit (.int .u32 2), .lit (.string [69, 51, 50])]), (.int .i64 65550, .agg [.lit (.int .u32 3), .lit (.string [69, 54, 52])]), (.int .i64 69648, .agg [.lit (.int .u32 1), .lit (.string [87])]), (.int .i64 69649, .agg [.lit (.int .u32 2), .lit (.string [82])]), (.int .i64 69650, .agg [.lit (.int .u32 3), .lit (.string [82, 87])]), (.int .i64 69651, .agg [.lit (.int .u32 4), .lit (.string [79])]), (.int .i64 69652, .agg [.lit (.int .u32 5), .lit (.string [79, 87])]), (.int .i64 69653, .agg [.lit (.int .u32 6), .lit (.string [79, 82])]), (.int .i64 69654, .agg [.lit (.int .u32 7), .lit (.string [79, 82, 87])]), (.int .i64 69655, .agg [.lit (.int .u32 8), .lit (.string [73])]), (.int .i64 69656, .agg [.lit (.int .u32 9), .lit (.string [73, 87])]), (.int .i64 69657, .agg [.lit (.int .u32 10), .lit (.string [73, 82])]), (.int .i64 69658, .agg [.lit (.int .u32 11), .lit (.string [73, 82, 87])]), (.int .i64 69659, .agg [.lit (.int .u32 12), .lit (.string [73, 79])]), (.int .i64 69660, .agg [.lit (.int .u32 13), .lit (.string [73, 79, 87])]), (.int .i64 69661, .agg [.lit (.int .u32 14), .lit (.string [73, 79, 82])]), (.int .i64 69662, .agg [.lit (.int .u32 15), .lit (.string [73, 79, 82, 87])])]

/-- 'laws.FnVectorType': WHATEVER THE INPUT: true; the input reads as it did. -/
def fnVectorTypeSpec : ChangeSpec := { name := "fnVectorType", fn := fun _ => fun
  | [d1, d2, d3, d4] => { results := [.lit (.bool true)], args := [d1, d2, d3, d4] }
  | _ => none }
def fnVectorTypeRow : OpenClaim := { program := "ytdecplcmcoglcaadoor", sum := "864c68ba409e9fa2c4732bb774765e41dc6abc36dd43bd8a66f8c47078f652b7", func := "inlaywork/laws.FnVectorType", spec := "fnVectorType", named := ["inlaywork/pub/riscvimm.specialOperands"], apart := false, laid := [("inlaywork/pub/riscvimm.specialOperands", laid_inlaywork_pub_riscvimm_specialOperands)] }
def FnVectorTypeSaid : Prop := fnVectorTypeRow.holds Tryd.pinned (OpenSpec.ofChange fnVectorTypeSpec)

/-- ITS FALSE NEIGHBOUR: 'it returns false'. Refute it at one input. -/
def fnVectorTypeWrong : ChangeSpec := { name := "fnVectorType", fn := fun _ => fun
  | [d1, d2, d3, d4] => { results := [.lit (.bool false)], args := [d1, d2, d3, d4] }
  | _ => none }
def FnVectorTypeWrongFalsely : Prop := fnVectorTypeRow.holds Tryd.pinned (OpenSpec.ofChange fnVectorTypeWrong)

/- THE SECOND FORM. 'bulk': how many values and letters a reading holds, each counted each time it is reached (what is shared counts as often as it is met; a slice's spare places count too). A statement '..UptoSaid' is the law's where the arguments, and the package variables that the reading takes, are together of bulk at most 1048576: NARROWER than '..Said'. Prove '..Said' where nothing that the law and all that it calls make is longer than what came in: it says more and counts as full. Else prove '..UptoSaid'. A law counts once. -/
mutual
def uptoBulk {H : Type} : DataW H → Nat
  | .lit (.string bytes) => bytes.length + 1
  | .lit _ => 1
  | .nil => 1
  | .ptr d => uptoBulk d + 1
  | .slice elems spare => uptoBulkAll elems + uptoBulkAll spare + 1
  | .agg parts => uptoBulkAll parts + 1
  | .iface _ d => uptoBulk d + 1
  | .map entries => uptoBulkEntries entries + 1
  | .held _ => 1
def uptoBulkAll {H : Type} : List (DataW H) → Nat
  | [] => 0
  | d :: r => uptoBulk d + uptoBulkAll r
def uptoBulkEntries {H : Type} : List (Lit × DataW H) → Nat
  | [] => 0
  | x :: r => uptoBulkEntry x + uptoBulkEntries r
def uptoBulkEntry {H : Type} : Lit × DataW H → Nat
  | (.string bytes, d) => bytes.length + uptoBulk d + 1
  | (_, d) => uptoBulk d + 1
 end
def uptoSmall : (H : Type) → List (DataW H) → Bool := fun _ ds => decide (uptoBulkAll ds ≤ 1048576)
def OpenSpec.upto (s : _root_.Go.ChangeSpec) : _root_.Go.OpenSpec := { _root_.Go.OpenSpec.ofChange s with cond := some uptoSmall }

/-- 'laws.FnVectorType', WHERE WHAT IT READS IS OF BULK AT MOST 1048576: true; the input reads as it did. -/
def fnVectorTypeUptoRow : OpenClaim := { program := "ytdecplcmcoglcaadoor", sum := "864c68ba409e9fa2c4732bb774765e41dc6abc36dd43bd8a66f8c47078f652b7", func := "inlaywork/laws.FnVectorType", spec := "fnVectorType", named := ["inlaywork/pub/riscvimm.specialOperands"], apart := false, laid := [("inlaywork/pub/riscvimm.specialOperands", laid_inlaywork_pub_riscvimm_specialOperands)], narrowed := true }
def FnVectorTypeUptoSaid : Prop := fnVectorTypeUptoRow.holds Tryd.pinned (OpenSpec.upto fnVectorTypeSpec)

end Rows
end Go.Proofs.YtdecplcmcoglcaaDoor
