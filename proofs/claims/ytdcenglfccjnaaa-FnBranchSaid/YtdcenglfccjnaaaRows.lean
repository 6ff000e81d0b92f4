/-
  No cell of these rows narrows 'for every input' (looked for: loops, veiled, ifaces, maps, wideKeys, modest, calm, conditions, laid).
  DERIVED. THE GIVEN ROWS OF THIS SEAT. 7 by the template 'for every input the law returns true; each argument reads behind the call as it read before'; 0 by the template 'total and deterministic' (their statements: YtdcenglfccjnaaaTotals.lean).
  GIVEN WITH THE SEED: the statements are not yours to turn. If you find one false, say at which input.
  Laid BY PROGRAM, IN A SANDBOX (cutbox-rows.mjs): the forced cells as the released guide's own fill.sh prints them over the translation 07f2ecea67a5af14… (all of the seat's roots in one cut). By AI agents, Wed Nov 11 2026. No macro, syntax, notation, axiom, sorry.
-/
import Derived.Test.YtdcenglfccjnaaaChecked
import GoSem.Claim
import GoSem.ClaimJoined
import GoSem.ClaimMapViews
import Derived.JoinedTies
import Derived.KernelRfl
namespace Go.Proofs.Ytdcenglfccjnaaa
/- THE CELL 'sum', in the pinned program and in every row, IS THE sha256 OF THE DUMP (.gsa) THAT YtdcenglfccjnaaaProg.lean LOADS. Nothing in Lean hashes anything: it is a label: what it is worth is what the hold of that sum in a sandbox is worth. -/
noncomputable def Try.pinned : Pinned := { name := "ytdcenglfccjnaaa", sum := "07f2ecea67a5af141284edf7f216eb4427756d03f18128dd52293d9188f17e6e", checked := Try.checked }
namespace Rows
def none {H : Type} : Left H := { results := [], args := [] }

/-- 'laws.FnDecodeB': WHATEVER THE INPUT: true; the input reads as it did. -/
def fnDecodeBSpec : ChangeSpec := { name := "fnDecodeB", fn := fun _ => fun
  | [d] => { results := [.lit (.bool true)], args := [d] }
  | _ => none }
def fnDecodeBRow : OpenClaim := { program := "ytdcenglfccjnaaa", sum := "07f2ecea67a5af141284edf7f216eb4427756d03f18128dd52293d9188f17e6e", func := "inlaywork/laws.FnDecodeB", spec := "fnDecodeB", apart := false }
def FnDecodeBSaid : Prop := fnDecodeBRow.holds Try.pinned (OpenSpec.ofChange fnDecodeBSpec)

/-- ITS FALSE NEIGHBOUR: 'it returns false'. Refute it at one input. -/
def fnDecodeBWrong : ChangeSpec := { name := "fnDecodeB", fn := fun _ => fun
  | [d] => { results := [.lit (.bool false)], args := [d] }
  | _ => none }
def FnDecodeBWrongFalsely : Prop := fnDecodeBRow.holds Try.pinned (OpenSpec.ofChange fnDecodeBWrong)

/-- 'laws.FnDecodeJ': WHATEVER THE INPUT: true; the input reads as it did. -/
def fnDecodeJSpec : ChangeSpec := { name := "fnDecodeJ", fn := fun _ => fun
  | [d] => { results := [.lit (.bool true)], args := [d] }
  | _ => none }
def fnDecodeJRow : OpenClaim := { program := "ytdcenglfccjnaaa", sum := "07f2ecea67a5af141284edf7f216eb4427756d03f18128dd52293d9188f17e6e", func := "inlaywork/laws.FnDecodeJ", spec := "fnDecodeJ", apart := false }
def FnDecodeJSaid : Prop := fnDecodeJRow.holds Try.pinned (OpenSpec.ofChange fnDecodeJSpec)

/-- ITS FALSE NEIGHBOUR: 'it returns false'. Refute it at one input. -/
def fnDecodeJWrong : ChangeSpec := { name := "fnDecodeJ", fn := fun _ => fun
  | [d] => { results := [.lit (.bool false)], args := [d] }
  | _ => none }
def FnDecodeJWrongFalsely : Prop := fnDecodeJRow.holds Try.pinned (OpenSpec.ofChange fnDecodeJWrong)

/-- 'laws.FnDistinctB': WHATEVER THE INPUT: true; the input reads as it did. -/
def fnDistinctBSpec : ChangeSpec := { name := "fnDistinctB", fn := fun _ => fun
  | [d1, d2] => { results := [.lit (.bool true)], args := [d1, d2] }
  | _ => none }
def fnDistinctBRow : OpenClaim := { program := "ytdcenglfccjnaaa", sum := "07f2ecea67a5af141284edf7f216eb4427756d03f18128dd52293d9188f17e6e", func := "inlaywork/laws.FnDistinctB", spec := "fnDistinctB", apart := false }
def FnDistinctBSaid : Prop := fnDistinctBRow.holds Try.pinned (OpenSpec.ofChange fnDistinctBSpec)

/-- ITS FALSE NEIGHBOUR: 'it returns false'. Refute it at one input. -/
def fnDistinctBWrong : ChangeSpec := { name := "fnDistinctB", fn := fun _ => fun
  | [d1, d2] => { results := [.lit (.bool false)], args := [d1, d2] }
  | _ => none }
def FnDistinctBWrongFalsely : Prop := fnDistinctBRow.holds Try.pinned (OpenSpec.ofChange fnDistinctBWrong)

/-- 'laws.FnDistinctJ': WHATEVER THE INPUT: true; the input reads as it did. -/
def fnDistinctJSpec : ChangeSpec := { name := "fnDistinctJ", fn := fun _ => fun
  | [d1, d2] => { results := [.lit (.bool true)], args := [d1, d2] }
  | _ => none }
def fnDistinctJRow : OpenClaim := { program := "ytdcenglfccjnaaa", sum := "07f2ecea67a5af141284edf7f216eb4427756d03f18128dd52293d9188f17e6e", func := "inlaywork/laws.FnDistinctJ", spec := "fnDistinctJ", apart := false }
def FnDistinctJSaid : Prop := fnDistinctJRow.holds Try.pinned (OpenSpec.ofChange fnDistinctJSpec)

/-- ITS FALSE NEIGHBOUR: 'it returns false'. Refute it at one input. -/
def fnDistinctJWrong : ChangeSpec := { name := "fnDistinctJ", fn := fun _ => fun
  | [d1, d2] => { results := [.lit (.bool false)], args := [d1, d2] }
  | _ => none }
def FnDistinctJWrongFalsely : Prop := fnDistinctJRow.holds Try.pinned (OpenSpec.ofChange fnDistinctJWrong)

/-- 'laws.FnEncodeB': WHATEVER THE INPUT: true; the input reads as it did. -/
def fnEncodeBSpec : ChangeSpec := { name := "fnEncodeB", fn := fun _ => fun
  | [d] => { results := [.lit (.bool true)], args := [d] }
  | _ => none }
def fnEncodeBRow : OpenClaim := { program := "ytdcenglfccjnaaa", sum := "07f2ecea67a5af141284edf7f216eb4427756d03f18128dd52293d9188f17e6e", func := "inlaywork/laws.FnEncodeB", spec := "fnEncodeB", unfollowed := true, recurses := true, apart := false }
def FnEncodeBSaid : Prop := fnEncodeBRow.holds Try.pinned (OpenSpec.ofChange fnEncodeBSpec)

/-- ITS FALSE NEIGHBOUR: 'it returns false'. Refute it at one input. -/
def fnEncodeBWrong : ChangeSpec := { name := "fnEncodeB", fn := fun _ => fun
  | [d] => { results := [.lit (.bool false)], args := [d] }
  | _ => none }
def FnEncodeBWrongFalsely : Prop := fnEncodeBRow.holds Try.pinned (OpenSpec.ofChange fnEncodeBWrong)

/-- 'laws.FnEncodeJ': WHATEVER THE INPUT: true; the input reads as it did. -/
def fnEncodeJSpec : ChangeSpec := { name := "fnEncodeJ", fn := fun _ => fun
  | [d] => { results := [.lit (.bool true)], args := [d] }
  | _ => none }
def fnEncodeJRow : OpenClaim := { program := "ytdcenglfccjnaaa", sum := "07f2ecea67a5af141284edf7f216eb4427756d03f18128dd52293d9188f17e6e", func := "inlaywork/laws.FnEncodeJ", spec := "fnEncodeJ", unfollowed := true, recurses := true, apart := false }
def FnEncodeJSaid : Prop := fnEncodeJRow.holds Try.pinned (OpenSpec.ofChange fnEncodeJSpec)

/-- ITS FALSE NEIGHBOUR: 'it returns false'. Refute it at one input. -/
def fnEncodeJWrong : ChangeSpec := { name := "fnEncodeJ", fn := fun _ => fun
  | [d] => { results := [.lit (.bool false)], args := [d] }
  | _ => none }
def FnEncodeJWrongFalsely : Prop := fnEncodeJRow.holds Try.pinned (OpenSpec.ofChange fnEncodeJWrong)

/-- 'laws.FnBranch': WHATEVER THE INPUT: true; the input reads as it did. -/
def fnBranchSpec : ChangeSpec := { name := "fnBranch", fn := fun _ => fun
  | [d] => { results := [.lit (.bool true)], args := [d] }
  | _ => none }
def fnBranchRow : OpenClaim := { program := "ytdcenglfccjnaaa", sum := "07f2ecea67a5af141284edf7f216eb4427756d03f18128dd52293d9188f17e6e", func := "inlaywork/laws.FnBranch", spec := "fnBranch", apart := false }
def FnBranchSaid : Prop := fnBranchRow.holds Try.pinned (OpenSpec.ofChange fnBranchSpec)

/-- ITS FALSE NEIGHBOUR: 'it returns false'. Refute it at one input. -/
def fnBranchWrong : ChangeSpec := { name := "fnBranch", fn := fun _ => fun
  | [d] => { results := [.lit (.bool false)], args := [d] }
  | _ => none }
def FnBranchWrongFalsely : Prop := fnBranchRow.holds Try.pinned (OpenSpec.ofChange fnBranchWrong)

/- THE SECOND FORM. 'bulk': how many values and letters a reading holds, each counted each time it is reached (what is shared counts as often as it is met; a slice's spare places count too). A statement '..UptoSaid' is the law's where the arguments, and the package variables that the reading takes, are together of bulk at most 1048576: NARROWER than '..Said'. Prove '..Said' where nothing that the law and all that it calls make is longer than what came in: it says more and counts as full. Else prove '..UptoSaid'. A law counts once. -/
mutual
def uptoBulk {H : Type} : DataW H → Nat
  | .lit (.string bytes) => bytes.length + 1
  | .lit _ => 1
  | .nil => 1
  | .ptr d => uptoBulk d + 1
  | .slice elems spare => uptoBulkAll elems + uptoBulkAll spare + 1
  | .agg parts => uptoBulkAll parts + 1
  | .iface _ d => uptoBulk d + 1
  | .map entries => uptoBulkEntries entries + 1
  | .held _ => 1
def uptoBulkAll {H : Type} : List (DataW H) → Nat
  | [] => 0
  | d :: r => uptoBulk d + uptoBulkAll r
def uptoBulkEntries {H : Type} : List (Lit × DataW H) → Nat
  | [] => 0
  | x :: r => uptoBulkEntry x + uptoBulkEntries r
def uptoBulkEntry {H : Type} : Lit × DataW H → Nat
  | (.string bytes, d) => bytes.length + uptoBulk d + 1
  | (_, d) => uptoBulk d + 1
 end
def uptoSmall : (H : Type) → List (DataW H) → Bool := fun _ ds => decide (uptoBulkAll ds ≤ 1048576)
def OpenSpec.upto (s : _root_.Go.ChangeSpec) : _root_.Go.OpenSpec := { _root_.Go.OpenSpec.ofChange s with cond := some uptoSmall }

/-- 'laws.FnDecodeB', WHERE WHAT IT READS IS OF BULK AT MOST 1048576: true; the input reads as it did. -/
def fnDecodeBUptoRow : OpenClaim := { program := "ytdcenglfccjnaaa", sum := "07f2ecea67a5af141284edf7f216eb4427756d03f18128dd52293d9188f17e6e", func := "inlaywork/laws.FnDecodeB", spec := "fnDecodeB", apart := false, narrowed := true }
def FnDecodeBUptoSaid : Prop := fnDecodeBUptoRow.holds Try.pinned (OpenSpec.upto fnDecodeBSpec)

/-- 'laws.FnDecodeJ', WHERE WHAT IT READS IS OF BULK AT MOST 1048576: true; the input reads as it did. -/
def fnDecodeJUptoRow : OpenClaim := { program := "ytdcenglfccjnaaa", sum := "07f2ecea67a5af141284edf7f216eb4427756d03f18128dd52293d9188f17e6e", func := "inlaywork/laws.FnDecodeJ", spec := "fnDecodeJ", apart := false, narrowed := true }
def FnDecodeJUptoSaid : Prop := fnDecodeJUptoRow.holds Try.pinned (OpenSpec.upto fnDecodeJSpec)

/-- 'laws.FnDistinctB', WHERE WHAT IT READS IS OF BULK AT MOST 1048576: true; the input reads as it did. -/
def fnDistinctBUptoRow : OpenClaim := { program := "ytdcenglfccjnaaa", sum := "07f2ecea67a5af141284edf7f216eb4427756d03f18128dd52293d9188f17e6e", func := "inlaywork/laws.FnDistinctB", spec := "fnDistinctB", apart := false, narrowed := true }
def FnDistinctBUptoSaid : Prop := fnDistinctBUptoRow.holds Try.pinned (OpenSpec.upto fnDistinctBSpec)

/-- 'laws.FnDistinctJ', WHERE WHAT IT READS IS OF BULK AT MOST 1048576: true; the input reads as it did. -/
def fnDistinctJUptoRow : OpenClaim := { program := "ytdcenglfccjnaaa", sum := "07f2ecea67a5af141284edf7f216eb4427756d03f18128dd52293d9188f17e6e", func := "inlaywork/laws.FnDistinctJ", spec := "fnDistinctJ", apart := false, narrowed := true }
def FnDistinctJUptoSaid : Prop := fnDistinctJUptoRow.holds Try.pinned (OpenSpec.upto fnDistinctJSpec)

/-- 'laws.FnEncodeB', WHERE WHAT IT READS IS OF BULK AT MOST 1048576: true; the input reads as it did. -/
def fnEncodeBUptoRow : OpenClaim := { program := "ytdcenglfccjnaaa", sum := "07f2ecea67a5af141284edf7f216eb4427756d03f18128dd52293d9188f17e6e", func := "inlaywork/laws.FnEncodeB", spec := "fnEncodeB", unfollowed := true, recurses := true, apart := false, narrowed := true }
def FnEncodeBUptoSaid : Prop := fnEncodeBUptoRow.holds Try.pinned (OpenSpec.upto fnEncodeBSpec)

/-- 'laws.FnEncodeJ', WHERE WHAT IT READS IS OF BULK AT MOST 1048576: true; the input reads as it did. -/
def fnEncodeJUptoRow : OpenClaim := { program := "ytdcenglfccjnaaa", sum := "07f2ecea67a5af141284edf7f216eb4427756d03f18128dd52293d9188f17e6e", func := "inlaywork/laws.FnEncodeJ", spec := "fnEncodeJ", unfollowed := true, recurses := true, apart := false, narrowed := true }
def FnEncodeJUptoSaid : Prop := fnEncodeJUptoRow.holds Try.pinned (OpenSpec.upto fnEncodeJSpec)

/-- 'laws.FnBranch', WHERE WHAT IT READS IS OF BULK AT MOST 1048576: true; the input reads as it did. -/
def fnBranchUptoRow : OpenClaim := { program := "ytdcenglfccjnaaa", sum := "07f2ecea67a5af141284edf7f216eb4427756d03f18128dd52293d9188f17e6e", func := "inlaywork/laws.FnBranch", spec := "fnBranch", apart := false, narrowed := true }
def FnBranchUptoSaid : Prop := fnBranchUptoRow.holds Try.pinned (OpenSpec.upto fnBranchSpec)

end Rows
end Go.Proofs.Ytdcenglfccjnaaa
