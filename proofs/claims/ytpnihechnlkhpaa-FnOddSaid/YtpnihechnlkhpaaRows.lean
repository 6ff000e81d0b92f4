/-
  No cell of these rows narrows 'for every input' (looked for: loops, veiled, ifaces, maps, wideKeys, modest, calm, conditions, laid).
  DERIVED. THE GIVEN ROWS OF THIS SEAT. 7 by the template 'for every input the law returns true; each argument reads behind the call as it read before'; 0 by the template 'total and deterministic' (their statements: YtpnihechnlkhpaaTotals.lean).
  GIVEN WITH THE SEED: the statements are not yours to turn. If you find one false, say at which input.
  Laid BY PROGRAM, IN A SANDBOX (cutbox-rows.mjs): the forced cells as the released guide's own fill.sh prints them over the translation 0a3d2f2a1bdbae99… (all of the seat's roots in one cut). By AI agents, Wed Nov 11 2026. No macro, syntax, notation, axiom, sorry.
-/
import Derived.Test.YtpnihechnlkhpaaChecked
import GoSem.Claim
import GoSem.ClaimJoined
import GoSem.ClaimMapViews
import Derived.JoinedTies
import Derived.KernelRfl
namespace Go.Proofs.Ytpnihechnlkhpaa
/- THE CELL 'sum', in the pinned program and in every row, IS THE sha256 OF THE DUMP (.gsa) THAT YtpnihechnlkhpaaProg.lean LOADS. Nothing in Lean hashes anything: it is a label: what it is worth is what the hold of that sum in a sandbox is worth. -/
noncomputable def Try.pinned : Pinned := { name := "ytpnihechnlkhpaa", sum := "0a3d2f2a1bdbae9952c314c7413cc7ee6ea64c83235a46c609512eade6dcafe2", checked := Try.checked }
namespace Rows
def none {H : Type} : Left H := { results := [], args := [] }

/-- 'laws.FnOdd': WHATEVER THE INPUT: true; the input reads as it did. -/
def fnOddSpec : ChangeSpec := { name := "fnOdd", fn := fun _ => fun
  | [d] => { results := [.lit (.bool true)], args := [d] }
  | _ => none }
def fnOddRow : OpenClaim := { program := "ytpnihechnlkhpaa", sum := "0a3d2f2a1bdbae9952c314c7413cc7ee6ea64c83235a46c609512eade6dcafe2", func := "inlaywork/laws.FnOdd", spec := "fnOdd", unfollowed := true, recurses := true, apart := false }
def FnOddSaid : Prop := fnOddRow.holds Try.pinned (OpenSpec.ofChange fnOddSpec)

/-- ITS FALSE NEIGHBOUR: 'it returns false'. Refute it at one input. -/
def fnOddWrong : ChangeSpec := { name := "fnOdd", fn := fun _ => fun
  | [d] => { results := [.lit (.bool false)], args := [d] }
  | _ => none }
def FnOddWrongFalsely : Prop := fnOddRow.holds Try.pinned (OpenSpec.ofChange fnOddWrong)

/-- 'laws.FnDecodeCB': WHATEVER THE INPUT: true; the input reads as it did. -/
def fnDecodeCBSpec : ChangeSpec := { name := "fnDecodeCB", fn := fun _ => fun
  | [d] => { results := [.lit (.bool true)], args := [d] }
  | _ => none }
def fnDecodeCBRow : OpenClaim := { program := "ytpnihechnlkhpaa", sum := "0a3d2f2a1bdbae9952c314c7413cc7ee6ea64c83235a46c609512eade6dcafe2", func := "inlaywork/laws.FnDecodeCB", spec := "fnDecodeCB", apart := false }
def FnDecodeCBSaid : Prop := fnDecodeCBRow.holds Try.pinned (OpenSpec.ofChange fnDecodeCBSpec)

/-- ITS FALSE NEIGHBOUR: 'it returns false'. Refute it at one input. -/
def fnDecodeCBWrong : ChangeSpec := { name := "fnDecodeCB", fn := fun _ => fun
  | [d] => { results := [.lit (.bool false)], args := [d] }
  | _ => none }
def FnDecodeCBWrongFalsely : Prop := fnDecodeCBRow.holds Try.pinned (OpenSpec.ofChange fnDecodeCBWrong)

/-- 'laws.FnDecodeCJ': WHATEVER THE INPUT: true; the input reads as it did. -/
def fnDecodeCJSpec : ChangeSpec := { name := "fnDecodeCJ", fn := fun _ => fun
  | [d] => { results := [.lit (.bool true)], args := [d] }
  | _ => none }
def fnDecodeCJRow : OpenClaim := { program := "ytpnihechnlkhpaa", sum := "0a3d2f2a1bdbae9952c314c7413cc7ee6ea64c83235a46c609512eade6dcafe2", func := "inlaywork/laws.FnDecodeCJ", spec := "fnDecodeCJ", apart := false }
def FnDecodeCJSaid : Prop := fnDecodeCJRow.holds Try.pinned (OpenSpec.ofChange fnDecodeCJSpec)

/-- ITS FALSE NEIGHBOUR: 'it returns false'. Refute it at one input. -/
def fnDecodeCJWrong : ChangeSpec := { name := "fnDecodeCJ", fn := fun _ => fun
  | [d] => { results := [.lit (.bool false)], args := [d] }
  | _ => none }
def FnDecodeCJWrongFalsely : Prop := fnDecodeCJRow.holds Try.pinned (OpenSpec.ofChange fnDecodeCJWrong)

/-- 'laws.FnDistinctCB': WHATEVER THE INPUT: true; the input reads as it did. -/
def fnDistinctCBSpec : ChangeSpec := { name := "fnDistinctCB", fn := fun _ => fun
  | [d1, d2] => { results := [.lit (.bool true)], args := [d1, d2] }
  | _ => none }
def fnDistinctCBRow : OpenClaim := { program := "ytpnihechnlkhpaa", sum := "0a3d2f2a1bdbae9952c314c7413cc7ee6ea64c83235a46c609512eade6dcafe2", func := "inlaywork/laws.FnDistinctCB", spec := "fnDistinctCB", apart := false }
def FnDistinctCBSaid : Prop := fnDistinctCBRow.holds Try.pinned (OpenSpec.ofChange fnDistinctCBSpec)

/-- ITS FALSE NEIGHBOUR: 'it returns false'. Refute it at one input. -/
def fnDistinctCBWrong : ChangeSpec := { name := "fnDistinctCB", fn := fun _ => fun
  | [d1, d2] => { results := [.lit (.bool false)], args := [d1, d2] }
  | _ => none }
def FnDistinctCBWrongFalsely : Prop := fnDistinctCBRow.holds Try.pinned (OpenSpec.ofChange fnDistinctCBWrong)

/-- 'laws.FnDistinctCJ': WHATEVER THE INPUT: true; the input reads as it did. -/
def fnDistinctCJSpec : ChangeSpec := { name := "fnDistinctCJ", fn := fun _ => fun
  | [d1, d2] => { results := [.lit (.bool true)], args := [d1, d2] }
  | _ => none }
def fnDistinctCJRow : OpenClaim := { program := "ytpnihechnlkhpaa", sum := "0a3d2f2a1bdbae9952c314c7413cc7ee6ea64c83235a46c609512eade6dcafe2", func := "inlaywork/laws.FnDistinctCJ", spec := "fnDistinctCJ", apart := false }
def FnDistinctCJSaid : Prop := fnDistinctCJRow.holds Try.pinned (OpenSpec.ofChange fnDistinctCJSpec)

/-- ITS FALSE NEIGHBOUR: 'it returns false'. Refute it at one input. -/
def fnDistinctCJWrong : ChangeSpec := { name := "fnDistinctCJ", fn := fun _ => fun
  | [d1, d2] => { results := [.lit (.bool false)], args := [d1, d2] }
  | _ => none }
def FnDistinctCJWrongFalsely : Prop := fnDistinctCJRow.holds Try.pinned (OpenSpec.ofChange fnDistinctCJWrong)

/-- 'laws.FnEncodeCB': WHATEVER THE INPUT: true; the input reads as it did. -/
def fnEncodeCBSpec : ChangeSpec := { name := "fnEncodeCB", fn := fun _ => fun
  | [d] => { results := [.lit (.bool true)], args := [d] }
  | _ => none }
def fnEncodeCBRow : OpenClaim := { program := "ytpnihechnlkhpaa", sum := "0a3d2f2a1bdbae9952c314c7413cc7ee6ea64c83235a46c609512eade6dcafe2", func := "inlaywork/laws.FnEncodeCB", spec := "fnEncodeCB", unfollowed := true, recurses := true, apart := false }
def FnEncodeCBSaid : Prop := fnEncodeCBRow.holds Try.pinned (OpenSpec.ofChange fnEncodeCBSpec)

/-- ITS FALSE NEIGHBOUR: 'it returns false'. Refute it at one input. -/
def fnEncodeCBWrong : ChangeSpec := { name := "fnEncodeCB", fn := fun _ => fun
  | [d] => { results := [.lit (.bool false)], args := [d] }
  | _ => none }
def FnEncodeCBWrongFalsely : Prop := fnEncodeCBRow.holds Try.pinned (OpenSpec.ofChange fnEncodeCBWrong)

/-- 'laws.FnEncodeCJ': WHATEVER THE INPUT: true; the input reads as it did. -/
def fnEncodeCJSpec : ChangeSpec := { name := "fnEncodeCJ", fn := fun _ => fun
  | [d] => { results := [.lit (.bool true)], args := [d] }
  | _ => none }
def fnEncodeCJRow : OpenClaim := { program := "ytpnihechnlkhpaa", sum := "0a3d2f2a1bdbae9952c314c7413cc7ee6ea64c83235a46c609512eade6dcafe2", func := "inlaywork/laws.FnEncodeCJ", spec := "fnEncodeCJ", unfollowed := true, recurses := true, apart := false }
def FnEncodeCJSaid : Prop := fnEncodeCJRow.holds Try.pinned (OpenSpec.ofChange fnEncodeCJSpec)

/-- ITS FALSE NEIGHBOUR: 'it returns false'. Refute it at one input. -/
def fnEncodeCJWrong : ChangeSpec := { name := "fnEncodeCJ", fn := fun _ => fun
  | [d] => { results := [.lit (.bool false)], args := [d] }
  | _ => none }
def FnEncodeCJWrongFalsely : Prop := fnEncodeCJRow.holds Try.pinned (OpenSpec.ofChange fnEncodeCJWrong)

/- THE SECOND FORM. 'bulk': how many values and letters a reading holds, each counted each time it is reached (what is shared counts as often as it is met; a slice's spare places count too). A statement '..UptoSaid' is the law's where the arguments, and the package variables that the reading takes, are together of bulk at most 1048576: NARROWER than '..Said'. Prove '..Said' where nothing that the law and all that it calls make is longer than what came in: it says more and counts as full. Else prove '..UptoSaid'. A law counts once. -/
mutual
def uptoBulk {H : Type} : DataW H → Nat
  | .lit (.string bytes) => bytes.length + 1
  | .lit _ => 1
  | .nil => 1
  | .ptr d => uptoBulk d + 1
  | .slice elems spare => uptoBulkAll elems + uptoBulkAll spare + 1
  | .agg parts => uptoBulkAll parts + 1
  | .iface _ d => uptoBulk d + 1
  | .map entries => uptoBulkEntries entries + 1
  | .held _ => 1
def uptoBulkAll {H : Type} : List (DataW H) → Nat
  | [] => 0
  | d :: r => uptoBulk d + uptoBulkAll r
def uptoBulkEntries {H : Type} : List (Lit × DataW H) → Nat
  | [] => 0
  | x :: r => uptoBulkEntry x + uptoBulkEntries r
def uptoBulkEntry {H : Type} : Lit × DataW H → Nat
  | (.string bytes, d) => bytes.length + uptoBulk d + 1
  | (_, d) => uptoBulk d + 1
 end
def uptoSmall : (H : Type) → List (DataW H) → Bool := fun _ ds => decide (uptoBulkAll ds ≤ 1048576)
def OpenSpec.upto (s : _root_.Go.ChangeSpec) : _root_.Go.OpenSpec := { _root_.Go.OpenSpec.ofChange s with cond := some uptoSmall }

/-- 'laws.FnOdd', WHERE WHAT IT READS IS OF BULK AT MOST 1048576: true; the input reads as it did. -/
def fnOddUptoRow : OpenClaim := { program := "ytpnihechnlkhpaa", sum := "0a3d2f2a1bdbae9952c314c7413cc7ee6ea64c83235a46c609512eade6dcafe2", func := "inlaywork/laws.FnOdd", spec := "fnOdd", unfollowed := true, recurses := true, apart := false, narrowed := true }
def FnOddUptoSaid : Prop := fnOddUptoRow.holds Try.pinned (OpenSpec.upto fnOddSpec)

/-- 'laws.FnDecodeCB', WHERE WHAT IT READS IS OF BULK AT MOST 1048576: true; the input reads as it did. -/
def fnDecodeCBUptoRow : OpenClaim := { program := "ytpnihechnlkhpaa", sum := "0a3d2f2a1bdbae9952c314c7413cc7ee6ea64c83235a46c609512eade6dcafe2", func := "inlaywork/laws.FnDecodeCB", spec := "fnDecodeCB", apart := false, narrowed := true }
def FnDecodeCBUptoSaid : Prop := fnDecodeCBUptoRow.holds Try.pinned (OpenSpec.upto fnDecodeCBSpec)

/-- 'laws.FnDecodeCJ', WHERE WHAT IT READS IS OF BULK AT MOST 1048576: true; the input reads as it did. -/
def fnDecodeCJUptoRow : OpenClaim := { program := "ytpnihechnlkhpaa", sum := "0a3d2f2a1bdbae9952c314c7413cc7ee6ea64c83235a46c609512eade6dcafe2", func := "inlaywork/laws.FnDecodeCJ", spec := "fnDecodeCJ", apart := false, narrowed := true }
def FnDecodeCJUptoSaid : Prop := fnDecodeCJUptoRow.holds Try.pinned (OpenSpec.upto fnDecodeCJSpec)

/-- 'laws.FnDistinctCB', WHERE WHAT IT READS IS OF BULK AT MOST 1048576: true; the input reads as it did. -/
def fnDistinctCBUptoRow : OpenClaim := { program := "ytpnihechnlkhpaa", sum := "0a3d2f2a1bdbae9952c314c7413cc7ee6ea64c83235a46c609512eade6dcafe2", func := "inlaywork/laws.FnDistinctCB", spec := "fnDistinctCB", apart := false, narrowed := true }
def FnDistinctCBUptoSaid : Prop := fnDistinctCBUptoRow.holds Try.pinned (OpenSpec.upto fnDistinctCBSpec)

/-- 'laws.FnDistinctCJ', WHERE WHAT IT READS IS OF BULK AT MOST 1048576: true; the input reads as it did. -/
def fnDistinctCJUptoRow : OpenClaim := { program := "ytpnihechnlkhpaa", sum := "0a3d2f2a1bdbae9952c314c7413cc7ee6ea64c83235a46c609512eade6dcafe2", func := "inlaywork/laws.FnDistinctCJ", spec := "fnDistinctCJ", apart := false, narrowed := true }
def FnDistinctCJUptoSaid : Prop := fnDistinctCJUptoRow.holds Try.pinned (OpenSpec.upto fnDistinctCJSpec)

/-- 'laws.FnEncodeCB', WHERE WHAT IT READS IS OF BULK AT MOST 1048576: true; the input reads as it did. -/
def fnEncodeCBUptoRow : OpenClaim := { program := "ytpnihechnlkhpaa", sum := "0a3d2f2a1bdbae9952c314c7413cc7ee6ea64c83235a46c609512eade6dcafe2", func := "inlaywork/laws.FnEncodeCB", spec := "fnEncodeCB", unfollowed := true, recurses := true, apart := false, narrowed := true }
def FnEncodeCBUptoSaid : Prop := fnEncodeCBUptoRow.holds Try.pinned (OpenSpec.upto fnEncodeCBSpec)

/-- 'laws.FnEncodeCJ', WHERE WHAT IT READS IS OF BULK AT MOST 1048576: true; the input reads as it did. -/
def fnEncodeCJUptoRow : OpenClaim := { program := "ytpnihechnlkhpaa", sum := "0a3d2f2a1bdbae9952c314c7413cc7ee6ea64c83235a46c609512eade6dcafe2", func := "inlaywork/laws.FnEncodeCJ", spec := "fnEncodeCJ", unfollowed := true, recurses := true, apart := false, narrowed := true }
def FnEncodeCJUptoSaid : Prop := fnEncodeCJUptoRow.holds Try.pinned (OpenSpec.upto fnEncodeCJSpec)

end Rows
end Go.Proofs.Ytpnihechnlkhpaa
