/-
  No cell of these rows narrows 'for every input' (looked for: loops, veiled, ifaces, maps, wideKeys, modest, calm, conditions, laid).
  DERIVED. THE GIVEN ROWS OF THIS SEAT. 4 by the template 'for every input the law returns true; each argument reads behind the call as it read before'; 0 by the template 'total and deterministic' (their statements: YtcofgoddhgfjaaaTotals.lean).
  GIVEN WITH THE SEED: the statements are not yours to turn. If you find one false, say at which input.
  Laid BY PROGRAM, IN A SANDBOX (cutbox-rows.mjs): the forced cells as the released guide's own fill.sh prints them over the translation 5d617dfdbd4f09bd… (all of the seat's roots in one cut). By AI agents, Wed Nov 11 2026. No macro, syntax, notation, axiom, sorry.
-/
import Derived.Test.YtcofgoddhgfjaaaChecked
import GoSem.Claim
import GoSem.ClaimJoined
import GoSem.ClaimMapViews
import Derived.JoinedTies
import Derived.KernelRfl
namespace Go.Proofs.Ytcofgoddhgfjaaa
/- THE CELL 'sum', in the pinned program and in every row, IS THE sha256 OF THE DUMP (.gsa) THAT YtcofgoddhgfjaaaProg.lean LOADS. Nothing in Lean hashes anything: it is a label: what it is worth is what the hold of that sum in a sandbox is worth. -/
noncomputable def Try.pinned : Pinned := { name := "ytcofgoddhgfjaaa", sum := "5d617dfdbd4f09bd327e818db7ea574f5c63dfe50b741e1f9ce4c5d2ce85cde5", checked := Try.checked }
namespace Rows
def none {H : Type} : Left H := { results := [], args := [] }

/-- 'laws.FnSplitEncoded': WHATEVER THE INPUT: true; the input reads as it did. -/
def fnSplitEncodedSpec : ChangeSpec := { name := "fnSplitEncoded", fn := fun _ => fun
  | [d] => { results := [.lit (.bool true)], args := [d] }
  | _ => none }
def fnSplitEncodedRow : OpenClaim := { program := "ytcofgoddhgfjaaa", sum := "5d617dfdbd4f09bd327e818db7ea574f5c63dfe50b741e1f9ce4c5d2ce85cde5", func := "inlaywork/laws.FnSplitEncoded", spec := "fnSplitEncoded", apart := false }
def FnSplitEncodedSaid : Prop := fnSplitEncodedRow.holds Try.pinned (OpenSpec.ofChange fnSplitEncodedSpec)

/-- ITS FALSE NEIGHBOUR: 'it returns false'. Refute it at one input. -/
def fnSplitEncodedWrong : ChangeSpec := { name := "fnSplitEncoded", fn := fun _ => fun
  | [d] => { results := [.lit (.bool false)], args := [d] }
  | _ => none }
def FnSplitEncodedWrongFalsely : Prop := fnSplitEncodedRow.holds Try.pinned (OpenSpec.ofChange fnSplitEncodedWrong)

/-- 'laws.FnSplit': WHATEVER THE INPUT: true; the input reads as it did. -/
def fnSplitSpec : ChangeSpec := { name := "fnSplit", fn := fun _ => fun
  | [d] => { results := [.lit (.bool true)], args := [d] }
  | _ => none }
def fnSplitRow : OpenClaim := { program := "ytcofgoddhgfjaaa", sum := "5d617dfdbd4f09bd327e818db7ea574f5c63dfe50b741e1f9ce4c5d2ce85cde5", func := "inlaywork/laws.FnSplit", spec := "fnSplit", apart := false }
def FnSplitSaid : Prop := fnSplitRow.holds Try.pinned (OpenSpec.ofChange fnSplitSpec)

/-- ITS FALSE NEIGHBOUR: 'it returns false'. Refute it at one input. -/
def fnSplitWrong : ChangeSpec := { name := "fnSplit", fn := fun _ => fun
  | [d] => { results := [.lit (.bool false)], args := [d] }
  | _ => none }
def FnSplitWrongFalsely : Prop := fnSplitRow.holds Try.pinned (OpenSpec.ofChange fnSplitWrong)

/-- 'laws.FnSplitBack': WHATEVER THE INPUT: true; the input reads as it did. -/
def fnSplitBackSpec : ChangeSpec := { name := "fnSplitBack", fn := fun _ => fun
  | [d1, d2] => { results := [.lit (.bool true)], args := [d1, d2] }
  | _ => none }
def fnSplitBackRow : OpenClaim := { program := "ytcofgoddhgfjaaa", sum := "5d617dfdbd4f09bd327e818db7ea574f5c63dfe50b741e1f9ce4c5d2ce85cde5", func := "inlaywork/laws.FnSplitBack", spec := "fnSplitBack", apart := false }
def FnSplitBackSaid : Prop := fnSplitBackRow.holds Try.pinned (OpenSpec.ofChange fnSplitBackSpec)

/-- ITS FALSE NEIGHBOUR: 'it returns false'. Refute it at one input. -/
def fnSplitBackWrong : ChangeSpec := { name := "fnSplitBack", fn := fun _ => fun
  | [d1, d2] => { results := [.lit (.bool false)], args := [d1, d2] }
  | _ => none }
def FnSplitBackWrongFalsely : Prop := fnSplitBackRow.holds Try.pinned (OpenSpec.ofChange fnSplitBackWrong)

/-- 'laws.FnSplitOnly': WHATEVER THE INPUT: true; the input reads as it did. -/
def fnSplitOnlySpec : ChangeSpec := { name := "fnSplitOnly", fn := fun _ => fun
  | [d1, d2, d3] => { results := [.lit (.bool true)], args := [d1, d2, d3] }
  | _ => none }
def fnSplitOnlyRow : OpenClaim := { program := "ytcofgoddhgfjaaa", sum := "5d617dfdbd4f09bd327e818db7ea574f5c63dfe50b741e1f9ce4c5d2ce85cde5", func := "inlaywork/laws.FnSplitOnly", spec := "fnSplitOnly", apart := false }
def FnSplitOnlySaid : Prop := fnSplitOnlyRow.holds Try.pinned (OpenSpec.ofChange fnSplitOnlySpec)

/-- ITS FALSE NEIGHBOUR: 'it returns false'. Refute it at one input. -/
def fnSplitOnlyWrong : ChangeSpec := { name := "fnSplitOnly", fn := fun _ => fun
  | [d1, d2, d3] => { results := [.lit (.bool false)], args := [d1, d2, d3] }
  | _ => none }
def FnSplitOnlyWrongFalsely : Prop := fnSplitOnlyRow.holds Try.pinned (OpenSpec.ofChange fnSplitOnlyWrong)

/- THE SECOND FORM. 'bulk': how many values and letters a reading holds, each counted each time it is reached (what is shared counts as often as it is met; a slice's spare places count too). A statement '..UptoSaid' is the law's where the arguments, and the package variables that the reading takes, are together of bulk at most 1048576: NARROWER than '..Said'. Prove '..Said' where nothing that the law and all that it calls make is longer than what came in: it says more and counts as full. Else prove '..UptoSaid'. A law counts once. -/
mutual
def uptoBulk {H : Type} : DataW H → Nat
  | .lit (.string bytes) => bytes.length + 1
  | .lit _ => 1
  | .nil => 1
  | .ptr d => uptoBulk d + 1
  | .slice elems spare => uptoBulkAll elems + uptoBulkAll spare + 1
  | .agg parts => uptoBulkAll parts + 1
  | .iface _ d => uptoBulk d + 1
  | .map entries => uptoBulkEntries entries + 1
  | .held _ => 1
def uptoBulkAll {H : Type} : List (DataW H) → Nat
  | [] => 0
  | d :: r => uptoBulk d + uptoBulkAll r
def uptoBulkEntries {H : Type} : List (Lit × DataW H) → Nat
  | [] => 0
  | x :: r => uptoBulkEntry x + uptoBulkEntries r
def uptoBulkEntry {H : Type} : Lit × DataW H → Nat
  | (.string bytes, d) => bytes.length + uptoBulk d + 1
  | (_, d) => uptoBulk d + 1
 end
def uptoSmall : (H : Type) → List (DataW H) → Bool := fun _ ds => decide (uptoBulkAll ds ≤ 1048576)
def OpenSpec.upto (s : _root_.Go.ChangeSpec) : _root_.Go.OpenSpec := { _root_.Go.OpenSpec.ofChange s with cond := some uptoSmall }

/-- 'laws.FnSplitEncoded', WHERE WHAT IT READS IS OF BULK AT MOST 1048576: true; the input reads as it did. -/
def fnSplitEncodedUptoRow : OpenClaim := { program := "ytcofgoddhgfjaaa", sum := "5d617dfdbd4f09bd327e818db7ea574f5c63dfe50b741e1f9ce4c5d2ce85cde5", func := "inlaywork/laws.FnSplitEncoded", spec := "fnSplitEncoded", apart := false, narrowed := true }
def FnSplitEncodedUptoSaid : Prop := fnSplitEncodedUptoRow.holds Try.pinned (OpenSpec.upto fnSplitEncodedSpec)

/-- 'laws.FnSplit', WHERE WHAT IT READS IS OF BULK AT MOST 1048576: true; the input reads as it did. -/
def fnSplitUptoRow : OpenClaim := { program := "ytcofgoddhgfjaaa", sum := "5d617dfdbd4f09bd327e818db7ea574f5c63dfe50b741e1f9ce4c5d2ce85cde5", func := "inlaywork/laws.FnSplit", spec := "fnSplit", apart := false, narrowed := true }
def FnSplitUptoSaid : Prop := fnSplitUptoRow.holds Try.pinned (OpenSpec.upto fnSplitSpec)

/-- 'laws.FnSplitBack', WHERE WHAT IT READS IS OF BULK AT MOST 1048576: true; the input reads as it did. -/
def fnSplitBackUptoRow : OpenClaim := { program := "ytcofgoddhgfjaaa", sum := "5d617dfdbd4f09bd327e818db7ea574f5c63dfe50b741e1f9ce4c5d2ce85cde5", func := "inlaywork/laws.FnSplitBack", spec := "fnSplitBack", apart := false, narrowed := true }
def FnSplitBackUptoSaid : Prop := fnSplitBackUptoRow.holds Try.pinned (OpenSpec.upto fnSplitBackSpec)

/-- 'laws.FnSplitOnly', WHERE WHAT IT READS IS OF BULK AT MOST 1048576: true; the input reads as it did. -/
def fnSplitOnlyUptoRow : OpenClaim := { program := "ytcofgoddhgfjaaa", sum := "5d617dfdbd4f09bd327e818db7ea574f5c63dfe50b741e1f9ce4c5d2ce85cde5", func := "inlaywork/laws.FnSplitOnly", spec := "fnSplitOnly", apart := false, narrowed := true }
def FnSplitOnlyUptoSaid : Prop := fnSplitOnlyUptoRow.holds Try.pinned (OpenSpec.upto fnSplitOnlySpec)

end Rows
end Go.Proofs.Ytcofgoddhgfjaaa
