/-
  No cell of these rows narrows 'for every input' (looked for: loops, veiled, ifaces, maps, wideKeys, modest, calm, conditions, laid).
  DERIVED. THE GIVEN ROWS OF THIS SEAT. 10 by the template 'for every input the law returns true; each argument reads behind the call as it read before'; 0 by the template 'total and deterministic' (their statements: YtdophgcjlckpiaaTotals.lean).
  GIVEN WITH THE SEED: the statements are not yours to turn. If you find one false, say at which input.
  Laid BY PROGRAM, IN A SANDBOX (cutbox-rows.mjs): the forced cells as the released guide's own fill.sh prints them over the translation 75eec58a4e797c43… (all of the seat's roots in one cut). By AI agents, Wed Nov 11 2026. No macro, syntax, notation, axiom, sorry.
-/
import Derived.Test.YtdophgcjlckpiaaChecked
import GoSem.Claim
import GoSem.ClaimJoined
import GoSem.ClaimMapViews
import Derived.JoinedTies
import Derived.KernelRfl
namespace Go.Proofs.Ytdophgcjlckpiaa
/- THE CELL 'sum', in the pinned program and in every row, IS THE sha256 OF THE DUMP (.gsa) THAT YtdophgcjlckpiaaProg.lean LOADS. Nothing in Lean hashes anything: it is a label: what it is worth is what the hold of that sum in a sandbox is worth. -/
noncomputable def Try.pinned : Pinned := { name := "ytdophgcjlckpiaa", sum := "75eec58a4e797c43fe432b4e3dcac885661ed8387ec1f14a93e59d631663a642", checked := Try.checked }
namespace Rows
def none {H : Type} : Left H := { results := [], args := [] }

/-- 'laws.FnDecodeI': WHATEVER THE INPUT: true; the input reads as it did. -/
def fnDecodeISpec : ChangeSpec := { name := "fnDecodeI", fn := fun _ => fun
  | [d] => { results := [.lit (.bool true)], args := [d] }
  | _ => none }
def fnDecodeIRow : OpenClaim := { program := "ytdophgcjlckpiaa", sum := "75eec58a4e797c43fe432b4e3dcac885661ed8387ec1f14a93e59d631663a642", func := "inlaywork/laws.FnDecodeI", spec := "fnDecodeI", apart := false }
def FnDecodeISaid : Prop := fnDecodeIRow.holds Try.pinned (OpenSpec.ofChange fnDecodeISpec)

/-- ITS FALSE NEIGHBOUR: 'it returns false'. Refute it at one input. -/
def fnDecodeIWrong : ChangeSpec := { name := "fnDecodeI", fn := fun _ => fun
  | [d] => { results := [.lit (.bool false)], args := [d] }
  | _ => none }
def FnDecodeIWrongFalsely : Prop := fnDecodeIRow.holds Try.pinned (OpenSpec.ofChange fnDecodeIWrong)

/-- 'laws.FnDecodeS': WHATEVER THE INPUT: true; the input reads as it did. -/
def fnDecodeSSpec : ChangeSpec := { name := "fnDecodeS", fn := fun _ => fun
  | [d] => { results := [.lit (.bool true)], args := [d] }
  | _ => none }
def fnDecodeSRow : OpenClaim := { program := "ytdophgcjlckpiaa", sum := "75eec58a4e797c43fe432b4e3dcac885661ed8387ec1f14a93e59d631663a642", func := "inlaywork/laws.FnDecodeS", spec := "fnDecodeS", apart := false }
def FnDecodeSSaid : Prop := fnDecodeSRow.holds Try.pinned (OpenSpec.ofChange fnDecodeSSpec)

/-- ITS FALSE NEIGHBOUR: 'it returns false'. Refute it at one input. -/
def fnDecodeSWrong : ChangeSpec := { name := "fnDecodeS", fn := fun _ => fun
  | [d] => { results := [.lit (.bool false)], args := [d] }
  | _ => none }
def FnDecodeSWrongFalsely : Prop := fnDecodeSRow.holds Try.pinned (OpenSpec.ofChange fnDecodeSWrong)

/-- 'laws.FnDecodeU': WHATEVER THE INPUT: true; the input reads as it did. -/
def fnDecodeUSpec : ChangeSpec := { name := "fnDecodeU", fn := fun _ => fun
  | [d] => { results := [.lit (.bool true)], args := [d] }
  | _ => none }
def fnDecodeURow : OpenClaim := { program := "ytdophgcjlckpiaa", sum := "75eec58a4e797c43fe432b4e3dcac885661ed8387ec1f14a93e59d631663a642", func := "inlaywork/laws.FnDecodeU", spec := "fnDecodeU", apart := false }
def FnDecodeUSaid : Prop := fnDecodeURow.holds Try.pinned (OpenSpec.ofChange fnDecodeUSpec)

/-- ITS FALSE NEIGHBOUR: 'it returns false'. Refute it at one input. -/
def fnDecodeUWrong : ChangeSpec := { name := "fnDecodeU", fn := fun _ => fun
  | [d] => { results := [.lit (.bool false)], args := [d] }
  | _ => none }
def FnDecodeUWrongFalsely : Prop := fnDecodeURow.holds Try.pinned (OpenSpec.ofChange fnDecodeUWrong)

/-- 'laws.FnDistinctI': WHATEVER THE INPUT: true; the input reads as it did. -/
def fnDistinctISpec : ChangeSpec := { name := "fnDistinctI", fn := fun _ => fun
  | [d1, d2] => { results := [.lit (.bool true)], args := [d1, d2] }
  | _ => none }
def fnDistinctIRow : OpenClaim := { program := "ytdophgcjlckpiaa", sum := "75eec58a4e797c43fe432b4e3dcac885661ed8387ec1f14a93e59d631663a642", func := "inlaywork/laws.FnDistinctI", spec := "fnDistinctI", apart := false }
def FnDistinctISaid : Prop := fnDistinctIRow.holds Try.pinned (OpenSpec.ofChange fnDistinctISpec)

/-- ITS FALSE NEIGHBOUR: 'it returns false'. Refute it at one input. -/
def fnDistinctIWrong : ChangeSpec := { name := "fnDistinctI", fn := fun _ => fun
  | [d1, d2] => { results := [.lit (.bool false)], args := [d1, d2] }
  | _ => none }
def FnDistinctIWrongFalsely : Prop := fnDistinctIRow.holds Try.pinned (OpenSpec.ofChange fnDistinctIWrong)

/-- 'laws.FnDistinctS': WHATEVER THE INPUT: true; the input reads as it did. -/
def fnDistinctSSpec : ChangeSpec := { name := "fnDistinctS", fn := fun _ => fun
  | [d1, d2] => { results := [.lit (.bool true)], args := [d1, d2] }
  | _ => none }
def fnDistinctSRow : OpenClaim := { program := "ytdophgcjlckpiaa", sum := "75eec58a4e797c43fe432b4e3dcac885661ed8387ec1f14a93e59d631663a642", func := "inlaywork/laws.FnDistinctS", spec := "fnDistinctS", apart := false }
def FnDistinctSSaid : Prop := fnDistinctSRow.holds Try.pinned (OpenSpec.ofChange fnDistinctSSpec)

/-- ITS FALSE NEIGHBOUR: 'it returns false'. Refute it at one input. -/
def fnDistinctSWrong : ChangeSpec := { name := "fnDistinctS", fn := fun _ => fun
  | [d1, d2] => { results := [.lit (.bool false)], args := [d1, d2] }
  | _ => none }
def FnDistinctSWrongFalsely : Prop := fnDistinctSRow.holds Try.pinned (OpenSpec.ofChange fnDistinctSWrong)

/-- 'laws.FnDistinctU': WHATEVER THE INPUT: true; the input reads as it did. -/
def fnDistinctUSpec : ChangeSpec := { name := "fnDistinctU", fn := fun _ => fun
  | [d1, d2] => { results := [.lit (.bool true)], args := [d1, d2] }
  | _ => none }
def fnDistinctURow : OpenClaim := { program := "ytdophgcjlckpiaa", sum := "75eec58a4e797c43fe432b4e3dcac885661ed8387ec1f14a93e59d631663a642", func := "inlaywork/laws.FnDistinctU", spec := "fnDistinctU", apart := false }
def FnDistinctUSaid : Prop := fnDistinctURow.holds Try.pinned (OpenSpec.ofChange fnDistinctUSpec)

/-- ITS FALSE NEIGHBOUR: 'it returns false'. Refute it at one input. -/
def fnDistinctUWrong : ChangeSpec := { name := "fnDistinctU", fn := fun _ => fun
  | [d1, d2] => { results := [.lit (.bool false)], args := [d1, d2] }
  | _ => none }
def FnDistinctUWrongFalsely : Prop := fnDistinctURow.holds Try.pinned (OpenSpec.ofChange fnDistinctUWrong)

/-- 'laws.FnEncodeI': WHATEVER THE INPUT: true; the input reads as it did. -/
def fnEncodeISpec : ChangeSpec := { name := "fnEncodeI", fn := fun _ => fun
  | [d] => { results := [.lit (.bool true)], args := [d] }
  | _ => none }
def fnEncodeIRow : OpenClaim := { program := "ytdophgcjlckpiaa", sum := "75eec58a4e797c43fe432b4e3dcac885661ed8387ec1f14a93e59d631663a642", func := "inlaywork/laws.FnEncodeI", spec := "fnEncodeI", unfollowed := true, recurses := true, apart := false }
def FnEncodeISaid : Prop := fnEncodeIRow.holds Try.pinned (OpenSpec.ofChange fnEncodeISpec)

/-- ITS FALSE NEIGHBOUR: 'it returns false'. Refute it at one input. -/
def fnEncodeIWrong : ChangeSpec := { name := "fnEncodeI", fn := fun _ => fun
  | [d] => { results := [.lit (.bool false)], args := [d] }
  | _ => none }
def FnEncodeIWrongFalsely : Prop := fnEncodeIRow.holds Try.pinned (OpenSpec.ofChange fnEncodeIWrong)

/-- 'laws.FnEncodeS': WHATEVER THE INPUT: true; the input reads as it did. -/
def fnEncodeSSpec : ChangeSpec := { name := "fnEncodeS", fn := fun _ => fun
  | [d] => { results := [.lit (.bool true)], args := [d] }
  | _ => none }
def fnEncodeSRow : OpenClaim := { program := "ytdophgcjlckpiaa", sum := "75eec58a4e797c43fe432b4e3dcac885661ed8387ec1f14a93e59d631663a642", func := "inlaywork/laws.FnEncodeS", spec := "fnEncodeS", unfollowed := true, recurses := true, apart := false }
def FnEncodeSSaid : Prop := fnEncodeSRow.holds Try.pinned (OpenSpec.ofChange fnEncodeSSpec)

/-- ITS FALSE NEIGHBOUR: 'it returns false'. Refute it at one input. -/
def fnEncodeSWrong : ChangeSpec := { name := "fnEncodeS", fn := fun _ => fun
  | [d] => { results := [.lit (.bool false)], args := [d] }
  | _ => none }
def FnEncodeSWrongFalsely : Prop := fnEncodeSRow.holds Try.pinned (OpenSpec.ofChange fnEncodeSWrong)

/-- 'laws.FnEncodeU': WHATEVER THE INPUT: true; the input reads as it did. -/
def fnEncodeUSpec : ChangeSpec := { name := "fnEncodeU", fn := fun _ => fun
  | [d] => { results := [.lit (.bool true)], args := [d] }
  | _ => none }
def fnEncodeURow : OpenClaim := { program := "ytdophgcjlckpiaa", sum := "75eec58a4e797c43fe432b4e3dcac885661ed8387ec1f14a93e59d631663a642", func := "inlaywork/laws.FnEncodeU", spec := "fnEncodeU", unfollowed := true, recurses := true, apart := false }
def FnEncodeUSaid : Prop := fnEncodeURow.holds Try.pinned (OpenSpec.ofChange fnEncodeUSpec)

/-- ITS FALSE NEIGHBOUR: 'it returns false'. Refute it at one input. -/
def fnEncodeUWrong : ChangeSpec := { name := "fnEncodeU", fn := fun _ => fun
  | [d] => { results := [.lit (.bool false)], args := [d] }
  | _ => none }
def FnEncodeUWrongFalsely : Prop := fnEncodeURow.holds Try.pinned (OpenSpec.ofChange fnEncodeUWrong)

/-- 'laws.FnSame': WHATEVER THE INPUT: true; the input reads as it did. -/
def fnSameSpec : ChangeSpec := { name := "fnSame", fn := fun _ => fun
  | [d] => { results := [.lit (.bool true)], args := [d] }
  | _ => none }
def fnSameRow : OpenClaim := { program := "ytdophgcjlckpiaa", sum := "75eec58a4e797c43fe432b4e3dcac885661ed8387ec1f14a93e59d631663a642", func := "inlaywork/laws.FnSame", spec := "fnSame", unfollowed := true, recurses := true, apart := false }
def FnSameSaid : Prop := fnSameRow.holds Try.pinned (OpenSpec.ofChange fnSameSpec)

/-- ITS FALSE NEIGHBOUR: 'it returns false'. Refute it at one input. -/
def fnSameWrong : ChangeSpec := { name := "fnSame", fn := fun _ => fun
  | [d] => { results := [.lit (.bool false)], args := [d] }
  | _ => none }
def FnSameWrongFalsely : Prop := fnSameRow.holds Try.pinned (OpenSpec.ofChange fnSameWrong)

/- THE SECOND FORM. 'bulk': how many values and letters a reading holds, each counted each time it is reached (what is shared counts as often as it is met; a slice's spare places count too). A statement '..UptoSaid' is the law's where the arguments, and the package variables that the reading takes, are together of bulk at most 1048576: NARROWER than '..Said'. Prove '..Said' where nothing that the law and all that it calls make is longer than what came in: it says more and counts as full. Else prove '..UptoSaid'. A law counts once. -/
mutual
def uptoBulk {H : Type} : DataW H → Nat
  | .lit (.string bytes) => bytes.length + 1
  | .lit _ => 1
  | .nil => 1
  | .ptr d => uptoBulk d + 1
  | .slice elems spare => uptoBulkAll elems + uptoBulkAll spare + 1
  | .agg parts => uptoBulkAll parts + 1
  | .iface _ d => uptoBulk d + 1
  | .map entries => uptoBulkEntries entries + 1
  | .held _ => 1
def uptoBulkAll {H : Type} : List (DataW H) → Nat
  | [] => 0
  | d :: r => uptoBulk d + uptoBulkAll r
def uptoBulkEntries {H : Type} : List (Lit × DataW H) → Nat
  | [] => 0
  | x :: r => uptoBulkEntry x + uptoBulkEntries r
def uptoBulkEntry {H : Type} : Lit × DataW H → Nat
  | (.string bytes, d) => bytes.length + uptoBulk d + 1
  | (_, d) => uptoBulk d + 1
 end
def uptoSmall : (H : Type) → List (DataW H) → Bool := fun _ ds => decide (uptoBulkAll ds ≤ 1048576)
def OpenSpec.upto (s : _root_.Go.ChangeSpec) : _root_.Go.OpenSpec := { _root_.Go.OpenSpec.ofChange s with cond := some uptoSmall }

/-- 'laws.FnDecodeI', WHERE WHAT IT READS IS OF BULK AT MOST 1048576: true; the input reads as it did. -/
def fnDecodeIUptoRow : OpenClaim := { program := "ytdophgcjlckpiaa", sum := "75eec58a4e797c43fe432b4e3dcac885661ed8387ec1f14a93e59d631663a642", func := "inlaywork/laws.FnDecodeI", spec := "fnDecodeI", apart := false, narrowed := true }
def FnDecodeIUptoSaid : Prop := fnDecodeIUptoRow.holds Try.pinned (OpenSpec.upto fnDecodeISpec)

/-- 'laws.FnDecodeS', WHERE WHAT IT READS IS OF BULK AT MOST 1048576: true; the input reads as it did. -/
def fnDecodeSUptoRow : OpenClaim := { program := "ytdophgcjlckpiaa", sum := "75eec58a4e797c43fe432b4e3dcac885661ed8387ec1f14a93e59d631663a642", func := "inlaywork/laws.FnDecodeS", spec := "fnDecodeS", apart := false, narrowed := true }
def FnDecodeSUptoSaid : Prop := fnDecodeSUptoRow.holds Try.pinned (OpenSpec.upto fnDecodeSSpec)

/-- 'laws.FnDecodeU', WHERE WHAT IT READS IS OF BULK AT MOST 1048576: true; the input reads as it did. -/
def fnDecodeUUptoRow : OpenClaim := { program := "ytdophgcjlckpiaa", sum := "75eec58a4e797c43fe432b4e3dcac885661ed8387ec1f14a93e59d631663a642", func := "inlaywork/laws.FnDecodeU", spec := "fnDecodeU", apart := false, narrowed := true }
def FnDecodeUUptoSaid : Prop := fnDecodeUUptoRow.holds Try.pinned (OpenSpec.upto fnDecodeUSpec)

/-- 'laws.FnDistinctI', WHERE WHAT IT READS IS OF BULK AT MOST 1048576: true; the input reads as it did. -/
def fnDistinctIUptoRow : OpenClaim := { program := "ytdophgcjlckpiaa", sum := "75eec58a4e797c43fe432b4e3dcac885661ed8387ec1f14a93e59d631663a642", func := "inlaywork/laws.FnDistinctI", spec := "fnDistinctI", apart := false, narrowed := true }
def FnDistinctIUptoSaid : Prop := fnDistinctIUptoRow.holds Try.pinned (OpenSpec.upto fnDistinctISpec)

/-- 'laws.FnDistinctS', WHERE WHAT IT READS IS OF BULK AT MOST 1048576: true; the input reads as it did. -/
def fnDistinctSUptoRow : OpenClaim := { program := "ytdophgcjlckpiaa", sum := "75eec58a4e797c43fe432b4e3dcac885661ed8387ec1f14a93e59d631663a642", func := "inlaywork/laws.FnDistinctS", spec := "fnDistinctS", apart := false, narrowed := true }
def FnDistinctSUptoSaid : Prop := fnDistinctSUptoRow.holds Try.pinned (OpenSpec.upto fnDistinctSSpec)

/-- 'laws.FnDistinctU', WHERE WHAT IT READS IS OF BULK AT MOST 1048576: true; the input reads as it did. -/
def fnDistinctUUptoRow : OpenClaim := { program := "ytdophgcjlckpiaa", sum := "75eec58a4e797c43fe432b4e3dcac885661ed8387ec1f14a93e59d631663a642", func := "inlaywork/laws.FnDistinctU", spec := "fnDistinctU", apart := false, narrowed := true }
def FnDistinctUUptoSaid : Prop := fnDistinctUUptoRow.holds Try.pinned (OpenSpec.upto fnDistinctUSpec)

/-- 'laws.FnEncodeI', WHERE WHAT IT READS IS OF BULK AT MOST 1048576: true; the input reads as it did. -/
def fnEncodeIUptoRow : OpenClaim := { program := "ytdophgcjlckpiaa", sum := "75eec58a4e797c43fe432b4e3dcac885661ed8387ec1f14a93e59d631663a642", func := "inlaywork/laws.FnEncodeI", spec := "fnEncodeI", unfollowed := true, recurses := true, apart := false, narrowed := true }
def FnEncodeIUptoSaid : Prop := fnEncodeIUptoRow.holds Try.pinned (OpenSpec.upto fnEncodeISpec)

/-- 'laws.FnEncodeS', WHERE WHAT IT READS IS OF BULK AT MOST 1048576: true; the input reads as it did. -/
def fnEncodeSUptoRow : OpenClaim := { program := "ytdophgcjlckpiaa", sum := "75eec58a4e797c43fe432b4e3dcac885661ed8387ec1f14a93e59d631663a642", func := "inlaywork/laws.FnEncodeS", spec := "fnEncodeS", unfollowed := true, recurses := true, apart := false, narrowed := true }
def FnEncodeSUptoSaid : Prop := fnEncodeSUptoRow.holds Try.pinned (OpenSpec.upto fnEncodeSSpec)

/-- 'laws.FnEncodeU', WHERE WHAT IT READS IS OF BULK AT MOST 1048576: true; the input reads as it did. -/
def fnEncodeUUptoRow : OpenClaim := { program := "ytdophgcjlckpiaa", sum := "75eec58a4e797c43fe432b4e3dcac885661ed8387ec1f14a93e59d631663a642", func := "inlaywork/laws.FnEncodeU", spec := "fnEncodeU", unfollowed := true, recurses := true, apart := false, narrowed := true }
def FnEncodeUUptoSaid : Prop := fnEncodeUUptoRow.holds Try.pinned (OpenSpec.upto fnEncodeUSpec)

/-- 'laws.FnSame', WHERE WHAT IT READS IS OF BULK AT MOST 1048576: true; the input reads as it did. -/
def fnSameUptoRow : OpenClaim := { program := "ytdophgcjlckpiaa", sum := "75eec58a4e797c43fe432b4e3dcac885661ed8387ec1f14a93e59d631663a642", func := "inlaywork/laws.FnSame", spec := "fnSame", unfollowed := true, recurses := true, apart := false, narrowed := true }
def FnSameUptoSaid : Prop := fnSameUptoRow.holds Try.pinned (OpenSpec.upto fnSameSpec)

end Rows
end Go.Proofs.Ytdophgcjlckpiaa
