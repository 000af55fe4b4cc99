/-
  No cell of these rows narrows 'for every input' (looked for: loops, veiled, ifaces, maps, wideKeys, modest, calm, conditions, laid).
  DERIVED. THE GIVEN ROWS OF THIS SEAT. 7 by the template 'for every input the law returns true; each argument reads behind the call as it read before'; 0 by the template 'total and deterministic' (their statements: YtjfibofjbofpbaaTotals.lean).
  GIVEN WITH THE SEED: the statements are not yours to turn. If you find one false, say at which input.
  Laid BY PROGRAM, IN A SANDBOX (cutbox-rows.mjs): the forced cells as the released guide's own fill.sh prints them over the translation 5870850af3dae3b1… (all of the seat's roots in one cut). By AI agents, Wed Nov 11 2026. No macro, syntax, notation, axiom, sorry.
-/
import Derived.Test.YtjfibofjbofpbaaChecked
import GoSem.Claim
import GoSem.ClaimJoined
import GoSem.ClaimMapViews
import Derived.JoinedTies
import Derived.KernelRfl
namespace Go.Proofs.Ytjfibofjbofpbaa
/- THE CELL 'sum', in the pinned program and in every row, IS THE sha256 OF THE DUMP (.gsa) THAT YtjfibofjbofpbaaProg.lean LOADS. Nothing in Lean hashes anything: it is a label: what it is worth is what the hold of that sum in a sandbox is worth. -/
noncomputable def Try.pinned : Pinned := { name := "ytjfibofjbofpbaa", sum := "5870850af3dae3b1aa4946e899e0c215f84f096f1345779b1d3790136acb2cdb", checked := Try.checked }
namespace Rows
def none {H : Type} : Left H := { results := [], args := [] }

/-- 'laws.FnZigZag': WHATEVER THE INPUT: true; the input reads as it did. -/
def fnZigZagSpec : ChangeSpec := { name := "fnZigZag", fn := fun _ => fun
  | [d] => { results := [.lit (.bool true)], args := [d] }
  | _ => none }
def fnZigZagRow : OpenClaim := { program := "ytjfibofjbofpbaa", sum := "5870850af3dae3b1aa4946e899e0c215f84f096f1345779b1d3790136acb2cdb", func := "loop.example/pub-g03434/laws.FnZigZag", spec := "fnZigZag", apart := false }
def FnZigZagSaid : Prop := fnZigZagRow.holds Try.pinned (OpenSpec.ofChange fnZigZagSpec)

/-- ITS FALSE NEIGHBOUR: 'it returns false'. Refute it at one input. -/
def fnZigZagWrong : ChangeSpec := { name := "fnZigZag", fn := fun _ => fun
  | [d] => { results := [.lit (.bool false)], args := [d] }
  | _ => none }
def FnZigZagWrongFalsely : Prop := fnZigZagRow.holds Try.pinned (OpenSpec.ofChange fnZigZagWrong)

/-- 'laws.FnFolded': WHATEVER THE INPUT: true; the input reads as it did. -/
def fnFoldedSpec : ChangeSpec := { name := "fnFolded", fn := fun _ => fun
  | [d] => { results := [.lit (.bool true)], args := [d] }
  | _ => none }
def fnFoldedRow : OpenClaim := { program := "ytjfibofjbofpbaa", sum := "5870850af3dae3b1aa4946e899e0c215f84f096f1345779b1d3790136acb2cdb", func := "loop.example/pub-g03434/laws.FnFolded", spec := "fnFolded", apart := false }
def FnFoldedSaid : Prop := fnFoldedRow.holds Try.pinned (OpenSpec.ofChange fnFoldedSpec)

/-- ITS FALSE NEIGHBOUR: 'it returns false'. Refute it at one input. -/
def fnFoldedWrong : ChangeSpec := { name := "fnFolded", fn := fun _ => fun
  | [d] => { results := [.lit (.bool false)], args := [d] }
  | _ => none }
def FnFoldedWrongFalsely : Prop := fnFoldedRow.holds Try.pinned (OpenSpec.ofChange fnFoldedWrong)

/-- 'laws.FnFoldedBack': WHATEVER THE INPUT: true; the input reads as it did. -/
def fnFoldedBackSpec : ChangeSpec := { name := "fnFoldedBack", fn := fun _ => fun
  | [d] => { results := [.lit (.bool true)], args := [d] }
  | _ => none }
def fnFoldedBackRow : OpenClaim := { program := "ytjfibofjbofpbaa", sum := "5870850af3dae3b1aa4946e899e0c215f84f096f1345779b1d3790136acb2cdb", func := "loop.example/pub-g03434/laws.FnFoldedBack", spec := "fnFoldedBack", apart := false }
def FnFoldedBackSaid : Prop := fnFoldedBackRow.holds Try.pinned (OpenSpec.ofChange fnFoldedBackSpec)

/-- ITS FALSE NEIGHBOUR: 'it returns false'. Refute it at one input. -/
def fnFoldedBackWrong : ChangeSpec := { name := "fnFoldedBack", fn := fun _ => fun
  | [d] => { results := [.lit (.bool false)], args := [d] }
  | _ => none }
def FnFoldedBackWrongFalsely : Prop := fnFoldedBackRow.holds Try.pinned (OpenSpec.ofChange fnFoldedBackWrong)

/-- 'laws.FnSigned': WHATEVER THE INPUT: true; the input reads as it did. -/
def fnSignedSpec : ChangeSpec := { name := "fnSigned", fn := fun _ => fun
  | [d1, d2] => { results := [.lit (.bool true)], args := [d1, d2] }
  | _ => none }
def fnSignedRow : OpenClaim := { program := "ytjfibofjbofpbaa", sum := "5870850af3dae3b1aa4946e899e0c215f84f096f1345779b1d3790136acb2cdb", func := "loop.example/pub-g03434/laws.FnSigned", spec := "fnSigned", apart := false }
def FnSignedSaid : Prop := fnSignedRow.holds Try.pinned (OpenSpec.ofChange fnSignedSpec)

/-- ITS FALSE NEIGHBOUR: 'it returns false'. Refute it at one input. -/
def fnSignedWrong : ChangeSpec := { name := "fnSigned", fn := fun _ => fun
  | [d1, d2] => { results := [.lit (.bool false)], args := [d1, d2] }
  | _ => none }
def FnSignedWrongFalsely : Prop := fnSignedRow.holds Try.pinned (OpenSpec.ofChange fnSignedWrong)

/-- 'laws.FnCrc16': WHATEVER THE INPUT: true; the input reads as it did. -/
def fnCrc16Spec : ChangeSpec := { name := "fnCrc16", fn := fun _ => fun
  | [d] => { results := [.lit (.bool true)], args := [d] }
  | _ => none }
def fnCrc16Row : OpenClaim := { program := "ytjfibofjbofpbaa", sum := "5870850af3dae3b1aa4946e899e0c215f84f096f1345779b1d3790136acb2cdb", func := "loop.example/pub-g03434/laws.FnCrc16", spec := "fnCrc16", apart := false }
def FnCrc16Said : Prop := fnCrc16Row.holds Try.pinned (OpenSpec.ofChange fnCrc16Spec)

/-- ITS FALSE NEIGHBOUR: 'it returns false'. Refute it at one input. -/
def fnCrc16Wrong : ChangeSpec := { name := "fnCrc16", fn := fun _ => fun
  | [d] => { results := [.lit (.bool false)], args := [d] }
  | _ => none }
def FnCrc16WrongFalsely : Prop := fnCrc16Row.holds Try.pinned (OpenSpec.ofChange fnCrc16Wrong)

/-- 'laws.FnCrc8': WHATEVER THE INPUT: true; the input reads as it did. -/
def fnCrc8Spec : ChangeSpec := { name := "fnCrc8", fn := fun _ => fun
  | [d] => { results := [.lit (.bool true)], args := [d] }
  | _ => none }
def fnCrc8Row : OpenClaim := { program := "ytjfibofjbofpbaa", sum := "5870850af3dae3b1aa4946e899e0c215f84f096f1345779b1d3790136acb2cdb", func := "loop.example/pub-g03434/laws.FnCrc8", spec := "fnCrc8", apart := false }
def FnCrc8Said : Prop := fnCrc8Row.holds Try.pinned (OpenSpec.ofChange fnCrc8Spec)

/-- ITS FALSE NEIGHBOUR: 'it returns false'. Refute it at one input. -/
def fnCrc8Wrong : ChangeSpec := { name := "fnCrc8", fn := fun _ => fun
  | [d] => { results := [.lit (.bool false)], args := [d] }
  | _ => none }
def FnCrc8WrongFalsely : Prop := fnCrc8Row.holds Try.pinned (OpenSpec.ofChange fnCrc8Wrong)

/-- 'laws.FnCrcEnd': WHATEVER THE INPUT: true; the input reads as it did. -/
def fnCrcEndSpec : ChangeSpec := { name := "fnCrcEnd", fn := fun _ => fun
  | [d] => { results := [.lit (.bool true)], args := [d] }
  | _ => none }
def fnCrcEndRow : OpenClaim := { program := "ytjfibofjbofpbaa", sum := "5870850af3dae3b1aa4946e899e0c215f84f096f1345779b1d3790136acb2cdb", func := "loop.example/pub-g03434/laws.FnCrcEnd", spec := "fnCrcEnd", apart := false }
def FnCrcEndSaid : Prop := fnCrcEndRow.holds Try.pinned (OpenSpec.ofChange fnCrcEndSpec)

/-- ITS FALSE NEIGHBOUR: 'it returns false'. Refute it at one input. -/
def fnCrcEndWrong : ChangeSpec := { name := "fnCrcEnd", fn := fun _ => fun
  | [d] => { results := [.lit (.bool false)], args := [d] }
  | _ => none }
def FnCrcEndWrongFalsely : Prop := fnCrcEndRow.holds Try.pinned (OpenSpec.ofChange fnCrcEndWrong)

/- THE SECOND FORM. 'bulk': how many values and letters a reading holds, each counted each time it is reached (what is shared counts as often as it is met; a slice's spare places count too). A statement '..UptoSaid' is the law's where the arguments, and the package variables that the reading takes, are together of bulk at most 1048576: NARROWER than '..Said'. Prove '..Said' where nothing that the law and all that it calls make is longer than what came in: it says more and counts as full. Else prove '..UptoSaid'. A law counts once. -/
mutual
def uptoBulk {H : Type} : DataW H → Nat
  | .lit (.string bytes) => bytes.length + 1
  | .lit _ => 1
  | .nil => 1
  | .ptr d => uptoBulk d + 1
  | .slice elems spare => uptoBulkAll elems + uptoBulkAll spare + 1
  | .agg parts => uptoBulkAll parts + 1
  | .iface _ d => uptoBulk d + 1
  | .map entries => uptoBulkEntries entries + 1
  | .held _ => 1
def uptoBulkAll {H : Type} : List (DataW H) → Nat
  | [] => 0
  | d :: r => uptoBulk d + uptoBulkAll r
def uptoBulkEntries {H : Type} : List (Lit × DataW H) → Nat
  | [] => 0
  | x :: r => uptoBulkEntry x + uptoBulkEntries r
def uptoBulkEntry {H : Type} : Lit × DataW H → Nat
  | (.string bytes, d) => bytes.length + uptoBulk d + 1
  | (_, d) => uptoBulk d + 1
 end
def uptoSmall : (H : Type) → List (DataW H) → Bool := fun _ ds => decide (uptoBulkAll ds ≤ 1048576)
def OpenSpec.upto (s : _root_.Go.ChangeSpec) : _root_.Go.OpenSpec := { _root_.Go.OpenSpec.ofChange s with cond := some uptoSmall }

/-- 'laws.FnZigZag', WHERE WHAT IT READS IS OF BULK AT MOST 1048576: true; the input reads as it did. -/
def fnZigZagUptoRow : OpenClaim := { program := "ytjfibofjbofpbaa", sum := "5870850af3dae3b1aa4946e899e0c215f84f096f1345779b1d3790136acb2cdb", func := "loop.example/pub-g03434/laws.FnZigZag", spec := "fnZigZag", apart := false, narrowed := true }
def FnZigZagUptoSaid : Prop := fnZigZagUptoRow.holds Try.pinned (OpenSpec.upto fnZigZagSpec)

/-- 'laws.FnFolded', WHERE WHAT IT READS IS OF BULK AT MOST 1048576: true; the input reads as it did. -/
def fnFoldedUptoRow : OpenClaim := { program := "ytjfibofjbofpbaa", sum := "5870850af3dae3b1aa4946e899e0c215f84f096f1345779b1d3790136acb2cdb", func := "loop.example/pub-g03434/laws.FnFolded", spec := "fnFolded", apart := false, narrowed := true }
def FnFoldedUptoSaid : Prop := fnFoldedUptoRow.holds Try.pinned (OpenSpec.upto fnFoldedSpec)

/-- 'laws.FnFoldedBack', WHERE WHAT IT READS IS OF BULK AT MOST 1048576: true; the input reads as it did. -/
def fnFoldedBackUptoRow : OpenClaim := { program := "ytjfibofjbofpbaa", sum := "5870850af3dae3b1aa4946e899e0c215f84f096f1345779b1d3790136acb2cdb", func := "loop.example/pub-g03434/laws.FnFoldedBack", spec := "fnFoldedBack", apart := false, narrowed := true }
def FnFoldedBackUptoSaid : Prop := fnFoldedBackUptoRow.holds Try.pinned (OpenSpec.upto fnFoldedBackSpec)

/-- 'laws.FnSigned', WHERE WHAT IT READS IS OF BULK AT MOST 1048576: true; the input reads as it did. -/
def fnSignedUptoRow : OpenClaim := { program := "ytjfibofjbofpbaa", sum := "5870850af3dae3b1aa4946e899e0c215f84f096f1345779b1d3790136acb2cdb", func := "loop.example/pub-g03434/laws.FnSigned", spec := "fnSigned", apart := false, narrowed := true }
def FnSignedUptoSaid : Prop := fnSignedUptoRow.holds Try.pinned (OpenSpec.upto fnSignedSpec)

/-- 'laws.FnCrc16', WHERE WHAT IT READS IS OF BULK AT MOST 1048576: true; the input reads as it did. -/
def fnCrc16UptoRow : OpenClaim := { program := "ytjfibofjbofpbaa", sum := "5870850af3dae3b1aa4946e899e0c215f84f096f1345779b1d3790136acb2cdb", func := "loop.example/pub-g03434/laws.FnCrc16", spec := "fnCrc16", apart := false, narrowed := true }
def FnCrc16UptoSaid : Prop := fnCrc16UptoRow.holds Try.pinned (OpenSpec.upto fnCrc16Spec)

/-- 'laws.FnCrc8', WHERE WHAT IT READS IS OF BULK AT MOST 1048576: true; the input reads as it did. -/
def fnCrc8UptoRow : OpenClaim := { program := "ytjfibofjbofpbaa", sum := "5870850af3dae3b1aa4946e899e0c215f84f096f1345779b1d3790136acb2cdb", func := "loop.example/pub-g03434/laws.FnCrc8", spec := "fnCrc8", apart := false, narrowed := true }
def FnCrc8UptoSaid : Prop := fnCrc8UptoRow.holds Try.pinned (OpenSpec.upto fnCrc8Spec)

/-- 'laws.FnCrcEnd', WHERE WHAT IT READS IS OF BULK AT MOST 1048576: true; the input reads as it did. -/
def fnCrcEndUptoRow : OpenClaim := { program := "ytjfibofjbofpbaa", sum := "5870850af3dae3b1aa4946e899e0c215f84f096f1345779b1d3790136acb2cdb", func := "loop.example/pub-g03434/laws.FnCrcEnd", spec := "fnCrcEnd", apart := false, narrowed := true }
def FnCrcEndUptoSaid : Prop := fnCrcEndUptoRow.holds Try.pinned (OpenSpec.upto fnCrcEndSpec)

end Rows
end Go.Proofs.Ytjfibofjbofpbaa
