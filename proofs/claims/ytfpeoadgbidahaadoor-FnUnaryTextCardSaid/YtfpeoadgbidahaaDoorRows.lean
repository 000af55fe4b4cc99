/-
  NARROWER THAN 'FOR EVERY INPUT', by the rows' own cells (each row's printed sentence says how): FnWords: laid · FnUnary: laid · FnNumber: laid · FnNumberBack: laid · FnUnaryText: laid · FnNumberThere: laid.
  DERIVED. THE GIVEN ROWS OF THIS SEAT. 6 by the template 'for every input the law returns true; each argument reads behind the call as it read before'; 0 by the template 'total and deterministic' (their statements: YtfpeoadgbidahaaDoorTotals.lean).
  GIVEN WITH THE SEED: the statements are not yours to turn. If you find one false, say at which input.
  Laid BY PROGRAM, IN A SANDBOX (cutbox-rows.mjs): the forced cells as the released guide's own fill.sh prints them over the translation d4a8bace7e380587… (all of the seat's roots in one cut). By AI agents, Wed Nov 11 2026. No macro, syntax, notation, axiom, sorry.
-/
import Derived.Test.YtfpeoadgbidahaaDoorChecked
import GoSem.Claim
import GoSem.ClaimJoined
import GoSem.ClaimMapViews
import Derived.JoinedTies
import Derived.KernelRfl
namespace Go.Proofs.YtfpeoadgbidahaaDoor
/- THE CELL 'sum', in the pinned program and in every row, IS THE sha256 OF THE DUMP (.gsa) THAT YtfpeoadgbidahaaDoorProg.lean LOADS. Nothing in Lean hashes anything: it is a label: what it is worth is what the hold of that sum in a sandbox is worth. -/
noncomputable def Tryd.pinned : Pinned := { name := "ytfpeoadgbidahaadoor", sum := "d4a8bace7e3805877b88782dfeea9c08d7c7a50b439e5ea5adefc5fcbe3b54ed", checked := Tryd.checked }
namespace Rows
def none {H : Type} : Left H := { results := [], args := [] }

/- WHAT THE LISTED PACKAGE-LEVEL VARIABLES READ AS WHEN THE CALL BEGINS. Each datum BY PROGRAM (the guide's laid-datum.mjs) off the statement by which the dump's own 'gosem.cut.vars' lays the variable. In a bare row this is a premise. The card (YtfpeoadgbidahaaDoorCards.lean) ties it to the program's text. -/
def laid_io_ErrShortBuffer {H : Type} : DataW H := .iface "*errors.errorString" (.ptr (.agg [.lit (.string [115, 104, 111, 114, 116, 32, 98, 117, 102, 102, 101, 114])]))
def laid_io_EOF {H : Type} : DataW H := .iface "*errors.errorString" (.ptr (.agg [.lit (.string [69, 79, 70])]))
def laid_io_ErrUnexpectedEOF {H : Type} : DataW H := .iface "*errors.errorString" (.ptr (.agg [.lit (.string [117, 110, 101, 120, 112, 101, 99, 116, 101, 100, 32, 69, 79, 70])]))

/-- 'laws.FnWords': WHATEVER THE INPUT: true; the input reads as it did. -/
def fnWordsSpec : ChangeSpec := { name := "fnWords", fn := fun _ => fun
  | [d1, d2] => { results := [.lit (.bool true)], args := [d1, d2] }
  | _ => none }
def fnWordsRow : OpenClaim := { program := "ytfpeoadgbidahaadoor", sum := "d4a8bace7e3805877b88782dfeea9c08d7c7a50b439e5ea5adefc5fcbe3b54ed", func := "loop.example/pub-g03434/laws.FnWords", spec := "fnWords", unfollowed := true, recurses := true, named := ["io.ErrShortBuffer", "io.EOF", "io.ErrUnexpectedEOF"], apart := false, laid := [("io.ErrShortBuffer", laid_io_ErrShortBuffer), ("io.EOF", laid_io_EOF), ("io.ErrUnexpectedEOF", laid_io_ErrUnexpectedEOF)] }
def FnWordsSaid : Prop := fnWordsRow.holds Tryd.pinned (OpenSpec.ofChange fnWordsSpec)

/-- ITS FALSE NEIGHBOUR: 'it returns false'. Refute it at one input. -/
def fnWordsWrong : ChangeSpec := { name := "fnWords", fn := fun _ => fun
  | [d1, d2] => { results := [.lit (.bool false)], args := [d1, d2] }
  | _ => none }
def FnWordsWrongFalsely : Prop := fnWordsRow.holds Tryd.pinned (OpenSpec.ofChange fnWordsWrong)

/-- 'laws.FnUnary': WHATEVER THE INPUT: true; the input reads as it did. -/
def fnUnarySpec : ChangeSpec := { name := "fnUnary", fn := fun _ => fun
  | [d] => { results := [.lit (.bool true)], args := [d] }
  | _ => none }
def fnUnaryRow : OpenClaim := { program := "ytfpeoadgbidahaadoor", sum := "d4a8bace7e3805877b88782dfeea9c08d7c7a50b439e5ea5adefc5fcbe3b54ed", func := "loop.example/pub-g03434/laws.FnUnary", spec := "fnUnary", unfollowed := true, recurses := true, named := ["io.ErrShortBuffer", "io.EOF", "io.ErrUnexpectedEOF"], apart := false, laid := [("io.ErrShortBuffer", laid_io_ErrShortBuffer), ("io.EOF", laid_io_EOF), ("io.ErrUnexpectedEOF", laid_io_ErrUnexpectedEOF)] }
def FnUnarySaid : Prop := fnUnaryRow.holds Tryd.pinned (OpenSpec.ofChange fnUnarySpec)

/-- ITS FALSE NEIGHBOUR: 'it returns false'. Refute it at one input. -/
def fnUnaryWrong : ChangeSpec := { name := "fnUnary", fn := fun _ => fun
  | [d] => { results := [.lit (.bool false)], args := [d] }
  | _ => none }
def FnUnaryWrongFalsely : Prop := fnUnaryRow.holds Tryd.pinned (OpenSpec.ofChange fnUnaryWrong)

/-- 'laws.FnNumber': WHATEVER THE INPUT: true; the input reads as it did. -/
def fnNumberSpec : ChangeSpec := { name := "fnNumber", fn := fun _ => fun
  | [d] => { results := [.lit (.bool true)], args := [d] }
  | _ => none }
def fnNumberRow : OpenClaim := { program := "ytfpeoadgbidahaadoor", sum := "d4a8bace7e3805877b88782dfeea9c08d7c7a50b439e5ea5adefc5fcbe3b54ed", func := "loop.example/pub-g03434/laws.FnNumber", spec := "fnNumber", unfollowed := true, recurses := true, named := ["io.EOF", "io.ErrUnexpectedEOF", "io.ErrShortBuffer"], apart := false, laid := [("io.ErrShortBuffer", laid_io_ErrShortBuffer), ("io.EOF", laid_io_EOF), ("io.ErrUnexpectedEOF", laid_io_ErrUnexpectedEOF)] }
def FnNumberSaid : Prop := fnNumberRow.holds Tryd.pinned (OpenSpec.ofChange fnNumberSpec)

/-- ITS FALSE NEIGHBOUR: 'it returns false'. Refute it at one input. -/
def fnNumberWrong : ChangeSpec := { name := "fnNumber", fn := fun _ => fun
  | [d] => { results := [.lit (.bool false)], args := [d] }
  | _ => none }
def FnNumberWrongFalsely : Prop := fnNumberRow.holds Tryd.pinned (OpenSpec.ofChange fnNumberWrong)

/-- 'laws.FnNumberBack': WHATEVER THE INPUT: true; the input reads as it did. -/
def fnNumberBackSpec : ChangeSpec := { name := "fnNumberBack", fn := fun _ => fun
  | [d1, d2] => { results := [.lit (.bool true)], args := [d1, d2] }
  | _ => none }
def fnNumberBackRow : OpenClaim := { program := "ytfpeoadgbidahaadoor", sum := "d4a8bace7e3805877b88782dfeea9c08d7c7a50b439e5ea5adefc5fcbe3b54ed", func := "loop.example/pub-g03434/laws.FnNumberBack", spec := "fnNumberBack", unfollowed := true, recurses := true, named := ["io.EOF", "io.ErrUnexpectedEOF", "io.ErrShortBuffer"], apart := false, laid := [("io.ErrShortBuffer", laid_io_ErrShortBuffer), ("io.EOF", laid_io_EOF), ("io.ErrUnexpectedEOF", laid_io_ErrUnexpectedEOF)] }
def FnNumberBackSaid : Prop := fnNumberBackRow.holds Tryd.pinned (OpenSpec.ofChange fnNumberBackSpec)

/-- ITS FALSE NEIGHBOUR: 'it returns false'. Refute it at one input. -/
def fnNumberBackWrong : ChangeSpec := { name := "fnNumberBack", fn := fun _ => fun
  | [d1, d2] => { results := [.lit (.bool false)], args := [d1, d2] }
  | _ => none }
def FnNumberBackWrongFalsely : Prop := fnNumberBackRow.holds Tryd.pinned (OpenSpec.ofChange fnNumberBackWrong)

/-- 'laws.FnUnaryText': WHATEVER THE INPUT: true; the input reads as it did. -/
def fnUnaryTextSpec : ChangeSpec := { name := "fnUnaryText", fn := fun _ => fun
  | [d] => { results := [.lit (.bool true)], args := [d] }
  | _ => none }
def fnUnaryTextRow : OpenClaim := { program := "ytfpeoadgbidahaadoor", sum := "d4a8bace7e3805877b88782dfeea9c08d7c7a50b439e5ea5adefc5fcbe3b54ed", func := "loop.example/pub-g03434/laws.FnUnaryText", spec := "fnUnaryText", unfollowed := true, recurses := true, named := ["io.ErrShortBuffer", "io.EOF", "io.ErrUnexpectedEOF"], apart := false, laid := [("io.ErrShortBuffer", laid_io_ErrShortBuffer), ("io.EOF", laid_io_EOF), ("io.ErrUnexpectedEOF", laid_io_ErrUnexpectedEOF)] }
def FnUnaryTextSaid : Prop := fnUnaryTextRow.holds Tryd.pinned (OpenSpec.ofChange fnUnaryTextSpec)

/-- ITS FALSE NEIGHBOUR: 'it returns false'. Refute it at one input. -/
def fnUnaryTextWrong : ChangeSpec := { name := "fnUnaryText", fn := fun _ => fun
  | [d] => { results := [.lit (.bool false)], args := [d] }
  | _ => none }
def FnUnaryTextWrongFalsely : Prop := fnUnaryTextRow.holds Tryd.pinned (OpenSpec.ofChange fnUnaryTextWrong)

/-- 'laws.FnNumberThere': WHATEVER THE INPUT: true; the input reads as it did. -/
def fnNumberThereSpec : ChangeSpec := { name := "fnNumberThere", fn := fun _ => fun
  | [d1, d2] => { results := [.lit (.bool true)], args := [d1, d2] }
  | _ => none }
def fnNumberThereRow : OpenClaim := { program := "ytfpeoadgbidahaadoor", sum := "d4a8bace7e3805877b88782dfeea9c08d7c7a50b439e5ea5adefc5fcbe3b54ed", func := "loop.example/pub-g03434/laws.FnNumberThere", spec := "fnNumberThere", unfollowed := true, recurses := true, named := ["io.EOF", "io.ErrUnexpectedEOF", "io.ErrShortBuffer"], apart := false, laid := [("io.ErrShortBuffer", laid_io_ErrShortBuffer), ("io.EOF", laid_io_EOF), ("io.ErrUnexpectedEOF", laid_io_ErrUnexpectedEOF)] }
def FnNumberThereSaid : Prop := fnNumberThereRow.holds Tryd.pinned (OpenSpec.ofChange fnNumberThereSpec)

/-- ITS FALSE NEIGHBOUR: 'it returns false'. Refute it at one input. -/
def fnNumberThereWrong : ChangeSpec := { name := "fnNumberThere", fn := fun _ => fun
  | [d1, d2] => { results := [.lit (.bool false)], args := [d1, d2] }
  | _ => none }
def FnNumberThereWrongFalsely : Prop := fnNumberThereRow.holds Tryd.pinned (OpenSpec.ofChange fnNumberThereWrong)

/- THE SECOND FORM. 'bulk': how many values and letters a reading holds, each counted each time it is reached (what is shared counts as often as it is met; a slice's spare places count too). A statement '..UptoSaid' is the law's where the arguments, and the package variables that the reading takes, are together of bulk at most 1048576: NARROWER than '..Said'. Prove '..Said' where nothing that the law and all that it calls make is longer than what came in: it says more and counts as full. Else prove '..UptoSaid'. A law counts once. -/
mutual
def uptoBulk {H : Type} : DataW H → Nat
  | .lit (.string bytes) => bytes.length + 1
  | .lit _ => 1
  | .nil => 1
  | .ptr d => uptoBulk d + 1
  | .slice elems spare => uptoBulkAll elems + uptoBulkAll spare + 1
  | .agg parts => uptoBulkAll parts + 1
  | .iface _ d => uptoBulk d + 1
  | .map entries => uptoBulkEntries entries + 1
  | .held _ => 1
def uptoBulkAll {H : Type} : List (DataW H) → Nat
  | [] => 0
  | d :: r => uptoBulk d + uptoBulkAll r
def uptoBulkEntries {H : Type} : List (Lit × DataW H) → Nat
  | [] => 0
  | x :: r => uptoBulkEntry x + uptoBulkEntries r
def uptoBulkEntry {H : Type} : Lit × DataW H → Nat
  | (.string bytes, d) => bytes.length + uptoBulk d + 1
  | (_, d) => uptoBulk d + 1
 end
def uptoSmall : (H : Type) → List (DataW H) → Bool := fun _ ds => decide (uptoBulkAll ds ≤ 1048576)
def OpenSpec.upto (s : _root_.Go.ChangeSpec) : _root_.Go.OpenSpec := { _root_.Go.OpenSpec.ofChange s with cond := some uptoSmall }

/-- 'laws.FnWords', WHERE WHAT IT READS IS OF BULK AT MOST 1048576: true; the input reads as it did. -/
def fnWordsUptoRow : OpenClaim := { program := "ytfpeoadgbidahaadoor", sum := "d4a8bace7e3805877b88782dfeea9c08d7c7a50b439e5ea5adefc5fcbe3b54ed", func := "loop.example/pub-g03434/laws.FnWords", spec := "fnWords", unfollowed := true, recurses := true, named := ["io.ErrShortBuffer", "io.EOF", "io.ErrUnexpectedEOF"], apart := false, laid := [("io.ErrShortBuffer", laid_io_ErrShortBuffer), ("io.EOF", laid_io_EOF), ("io.ErrUnexpectedEOF", laid_io_ErrUnexpectedEOF)], narrowed := true }
def FnWordsUptoSaid : Prop := fnWordsUptoRow.holds Tryd.pinned (OpenSpec.upto fnWordsSpec)

/-- 'laws.FnUnary', WHERE WHAT IT READS IS OF BULK AT MOST 1048576: true; the input reads as it did. -/
def fnUnaryUptoRow : OpenClaim := { program := "ytfpeoadgbidahaadoor", sum := "d4a8bace7e3805877b88782dfeea9c08d7c7a50b439e5ea5adefc5fcbe3b54ed", func := "loop.example/pub-g03434/laws.FnUnary", spec := "fnUnary", unfollowed := true, recurses := true, named := ["io.ErrShortBuffer", "io.EOF", "io.ErrUnexpectedEOF"], apart := false, laid := [("io.ErrShortBuffer", laid_io_ErrShortBuffer), ("io.EOF", laid_io_EOF), ("io.ErrUnexpectedEOF", laid_io_ErrUnexpectedEOF)], narrowed := true }
def FnUnaryUptoSaid : Prop := fnUnaryUptoRow.holds Tryd.pinned (OpenSpec.upto fnUnarySpec)

/-- 'laws.FnNumber', WHERE WHAT IT READS IS OF BULK AT MOST 1048576: true; the input reads as it did. -/
def fnNumberUptoRow : OpenClaim := { program := "ytfpeoadgbidahaadoor", sum := "d4a8bace7e3805877b88782dfeea9c08d7c7a50b439e5ea5adefc5fcbe3b54ed", func := "loop.example/pub-g03434/laws.FnNumber", spec := "fnNumber", unfollowed := true, recurses := true, named := ["io.EOF", "io.ErrUnexpectedEOF", "io.ErrShortBuffer"], apart := false, laid := [("io.ErrShortBuffer", laid_io_ErrShortBuffer), ("io.EOF", laid_io_EOF), ("io.ErrUnexpectedEOF", laid_io_ErrUnexpectedEOF)], narrowed := true }
def FnNumberUptoSaid : Prop := fnNumberUptoRow.holds Tryd.pinned (OpenSpec.upto fnNumberSpec)

/-- 'laws.FnNumberBack', WHERE WHAT IT READS IS OF BULK AT MOST 1048576: true; the input reads as it did. -/
def fnNumberBackUptoRow : OpenClaim := { program := "ytfpeoadgbidahaadoor", sum := "d4a8bace7e3805877b88782dfeea9c08d7c7a50b439e5ea5adefc5fcbe3b54ed", func := "loop.example/pub-g03434/laws.FnNumberBack", spec := "fnNumberBack", unfollowed := true, recurses := true, named := ["io.EOF", "io.ErrUnexpectedEOF", "io.ErrShortBuffer"], apart := false, laid := [("io.ErrShortBuffer", laid_io_ErrShortBuffer), ("io.EOF", laid_io_EOF), ("io.ErrUnexpectedEOF", laid_io_ErrUnexpectedEOF)], narrowed := true }
def FnNumberBackUptoSaid : Prop := fnNumberBackUptoRow.holds Tryd.pinned (OpenSpec.upto fnNumberBackSpec)

/-- 'laws.FnUnaryText', WHERE WHAT IT READS IS OF BULK AT MOST 1048576: true; the input reads as it did. -/
def fnUnaryTextUptoRow : OpenClaim := { program := "ytfpeoadgbidahaadoor", sum := "d4a8bace7e3805877b88782dfeea9c08d7c7a50b439e5ea5adefc5fcbe3b54ed", func := "loop.example/pub-g03434/laws.FnUnaryText", spec := "fnUnaryText", unfollowed := true, recurses := true, named := ["io.ErrShortBuffer", "io.EOF", "io.ErrUnexpectedEOF"], apart := false, laid := [("io.ErrShortBuffer", laid_io_ErrShortBuffer), ("io.EOF", laid_io_EOF), ("io.ErrUnexpectedEOF", laid_io_ErrUnexpectedEOF)], narrowed := true }
def FnUnaryTextUptoSaid : Prop := fnUnaryTextUptoRow.holds Tryd.pinned (OpenSpec.upto fnUnaryTextSpec)

/-- 'laws.FnNumberThere', WHERE WHAT IT READS IS OF BULK AT MOST 1048576: true; the input reads as it did. -/
def fnNumberThereUptoRow : OpenClaim := { program := "ytfpeoadgbidahaadoor", sum := "d4a8bace7e3805877b88782dfeea9c08d7c7a50b439e5ea5adefc5fcbe3b54ed", func := "loop.example/pub-g03434/laws.FnNumberThere", spec := "fnNumberThere", unfollowed := true, recurses := true, named := ["io.EOF", "io.ErrUnexpectedEOF", "io.ErrShortBuffer"], apart := false, laid := [("io.ErrShortBuffer", laid_io_ErrShortBuffer), ("io.EOF", laid_io_EOF), ("io.ErrUnexpectedEOF", laid_io_ErrUnexpectedEOF)], narrowed := true }
def FnNumberThereUptoSaid : Prop := fnNumberThereUptoRow.holds Tryd.pinned (OpenSpec.upto fnNumberThereSpec)

end Rows
end Go.Proofs.YtfpeoadgbidahaaDoor
