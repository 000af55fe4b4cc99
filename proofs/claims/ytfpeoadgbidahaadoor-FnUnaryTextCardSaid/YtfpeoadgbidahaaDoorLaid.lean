/- The three laid sentinels of this seat: what the walks ask of them; a world that holds them. Turned from the kit's worked proof Sent6Proofs. -/
import Derived.Test.YtfpeoadgbidahaaDoorRows
import Derived.Test.YtfpeoadgbidahaaDoorFull
import Derived.Stop.LaidErr
import Derived.LaidLaws
import Derived.Handed
import Derived.RowKit
import Derived.RowKitTokens
namespace Go.Proofs.YtfpeoadgbidahaaDoor.Walk
open Go Go.RowKit Go.ChangeShapes
set_option linter.unusedVariables false

abbrev theLaid : List (String × DataW Unit) := [("io.ErrShortBuffer", Rows.laid_io_ErrShortBuffer), ("io.EOF", Rows.laid_io_EOF), ("io.ErrUnexpectedEOF", Rows.laid_io_ErrUnexpectedEOF)]
theorem gShort : Tryd.prog.globalNamed "io.ErrShortBuffer" = some 2 := by kernel_rfl
theorem gEof : Tryd.prog.globalNamed "io.EOF" = some 0 := by kernel_rfl
theorem gUef : Tryd.prog.globalNamed "io.ErrUnexpectedEOF" = some 1 := by kernel_rfl
theorem tShort : (Tryd.prog.globals[2]?).map (·.type) = some 45 := by kernel_rfl
theorem tEof : (Tryd.prog.globals[0]?).map (·.type) = some 45 := by kernel_rfl
theorem tUef : (Tryd.prog.globals[1]?).map (·.type) = some 45 := by kernel_rfl
theorem cellsErr : Tryd.prog.cellsOf 87 = 1 := by kernel_rfl
theorem cellsStr : Tryd.prog.cellsOf 9 = 1 := by kernel_rfl
theorem starErr : "*" ++ "errors.errorString" = "*errors.errorString" := by decide
theorem rowErr (u : TypeId) (h : Tryd.prog.typeName? 3 u = some "*errors.errorString") : u = 85 :=
  typeName_ptr_named (nm := "errors.errorString") (by rw [starErr]; kernel_rfl) (by kernel_rfl) (by decide) u (by rw [starErr]; exact h)

theorem glob_of_laid {W : World} (h : laidMet Tryd.prog theLaid W) : ∃ ea eb, Glob W ea eb ∧ 2 ≤ W.heap.size := by
  obtain ⟨a, s, hv, hc, _⟩ := laid_sentinel h.tail gEof tEof Tryd.underlying45 rowErr Tryd.underlying85 Tryd.underlying87 rfl rfl Tryd.underlying9 cellsErr cellsStr
  obtain ⟨b, s2, hv2, hc2, _⟩ := laid_sentinel h.tail.tail gUef tUef Tryd.underlying45 rowErr Tryd.underlying85 Tryd.underlying87 rfl rfl Tryd.underlying9 cellsErr cellsStr
  have h1 : W.cell? ⟨0, 0, none⟩ = some (.iface 85 (.pointer (some a))) := by simpa using World.var?_cell gEof hv 0
  have h2 : W.cell? ⟨1, 0, none⟩ = some (.iface 85 (.pointer (some b))) := by simpa using World.var?_cell gUef hv2 0
  refine ⟨a, b, ⟨h1, h2⟩, ?_⟩
  rcases Nat.lt_or_ge 1 W.heap.size with h | h
  · exact h
  · simp [World.cell?, Array.getElem?_eq_none h] at h2

/-- A block that the call makes is none of the variables. -/
theorem safe_new {W : World} (h : 2 ≤ W.heap.size) (k : Nat) (hk : W.heap.size ≤ k) : Safe k := by
  unfold Safe; omega

abbrev sShort : ByteArray := { data := #[115, 104, 111, 114, 116, 32, 98, 117, 102, 102, 101, 114] }
abbrev sEof : ByteArray := { data := #[69, 79, 70] }
abbrev sUef : ByteArray := { data := #[117, 110, 101, 120, 112, 101, 99, 116, 101, 100, 32, 69, 79, 70] }
noncomputable def low : Nat := (World.holding Tryd.prog default ⟨#[], #[], []⟩).heap.size
def put (a : Nat) : Obj → Obj
  | .cells _ t frozen => .cells #[.iface 85 (.pointer (some ⟨a, 0, none⟩))] t frozen
  | o => o
/-- A world that holds the listed errors. -/
noncomputable def laidWorld (os : Os) : World :=
  let w0 := World.holding Tryd.prog os ⟨#[.cells #[.string sShort] 87, .cells #[.string sEof] 87, .cells #[.string sUef] 87], #[], []⟩
  { w0 with heap := ((w0.heap.modify 2 (put low)).modify 0 (put (low + 1))).modify 1 (put (low + 2)) }
theorem laidWorld_met (os : Os) (args : Array Value) : laidMet Tryd.prog theLaid ((laidWorld os).forCall (fun _ _ => 0) ⟨#[], args, []⟩).memory :=
  laidMet_of_run (ps := [.cell 2 0, .cell low 0, .cell 0 0, .cell (low + 1) 0, .cell 1 0, .cell (low + 2) 0]) 8 (by kernel_rfl) (by kernel_rfl) (by kernel_rfl)
end Go.Proofs.YtfpeoadgbidahaaDoor.Walk
