/- The listed variables of this seat: the cells of frame.nChannels; a world that holds them. Turned from the kit's worked proofs Sent6Proofs, ClktiedProofs. -/
import Derived.Test.YtmcllndnjdemaaaGreatDoorRows
import Derived.Test.YtmcllndnjdemaaaGreatDoorHpAll
import Derived.Stop.LaidErr
import Derived.LaidLaws
import Derived.OpenVars
import Derived.OpenShut
import Derived.Handed
import Derived.RowKit
import Derived.RowKitTokens
namespace Go.Proofs.YtmcllndnjdemaaaGreatDoor.Walk
open Go Go.RowKit Go.ChangeShapes
set_option linter.unusedVariables false
abbrev nCh : String := "loop.example/pub-g03434/pub/flac/frame.nChannels"
abbrev theLaid : List (String × DataW Unit) := [("io.ErrShortWrite", Rows.laid_io_ErrShortWrite), ("io.errInvalidWrite", Rows.laid_io_errInvalidWrite), ("io.EOF", Rows.laid_io_EOF), (nCh, Rows.laid_loop_example_pub_g03434_pub_flac_frame_nChannels)]
theorem gCh : Tryz.prog.globalNamed nCh = some 0 := by kernel_rfl
theorem tCh : (Tryz.prog.globals[0]?).map (·.type) = some 189 := by kernel_rfl
theorem cellsCh : Tryz.prog.cellsOf 189 = 11 := by kernel_rfl
theorem cellsInt : Tryz.prog.cellsOf 3 = 1 := by kernel_rfl
theorem nch_of_laid {W : World} (h : laidMet Tryz.prog theLaid W) : NCh W := by
 obtain ⟨ps, ⟨g, t, cs, fuel, p, q, hg, ht, hv, hd, _, _⟩, _, _⟩ := h.tail.tail.tail
 obtain rfl := Option.some.inj (gCh.symm.trans hg)
 obtain rfl := Option.some.inj (tCh.symm.trans ht)
 obtain ⟨xs, m, _, ex, hlen, hl, hel⟩ := DataW.trod_array Tryz.underlying189 hd
 rw [cellsCh] at hlen
 rw [cellsInt] at hel
 have e3 := (DataW.agg.inj (Prod.mk.inj ex).1)
 intro i hi
 rw [World.var?_cell gCh hv i]
 have k0 := hel i (by omega)
 obtain ⟨x, hx⟩ : ∃ x, xs[i]? = some x := ⟨xs[i]'(by omega), List.getElem?_eq_getElem (by omega)⟩
 rw [hx] at k0
 obtain ⟨z, a0, b0, _⟩ := DataW.trod_int Tryz.underlying3 k0
 have h1 : (xs.map (·.1))[i]? = some (DataW.lit (.int .i64 z)) := by rw [List.getElem?_map, hx, b0]; rfl
 rw [← e3] at h1
 have h2 : z = ((i + 1 : Nat) : Int) := by
  rcases (by omega : i = 0 ∨ i = 1 ∨ i = 2 ∨ i = 3 ∨ i = 4 ∨ i = 5 ∨ i = 6 ∨ i = 7) with h | h | h | h | h | h | h | h <;> (subst h; simp at h1; omega)
 have h3 : cs.toList[i]? = some (.int .i64 z) := by
  have h4 := congrArg (·[0]?) a0
  simpa [List.getElem?_take, List.getElem?_drop] using h4
 rw [← h2]
 simpa using h3
abbrev sShortW : ByteArray := { data := #[115, 104, 111, 114, 116, 32, 119, 114, 105, 116, 101] }
abbrev sInvW : ByteArray := { data := #[105, 110, 118, 97, 108, 105, 100, 32, 119, 114, 105, 116, 101, 32, 114, 101, 115, 117, 108, 116] }
abbrev sEof : ByteArray := { data := #[69, 79, 70] }
noncomputable def lowW : Nat := (World.holding Tryz.prog default ⟨#[], #[], []⟩).heap.size
def putErr (a : Nat) : Obj → Obj
 | .cells _ t frozen => .cells #[.iface 186 (.pointer (some ⟨a, 0, none⟩))] t frozen
 | o => o
def putNum : Obj → Obj
 | .cells _ t frozen => .cells #[.int .i64 1, .int .i64 2, .int .i64 3, .int .i64 4, .int .i64 5, .int .i64 6, .int .i64 7, .int .i64 8, .int .i64 2, .int .i64 2, .int .i64 2] t frozen
 | o => o
noncomputable def laidWorld (os : Os) : World :=
 let w0 := World.holding Tryz.prog os ⟨#[.cells #[.string sShortW] 188, .cells #[.string sInvW] 188, .cells #[.string sEof] 188], #[], []⟩
 { w0 with heap := (((w0.heap.modify 4 (putErr lowW)).modify 3 (putErr (lowW + 1))).modify 1 (putErr (lowW + 2))).modify 0 putNum }
theorem laidWorld_met (os : Os) (args : Array Value) : laidMet Tryz.prog theLaid ((laidWorld os).forCall (fun _ _ => 0) ⟨#[], args, []⟩).memory :=
 laidMet_of_run (ps := [.cell 4 0, .cell lowW 0, .cell 3 0, .cell (lowW + 1) 0, .cell 1 0, .cell (lowW + 2) 0, .cell 0 0, .cell 0 1, .cell 0 2, .cell 0 3, .cell 0 4, .cell 0 5, .cell 0 6, .cell 0 7, .cell 0 8, .cell 0 9, .cell 0 10]) 8 (by kernel_rfl) (by kernel_rfl) (by kernel_rfl)
end Go.Proofs.YtmcllndnjdemaaaGreatDoor.Walk
