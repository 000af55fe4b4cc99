/- The four laid sentinels of this seat: what the walks ask of them; a world that holds them. Turned from the kit's worked proof Sent6Proofs. -/
import Derived.Test.YtcdfbcanebjmfaaDoorRows
import Derived.Test.YtcdfbcanebjmfaaDoorFull
import Derived.Stop.LaidErr
import Derived.LaidLaws
import Derived.Handed
import Derived.RowKit
import Derived.RowKitTokens
namespace Go.Proofs.YtcdfbcanebjmfaaDoor.Walk
open Go Go.RowKit Go.ChangeShapes
set_option linter.unusedVariables false

abbrev nSync : String := "loop.example/pub-g03434/pub/flac/frame.ErrInvalidSync"
abbrev theLaid : List (String × DataW Unit) := [("io.ErrShortBuffer", Rows.laid_io_ErrShortBuffer), ("io.EOF", Rows.laid_io_EOF), ("io.ErrUnexpectedEOF", Rows.laid_io_ErrUnexpectedEOF), (nSync, Rows.laid_loop_example_pub_g03434_pub_flac_frame_ErrInvalidSync)]
theorem gEof : Tryd.prog.globalNamed "io.EOF" = some 1 := by kernel_rfl
theorem gUef : Tryd.prog.globalNamed "io.ErrUnexpectedEOF" = some 2 := by kernel_rfl
theorem gSync : Tryd.prog.globalNamed nSync = some 0 := by kernel_rfl
theorem tEof : (Tryd.prog.globals[1]?).map (·.type) = some 50 := by kernel_rfl
theorem tUef : (Tryd.prog.globals[2]?).map (·.type) = some 50 := by kernel_rfl
theorem tSync : (Tryd.prog.globals[0]?).map (·.type) = some 50 := by kernel_rfl
theorem cellsErr : Tryd.prog.cellsOf 132 = 1 := by kernel_rfl
theorem cellsStr : Tryd.prog.cellsOf 9 = 1 := by kernel_rfl
theorem starErr : "*" ++ "errors.errorString" = "*errors.errorString" := by decide
theorem rowErr (u : TypeId) (h : Tryd.prog.typeName? 3 u = some "*errors.errorString") : u = 130 :=
  typeName_ptr_named (nm := "errors.errorString") (by rw [starErr]; kernel_rfl) (by kernel_rfl) (by decide) u (by rw [starErr]; exact h)

/-- The first listed error: a pointer to a block of its own, and not frozen. -/
theorem laid_err {P : Program} {n nm : String} {text : List UInt8} {r : List (String × DataW Unit)} {W : World} {g : Nat} {ti tp te ts : TypeId} {ms : Array (String × TypeId)} {f : Field}
    (h : laidMet P ((n, .iface nm (.ptr (.agg [.lit (.string text)]))) :: r) W)
    (hg : P.globalNamed n = some g) (ht : (P.globals[g]?).map (·.type) = some ti) (hi : P.underlying ti = some (.interface ms)) (hrow : ∀ u, P.typeName? 3 u = some nm → u = tp)
    (hp : P.underlying tp = some (.pointer te)) (he : P.underlying te = some (.struct #[f])) (hft : f.type = ts) (hfo : f.offset = 0) (hs : P.underlying ts = some .string) (hc : P.cellsOf te = 1) (hcs : P.cellsOf ts = 1) :
    ∃ a : Addr, W.var? P n = some #[.iface tp (.pointer (some a))] ∧ ErrAt W a := by
  obtain ⟨ps, ⟨g0, t0, cs0, f0, p0, q0, hg0, ht0, hv0, hd0, _, e0⟩, _, hrows⟩ := h
  obtain rfl := Option.some.inj (hg.symm.trans hg0)
  obtain rfl := Option.some.inj (ht.symm.trans ht0)
  subst e0
  obtain ⟨l0⟩ := cs0
  have ok0 : ∀ u v, l0 = [.iface u v] → Value.okWide P W .any 0 u v := fun u v e => by
    subst e
    exact (hrows g 0 (by simp [MemPlace.row])).2 u v (by simpa using World.var?_cell hg0 hv0 0)
  obtain ⟨a0, s0, rfl, hc0, hs0, hz0, rfl⟩ := errorString_of_trod hi hrow hp he hft hfo hs hc hcs hd0 ok0
  exact ⟨a0, hv0, (hrows a0.block a0.off (by simp [MemPlace.row])).1⟩

theorem glob_of_laid {W : World} (h : laidMet Tryd.prog theLaid W) : ∃ ea eb es, W.var? Tryd.prog nSync = some #[.iface 130 (.pointer (some es))] ∧ Glob W ea eb ∧
    W.cell? ⟨0, 0, none⟩ = some (.iface 130 (.pointer (some es))) ∧ ∀ k, W.heap.size ≤ k → Safe ea eb k ∧ k ≠ 0 := by
  obtain ⟨a, hv, ha⟩ := laid_err h.tail gEof tEof Tryd.underlying50 rowErr Tryd.underlying130 Tryd.underlying132 rfl rfl Tryd.underlying9 cellsErr cellsStr
  obtain ⟨b, hv2, hb⟩ := laid_err h.tail.tail gUef tUef Tryd.underlying50 rowErr Tryd.underlying130 Tryd.underlying132 rfl rfl Tryd.underlying9 cellsErr cellsStr
  obtain ⟨s, hv3, hs⟩ := laid_err h.tail.tail.tail gSync tSync Tryd.underlying50 rowErr Tryd.underlying130 Tryd.underlying132 rfl rfl Tryd.underlying9 cellsErr cellsStr
  have h1 : W.cell? ⟨1, 0, none⟩ = some (.iface 130 (.pointer (some a))) := by simpa using World.var?_cell gEof hv 0
  have h2 : W.cell? ⟨2, 0, none⟩ = some (.iface 130 (.pointer (some b))) := by simpa using World.var?_cell gUef hv2 0
  have h3 : W.cell? ⟨0, 0, none⟩ = some (.iface 130 (.pointer (some s))) := by simpa using World.var?_cell gSync hv3 0
  refine ⟨a, b, s, hv3, ⟨h1, h2, ha, hb⟩, h3, fun k hk => ?_⟩
  have l1 := World.block_lt_of_cell? W _ h1
  have l2 := World.block_lt_of_cell? W _ h2
  have l3 := World.block_lt_of_cell? W _ h3
  obtain ⟨_, _, ha⟩ := ha
  obtain ⟨_, _, hb⟩ := hb
  have l4 := (Array.getElem?_eq_some_iff.1 ha).1
  have l5 := (Array.getElem?_eq_some_iff.1 hb).1
  simp only at l1 l2 l3
  exact ⟨⟨by omega, by omega, by omega, by omega⟩, by omega⟩

/-- A variable holds below what it held. -/
theorem var_below {P : Program} {W W' : World} {n : String} {cs : Array Value} (h : W.var? P n = some cs) (b : Below W.heap.size W W') : W'.var? P n = some cs := by
  unfold World.var? at h ⊢
  cases hg : P.globalNamed n with
  | none => simp [hg] at h
  | some g =>
    simp only [hg, Option.bind_some] at h ⊢
    have hlt : g < W.heap.size := by
      rcases Nat.lt_or_ge g W.heap.size with h' | h'
      · exact h'
      · simp [Array.getElem?_eq_none h'] at h
    rw [b.block g hlt]
    exact h

abbrev sShort : ByteArray := { data := #[115, 104, 111, 114, 116, 32, 98, 117, 102, 102, 101, 114] }
abbrev sEof : ByteArray := { data := #[69, 79, 70] }
abbrev sUef : ByteArray := { data := #[117, 110, 101, 120, 112, 101, 99, 116, 101, 100, 32, 69, 79, 70] }
abbrev sSync : ByteArray := { data := #[102, 114, 97, 109, 101, 46, 70, 114, 97, 109, 101, 46, 112, 97, 114, 115, 101, 72, 101, 97, 100, 101, 114, 58, 32, 105, 110, 118, 97, 108, 105, 100, 32, 115, 121, 110, 99, 45, 99, 111, 100, 101] }
noncomputable def low : Nat := (World.holding Tryd.prog default ⟨#[], #[], []⟩).heap.size
def put (a : Nat) : Obj → Obj
  | .cells _ t frozen => .cells #[.iface 130 (.pointer (some ⟨a, 0, none⟩))] t frozen
  | o => o
/-- A world that holds the listed errors. -/
noncomputable def laidWorld (os : Os) : World :=
  let w0 := World.holding Tryd.prog os ⟨#[.cells #[.string sShort] 132, .cells #[.string sEof] 132, .cells #[.string sUef] 132, .cells #[.string sSync] 132], #[], []⟩
  { w0 with heap := (((w0.heap.modify 3 (put low)).modify 1 (put (low + 1))).modify 2 (put (low + 2))).modify 0 (put (low + 3)) }
theorem laidWorld_met (os : Os) (args : Array Value) : laidMet Tryd.prog theLaid ((laidWorld os).forCall (fun _ _ => 0) ⟨#[], args, []⟩).memory :=
  laidMet_of_run (ps := [.cell 3 0, .cell low 0, .cell 1 0, .cell (low + 1) 0, .cell 2 0, .cell (low + 2) 0, .cell 0 0, .cell (low + 3) 0]) 8 (by kernel_rfl) (by kernel_rfl) (by kernel_rfl)
end Go.Proofs.YtcdfbcanebjmfaaDoor.Walk
