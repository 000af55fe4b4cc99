/- ioutilx.ReadByte over whatever source; errors.New; (*bytes.Reader).Len; impl.code. -/
import Derived.Test.YtcdfbcanebjmfaaDoorMakeA
import Derived.Outline
namespace Go.Proofs.YtcdfbcanebjmfaaDoor.Walk
set_option linter.unusedVariables false
set_option linter.unusedSimpArgs false
open Go Go.RowKit Go.Proofs.YtcdfbcanebjmfaaDoorW.PrintWords Go.Proofs.YtcdfbcanebjmfaaDoor.Num

/-- buf[:] of the array of one byte. -/
theorem oneTo (gb : Nat) : ∀ W : World, (Instr.sliceAt 142 (.pointer (some ⟨gb, 0, none⟩)) none none none).run Tryd.prog W = .ok (.slice (some ⟨gb, 0, none⟩) 1 1) W := by
  intro W
  obtain ⟨i0, hi, hz⟩ := Option.map_eq_some_iff.1 sizeU8
  have hu : Tryd.prog.underlying 142 = some (.array 1 5) := Tryd.underlying142
  simp [Instr.sliceAt, Instr.sureAddr, run_underlying hu, Instr.sliceBounds, run_sliceBound, sizeOf, typeInfo, hi, hz, Addr.add]

theorem drop_take_one (l : List Int) (p : Nat) (h : p < l.length) : nums .u8 ((l.drop p).take 1) = [.int .u8 (l.getD p 0)] := by
  rw [List.getD_eq_getElem?_getD, List.getElem?_eq_getElem h, List.drop_eq_getElem_cons h]
  rfl

set_option maxHeartbeats 1000000 in
set_option maxRecDepth 100000 in
theorem byte_ok {ty fn g : Nat} {S D : List Nat} {l : List Int} {St : World → Nat → Prop} (R : Src ty fn g S D l St) (w : World) (p : Nat) (hs : St w p) (hp : p < l.length) (hD : ∀ k ∈ D, k < w.heap.size) :
    Calls Tryd.prog 39 #[.iface ty (.pointer (some ⟨g, 0, none⟩))] w fun e w' =>
      e = .returned (.tuple #[.int .u8 (l.getD p 0), .nilIface]) ∧ Touch S w w' ∧ St w' (p + 1) := by
  have HR := Lib.hid R
  have HS := Lib.hid hs
  have HD := Lib.hid hD
  clear R hs hD
  have h1 := oneTo w.heap.size
  obtain ⟨x, hx⟩ : ∃ x, l.getD p 0 = x := ⟨_, rfl⟩
  rw [hx]
  have HX := Lib.hid hx
  clear hx
  go_enter Tryd.func39, Tryd.ntmps39
  go_wp2_with fail
  have hB : Below w.heap.size w (w.alloc (.cells #[.int .u8 0] 142)) := (Below.refl _ _).alloc (Nat.le_refl _) _
  have hT : ∀ U, Touch U w (w.alloc (.cells #[.int .u8 0] 142)) := fun U => Touch.of_below hB
  refine (full_ok HR.out (w.alloc (.cells #[.int .u8 0] 142)) p w.heap.size 0 1 1 [.int .u8 0] 142 (HR.out.move [] w _ p HS.out (by simp) (hT [])) (by omega) (heap_alloc_new w _) (by simp) (by decide) (by decide) (by decide)
    (fun hm => by have := HD.out _ hm; omega)).mono ?_
  rintro e w2 ⟨rfl, ht, hs2, hb2⟩
  have ht2 : Touch S w w2 := ((hT _).trans ht).mono (fun k hk hm => by
    rcases List.mem_cons.1 hm with h | h
    · omega
    · exact h)
  have c0 : w2.cell? ⟨w.heap.size, 0, none⟩ = some (.int .u8 (l.getD p 0)) := by
    rw [cell_of_row w2 w.heap.size 0 _ _ _ hb2, drop_take_one l p hp]
    simp [splice]
  rw [HX.out] at c0
  have HT := Lib.hid ht2
  have HS2 := Lib.hid hs2
  clear hB hT ht hb2 ht2 hs2
  go_wp2_with fail
  go_ret2
  exact ⟨rfl, HT.out, HS2.out⟩

set_option maxHeartbeats 1000000 in
set_option maxRecDepth 100000 in
theorem byte_end {ty fn g : Nat} {S D : List Nat} {l : List Int} {St : World → Nat → Prop} (R : Src ty fn g S D l St) (w : World) (p : Nat) (ea eb : Addr) (hs : St w p) (hp : p = l.length) (hG : Glob w ea eb) :
    Calls Tryd.prog 39 #[.iface ty (.pointer (some ⟨g, 0, none⟩))] w fun e w' =>
      e = .returned (.tuple #[.int .u8 0, .iface 130 (.pointer (some ea))]) ∧ Touch S w w' ∧ St w' p := by
  have HR := Lib.hid R
  have HS := Lib.hid hs
  have HG := Lib.hid hG
  clear R hs hG
  have h1 := oneTo w.heap.size
  go_enter Tryd.func39, Tryd.ntmps39
  go_wp2_with fail
  have hB : Below w.heap.size w (w.alloc (.cells #[.int .u8 0] 142)) := (Below.refl _ _).alloc (Nat.le_refl _) _
  have hT : ∀ U, Touch U w (w.alloc (.cells #[.int .u8 0] 142)) := fun U => Touch.of_below hB
  refine (full_end HR.out (w.alloc (.cells #[.int .u8 0] 142)) p w.heap.size 0 1 1 ea eb (HR.out.move [] w _ p HS.out (by simp) (hT [])) hp (by decide) (by decide) (by decide) (HG.out.touch (hT []) (by simp))).mono ?_
  rintro e w2 ⟨rfl, ht, hs2⟩
  have HT := Lib.hid ((hT _).trans ht)
  have HS2 := Lib.hid hs2
  clear hB hT ht hs2
  go_wp2_with fail
  go_ret2
  exact ⟨rfl, HT.out, HS2.out⟩

/-- errors.New tells a new error. -/
theorem err_new (s : ByteArray) (w : World) : Calls Tryd.prog 29 #[.string s] w fun e w' => ∃ a, e = .returned (.iface 130 (.pointer (some a))) ∧ Below w.heap.size w w' ∧ ErrAt w' a := by
  go_enter Tryd.func29, Tryd.ntmps29
  go_wp2_with fail
  go_ret
  exact ⟨_, rfl, (Below.refl _ _).alloc (Nat.le_refl _) _, ⟨_, _, heap_alloc_new _ _⟩⟩

end Go.Proofs.YtcdfbcanebjmfaaDoor.Walk
