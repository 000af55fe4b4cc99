/- ioutilx.WriteByte into a bytes.Buffer that the call has made. -/
import Derived.Test.YtfpeoadgbidahaaDoorShelf
import Derived.Test.YtfpeoadgbidahaaDoorWWords
import Derived.Test.YtfpeoadgbidahaaDoorWMore
import Derived.Below
import Derived.WalkKit
import Derived.Deep.RegionWith
import Derived.Outline
namespace Go.Proofs.YtfpeoadgbidahaaDoor.Walk
set_option linter.unusedVariables false
set_option linter.unusedSimpArgs false
open Go Go.RowKit Go.Proofs.YtfpeoadgbidahaaDoorW.PrintWords

theorem sizeU8b : (Tryd.prog.info? 5).map (·.size) = some 1 := by kernel_rfl
/-- buf[:] of the array of one byte. -/
theorem oneAll (gb : Nat) : ∀ W : World, (Instr.sliceAt 89 (.pointer (some ⟨gb, 0, none⟩)) none none none).run Tryd.prog W = .ok (.slice (some ⟨gb, 0, none⟩) 1 1) W := by
  intro W
  obtain ⟨i0, hi, hz⟩ := Option.map_eq_some_iff.1 sizeU8b
  have hu : Tryd.prog.underlying 89 = some (.array 1 5) := Tryd.underlying89
  simp [Instr.sliceAt, Instr.sureAddr, run_underlying hu, Instr.sliceBounds, run_sliceBound, sizeOf, typeInfo, hi, hz, Addr.add]
theorem bufNil (b : Nat) (w : World) : (nilAhead 213 60 (.pointer (some ⟨b, 0, none⟩)) "Write").run Tryd.prog w = .ok (some false) w := by kernel_rfl
theorem bufMeth (b : Nat) (w : World) : (method 213 60 (.pointer (some ⟨b, 0, none⟩)) "Write").run Tryd.prog w = .ok (58, .pointer (some ⟨b, 0, none⟩)) w := by kernel_rfl
theorem bufCall (args : Array Value) (w : World) : Sem.run Tryd.prog (callFunc 58 args) w = .ok (Next.enter 58 args) w := by kernel_rfl
/-- A buffer of the call's own (from block B on), holding the bytes xs. -/
abbrev Buf (B b : Nat) (xs : List Int) (w : World) : Prop := Lib.IsBuffer 57 5 B b (nums .u8 xs) w
theorem nums_one (xs : List Int) : ∀ v ∈ nums .u8 xs, v.oneCell' = true := by
  intro v hv
  obtain ⟨x, _, rfl⟩ := List.mem_map.1 hv
  rfl

set_option maxHeartbeats 1000000 in
set_option maxRecDepth 100000 in
theorem put_byte (B b x : Nat) (xs : List Int) (w : World) (h : Buf B b xs w) (hB : B ≤ w.heap.size) (hlim : xs.length ≤ 1000000) :
    Calls Tryd.prog 35 #[.iface 60 (.pointer (some ⟨b, 0, none⟩)), .int .u8 x] w fun e w' =>
      e = .returned .nilIface ∧ Buf B b (xs ++ [(x : Int)]) w' ∧ Below B w w' := by
  have hmf : ∀ (fn : Fn) (first cap : Array Value) (w : World), (Instr.makeFunc fn first cap).run Tryd.prog w = .ok (.func fn first cap) w := fun _ _ _ _ => rfl
  have h1 := bufNil b
  have h2 := bufMeth b
  have h4 := bufCall
  have h3 := oneAll w.heap.size
  have hbl := h.lt
  have HH := Lib.hid h
  clear h
  go_enter Tryd.func35, Tryd.ntmps35
  go_wp2_with fail
  have hB1 : Below w.heap.size w (w.alloc (.cells #[.int .u8 x] 89)) := (Below.refl _ _).alloc (Nat.le_refl _) _
  have hb1 : Buf B b xs (w.alloc (.cells #[.int .u8 x] 89)) := Lib.IsBuffer.alloc HH.out _
  have hs1 : (w.alloc (.cells #[.int .u8 x] 89)).cell? ⟨w.heap.size, 0, none⟩ = some (.int .u8 x) := World.cell?_alloc_at _ _ _ _ rfl
  obtain ⟨g, hg⟩ : ∃ g, w.heap.size = g := ⟨_, rfl⟩
  obtain ⟨w1, hw1⟩ : ∃ w1, w.alloc (.cells #[.int .u8 x] 89) = w1 := ⟨_, rfl⟩
  have hBw : B ≤ w1.heap.size := by have := hB1.size; rw [hw1] at this; omega
  have hB2 : Below B w w1 := by
    rw [← hw1]; exact (Below.refl _ _).alloc hB _
  rw [hw1] at hb1 hs1
  rw [hw1]
  rw [hg] at hs1 hbl h3
  rw [hg]
  have hwr := Tryd.Buffer_Write_any B b (nums .u8 xs) [.int .u8 x] ⟨g, 0, none⟩ 1 1 w1.drew hb1 hBw (nums_one xs) rfl (by simp; omega)
    (fun j v hj => by
      rcases j with _ | j
      · simp at hj; subst hj
        exact hs1
      · simp at hj) (by simp; rfl) (by rw [nums_length]; omega)
  have HW := Lib.hid hwr
  have HB2 := Lib.hid hB2
  clear hB1 hb1 hs1 hw1 hwr hB2 hBw
  go_region_with (first | (refine HW.out.mono ?_; rintro e w2 ⟨rfl, hb2, hbe, _⟩))
  all_goals
    have X := Lib.hid (And.intro hb2 hbe)
    clear hb2 hbe
    go_wp2_with fail
    go_ret
    refine ⟨rfl, ?_, HB2.out.drew.trans X.out.2⟩
    have h := X.out.1
    have e : nums .u8 xs ++ [Value.int .u8 x] = nums .u8 (xs ++ [(x : Int)]) := by simp [nums]
    rw [e] at h; exact h
end Go.Proofs.YtfpeoadgbidahaaDoor.Walk
