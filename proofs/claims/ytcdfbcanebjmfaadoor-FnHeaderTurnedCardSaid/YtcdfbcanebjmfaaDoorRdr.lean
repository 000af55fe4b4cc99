/- (*bytes.Reader).Read over a reader whose bytes are known: it lays as many bytes as there are, and as fit, into the target's row; at the end it tells io.EOF. -/
import Derived.Test.YtcdfbcanebjmfaaDoorProg
import Derived.Test.YtcdfbcanebjmfaaDoorWWords
import Derived.Test.YtcdfbcanebjmfaaDoorCode
import Derived.Test.YtcdfbcanebjmfaaDoorTouch
import Derived.Lib.Hide
import Derived.KernelRfl
import Derived.WalkLawsBesides
import Derived.WalkSpells
import Derived.Deep.QuietTactic
import Derived.BigQuiet
import Derived.StillTailTactics
import Derived.Laws.CopyOwn
namespace Go.Proofs.YtcdfbcanebjmfaaDoor.Walk
set_option linter.unusedVariables false
set_option linter.unusedSimpArgs false
open Go Go.RowKit Go.Proofs.YtcdfbcanebjmfaaDoorW.PrintWords

/-- s[m:] of a slice of bytes. -/
theorem cutU8 (A : Option Addr) (n c m : Nat) (hm : m ≤ n) :
    ∃ A' : Option Addr, (∀ W : World, (Instr.slice 25 (.slice A n c) (some (.int .i64 (m : Int))) none none).run Tryd.prog W = .ok (.slice A' (n - m) (c - m)) W) ∧
      ∀ (w : World) (k : IntKind) (xs : List Int), n ≤ c → ReadsInt w k A n xs → ReadsInt w k A' (n - m) (xs.drop m) := by
  obtain ⟨i0, hi, hz⟩ := Option.map_eq_some_iff.1 sizeU8
  exact print_cut 25 5 .i64 Tryd.underlying25 hi hz A n c m hm

set_option maxHeartbeats 1000000 in
set_option maxRecDepth 100000 in
theorem rdr_eof (gr : Nat) (A : Option Addr) (n c pos : Nat) (pr : Int) (b : Value) (E : Value) (w : World)
    (hr : w.heap[gr]? = some (.cells #[.slice A n c, .int .i64 pos, .int .i64 pr] 77 (0, 0))) (hpos : n ≤ pos) (hE : w.cell? ⟨1, 0, none⟩ = some E) :
    Calls Tryd.prog 60 #[.pointer (some ⟨gr, 0, none⟩), b] w fun e w' => e = .returned (.tuple #[.int .i64 0, E]) ∧ ∃ k, w' = w.drewN k := by
  have c0 : w.cell? ⟨gr, 0, none⟩ = some (.slice A n c) := by rw [cell_of_row w gr 0 _ _ _ hr]; rfl
  have c1 : w.cell? ⟨gr, 1, none⟩ = some (.int .i64 pos) := by rw [cell_of_row w gr 1 _ _ _ hr]; rfl
  clear hr
  go_enter Tryd.func60, Tryd.ntmps60
  go_wp2
  go_quiet (fail)
  go_wp2
  go_quiet (fail)
  go_wp2
  go_ret2
  exact ⟨rfl, _, World.drewN_drewN _ _ _⟩

set_option maxHeartbeats 1000000 in
set_option maxRecDepth 100000 in
theorem rdr_read (gr gb off m cb : Nat) (A : Option Addr) (n c pos : Nat) (pr : Int) (l : List Int) (cur : List Value) (T : Nat) (w : World)
    (hr : w.heap[gr]? = some (.cells #[.slice A n c, .int .i64 pos, .int .i64 pr] 77 (0, 0))) (hl : ReadsInt w .u8 A n l) (hnc : n ≤ c) (hpos : pos < n)
    (hb : w.heap[gb]? = some (.cells cur.toArray T (0, 0))) (hfit : off + m ≤ cur.length) (hne : gb ≠ gr) (hA : ∀ ad, A = some ad → ad.block ≠ gr ∧ ad.block ≠ gb) :
    Calls Tryd.prog 60 #[.pointer (some ⟨gr, 0, none⟩), .slice (some ⟨gb, off, none⟩) m cb] w fun e w' =>
      e = .returned (.tuple #[.int .i64 (min m (n - pos) : Nat), .nilIface]) ∧ Touch [gr, gb] w w' ∧
      w'.heap[gr]? = some (.cells #[.slice A n c, .int .i64 (pos + min m (n - pos) : Nat), .int .i64 (-1)] 77 (0, 0)) ∧
      w'.heap[gb]? = some (.cells (splice cur off (nums .u8 ((l.drop pos).take m))).toArray T (0, 0)) := by
  have c0 : w.cell? ⟨gr, 0, none⟩ = some (.slice A n c) := by rw [cell_of_row w gr 0 _ _ _ hr]; rfl
  have c1 : w.cell? ⟨gr, 1, none⟩ = some (.int .i64 pos) := by rw [cell_of_row w gr 1 _ _ _ hr]; rfl
  have c2 : w.cell? ⟨gr, 2, none⟩ = some (.int .i64 pr) := by rw [cell_of_row w gr 2 _ _ _ hr]; rfl
  have f1 : w.frozen? ⟨gr, 1, none⟩ = false := by simp [World.frozen?, hr]
  have f2 : w.frozen? ⟨gr, 2, none⟩ = false := by simp [World.frozen?, hr]
  have hmax : n ≤ 9223372036854775807 := hl.2.1
  have HR := Lib.hid hr
  have HL := Lib.hid hl
  have HB := Lib.hid hb
  clear hr hl hb
  go_enter Tryd.func60, Tryd.ntmps60
  go_wp2
  go_quiet (fail)
  go_wp2
  obtain ⟨w1, hw1⟩ : ∃ w1, (w.drewN nq).setCell ⟨gr, 2, none⟩ (.int .i64 (-1)) = w1 := ⟨_, rfl⟩
  rw [hw1]
  have t1 : Touch [gr, gb] w w1 := by rw [← hw1]; exact ((Touch.refl _ _).drewN nq).setCell (.inl (by simp)) _
  have r1 : w1.heap[gr]? = some (.cells #[.slice A n c, .int .i64 pos, .int .i64 (-1)] 77 (0, 0)) := by
    rw [← hw1, blk_set (w := w.drewN nq) HR.out 2]; rfl
  have b1 : w1.heap[gb]? = some (.cells cur.toArray T (0, 0)) := by
    rw [← hw1]; exact blk_far (w := w.drewN nq) HB.out hne _
  have l1 : ReadsInt w1 .u8 A n l := by
    refine ⟨HL.out.1, HL.out.2.1, fun hn => ?_⟩
    obtain ⟨ad, e, hc⟩ := HL.out.2.2 hn
    refine ⟨ad, e, fun j hj => t1.cell (hc j hj) ?_⟩
    have hh := hA ad e
    have hb : (ad.add j).block = ad.block := by unfold Addr.add; split <;> rfl
    rw [hb]; simp; exact ⟨hh.1, hh.2⟩
  clear hw1 c0 c1 c2 f1 f2
  have c0 : w1.cell? ⟨gr, 0, none⟩ = some (.slice A n c) := by rw [cell_of_row w1 gr 0 _ _ _ r1]; rfl
  have c1 : w1.cell? ⟨gr, 1, none⟩ = some (.int .i64 pos) := by rw [cell_of_row w1 gr 1 _ _ _ r1]; rfl
  have T1 := Lib.hid t1
  have R1 := Lib.hid r1
  have B1 := Lib.hid b1
  have L1 := Lib.hid l1
  clear t1 r1 b1 l1
  obtain ⟨A', hcut, hread⟩ := cutU8 A n c pos (by omega)
  have RD := Lib.hid hread
  clear hread
  go_still_tail 10, (by kernel_rfl)
  change wpList _ _ _ _ _ w1.drew
  obtain ⟨ad, rfl, hsrc⟩ := (RD.out w1 .u8 l hnc L1.out).2.2 (by omega)
  obtain ⟨cs, hcs⟩ : ∃ cs, nums .u8 ((l.drop pos).take m) = cs := ⟨_, rfl⟩
  have hk : cs.length = min (n - pos) m := by
    rw [← hcs, nums_length, List.length_take, List.length_drop, HL.out.1]; omega
  obtain ⟨k, hkk⟩ : ∃ k, cs.length = k := ⟨_, rfl⟩
  refine wpList_copy_own (P := Tryd.prog) (w := w1.drew) rfl (.tmp 20) (.tmp 29) 25 25 rfl 5 Tryd.underlying25 sizeU8 gb off m cb ad (n - pos) (c - pos) rfl rfl cur.toArray T B1.out cs hk ?_ ?_ ?_ ?_
  · intro j v hj
    have hj' : (nums .u8 ((l.drop pos).take m))[j]? = some v := by rw [hcs]; exact hj
    simp only [nums, List.getElem?_map, Option.map_eq_some_iff] at hj'
    obtain ⟨x, hx, rfl⟩ := hj'
    rw [List.getElem?_take] at hx
    split at hx
    · have hlt : j < n - pos := by
        have := (List.getElem?_eq_some_iff.1 hx).1
        rw [List.length_drop, HL.out.1] at this; exact this
      have := hsrc j hlt
      rw [List.getD_eq_getElem?_getD, hx] at this
      exact this
    · cases hx
  · simp; omega
  · intro v hv
    rw [← hcs] at hv
    simp only [nums, List.mem_map] at hv
    obtain ⟨x, _, rfl⟩ := hv
    rfl
  rw [hkk]
  obtain ⟨w3, hw3⟩ : ∃ w3, w1.drew.setRow gb (cur.toArray.toList.take off ++ (cs ++ cur.toArray.toList.drop (off + k))).toArray = w3 := ⟨_, rfl⟩
  rw [hw3]
  have t3 : Touch [gr, gb] w w3 := by rw [← hw3]; exact T1.out.drew.setRow (.inl (by simp)) _
  have r3 : w3.heap[gr]? = some (.cells #[.slice A n c, .int .i64 pos, .int .i64 (-1)] 77 (0, 0)) := by
    rw [← hw3, setRow_other _ _ _ _ (Ne.symm hne)]; exact R1.out
  have b3 : w3.heap[gb]? = some (.cells (splice cur off cs).toArray T (0, 0)) := by
    rw [← hw3]
    have := setRow_heap w1.drew gb cur.toArray (cur.toArray.toList.take off ++ (cs ++ cur.toArray.toList.drop (off + k))).toArray T (0, 0) B1.out
    rw [this]
    simp [splice, hkk]
  have T3 := Lib.hid t3
  have R3 := Lib.hid r3
  have B3 := Lib.hid b3
  have HK := Lib.hid hkk
  have HCS := Lib.hid hcs
  clear hw3 t3 r3 b3 c0 c1 hcut hsrc hcs
  have c1 : w3.cell? ⟨gr, 1, none⟩ = some (.int .i64 pos) := by rw [cell_of_row w3 gr 1 _ _ _ R3.out]; rfl
  have f1 : w3.frozen? ⟨gr, 1, none⟩ = false := by simp [World.frozen?, R3.out]
  have hk2 : k ≤ n - pos := by omega
  have hmk : min m (n - pos) = k := by omega
  have HMK := Lib.hid hmk
  clear hk hkk hmk
  go_wp2
  go_ret2
  refine ⟨?_, ?_, ?_, ?_⟩
  · rw [HMK.out]; rfl
  · exact T3.out.setCell (.inl (by simp)) _
  · rw [blk_set R3.out 1, HMK.out]; simp
  · rw [HCS.out]; exact blk_far B3.out hne _
end Go.Proofs.YtcdfbcanebjmfaaDoor.Walk
