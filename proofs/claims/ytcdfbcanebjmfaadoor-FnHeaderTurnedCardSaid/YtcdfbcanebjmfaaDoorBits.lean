/- (*bits.Reader).Read over whatever source: it tells the next n bits, or an error where they are missing. -/
import Derived.Test.YtcdfbcanebjmfaaDoorFull
import Derived.Test.YtcdfbcanebjmfaaDoorNum
namespace Go.Proofs.YtcdfbcanebjmfaaDoor.Walk
set_option linter.unusedVariables false
set_option linter.unusedSimpArgs false
open Go Go.RowKit Go.Proofs.YtcdfbcanebjmfaaDoorW.PrintWords Go.Proofs.YtcdfbcanebjmfaaDoor.Num

/-- The block of a bits.Reader: its source, its buffer, the bits that are kept and how many they are. -/
def brCells (ty g : Nat) (buf : List Value) (x nb : Int) : List Value := .iface ty (.pointer (some ⟨g, 0, none⟩)) :: (buf ++ [.int .u8 x, .int .u64 nb])
/-- A bits.Reader at block gb that has read 'at' bits. -/
structure Br (ty g gb : Nat) (l : List Int) (St : World → Nat → Prop) (w : World) (at_ : Nat) : Prop where
  ex : ∃ (p nb x : Nat) (buf : List Value), St w p ∧ at_ + nb = 8 * p ∧ nb ≤ 7 ∧ x < 256 ∧ (0 < nb → x = byteAt l (p - 1) % 2 ^ nb) ∧ buf.length = 8 ∧
    w.heap[gb]? = some (.cells (brCells ty g buf x nb).toArray 127 (0, 0))

theorem br0 (ty g : Nat) (buf : List Value) (x nb : Int) (_hl : buf.length = 8) : (brCells ty g buf x nb).toArray[0]? = some (.iface ty (.pointer (some ⟨g, 0, none⟩))) := by simp [brCells]
theorem br9 (ty g : Nat) (buf : List Value) (x nb : Int) (hl : buf.length = 8) : (brCells ty g buf x nb).toArray[9]? = some (.int .u8 x) := by
  simp [brCells, hl]
theorem br10 (ty g : Nat) (buf : List Value) (x nb : Int) (hl : buf.length = 8) : (brCells ty g buf x nb).toArray[10]? = some (.int .u64 nb) := by
  simp [brCells, hl]
theorem br9_set (ty g : Nat) (buf : List Value) (x nb y : Int) (hl : buf.length = 8) : (brCells ty g buf x nb).toArray.setIfInBounds 9 (.int .u8 y) = (brCells ty g buf y nb).toArray := by
  simp [brCells, hl]
theorem br10_set (ty g : Nat) (buf : List Value) (x nb y : Int) (hl : buf.length = 8) : (brCells ty g buf x nb).toArray.setIfInBounds 10 (.int .u64 y) = (brCells ty g buf x y).toArray := by
  simp [brCells, hl]

set_option maxHeartbeats 1000000 in
set_option maxRecDepth 100000 in
theorem br_same (ty g gb : Nat) (buf : List Value) (x nb : Nat) (w : World) (hl : buf.length = 8) (hx : x < 256) (hnb : 0 < nb) (hnb7 : nb ≤ 7)
    (hb : w.heap[gb]? = some (.cells (brCells ty g buf x nb).toArray 127 (0, 0))) :
    Calls Tryd.prog 27 #[.pointer (some ⟨gb, 0, none⟩), .int .u64 nb] w fun e w' =>
      e = .returned (.tuple #[.int .u64 x, .nilIface]) ∧ w' = w.setCell ⟨gb, 10, none⟩ (.int .u64 0) := by
  have c9 : w.cell? ⟨gb, 9, none⟩ = some (.int .u8 x) := by rw [cell_of_row w gb 9 _ _ _ hb, br9 _ _ _ _ _ hl]
  have c10 : w.cell? ⟨gb, 10, none⟩ = some (.int .u64 nb) := by rw [cell_of_row w gb 10 _ _ _ hb, br10 _ _ _ _ _ hl]
  have f10 : w.frozen? ⟨gb, 10, none⟩ = false := by simp [World.frozen?, hb]
  clear hb
  go_enter Tryd.func27, Tryd.ntmps27
  go_wp2
  go_ret2
  exact ⟨rfl, rfl⟩

set_option maxHeartbeats 1000000 in
set_option maxRecDepth 100000 in
theorem br_within (ty g gb : Nat) (buf : List Value) (x nb n : Nat) (w : World) (hl : buf.length = 8) (hx : x < 256) (hn : 0 < n) (hnb : n < nb) (hnb7 : nb ≤ 7)
    (hb : w.heap[gb]? = some (.cells (brCells ty g buf x nb).toArray 127 (0, 0))) :
    Calls Tryd.prog 27 #[.pointer (some ⟨gb, 0, none⟩), .int .u64 n] w fun e w' =>
      e = .returned (.tuple #[.int .u64 (x / 2 ^ (nb - n) : Nat), .nilIface]) ∧ Touch [gb] w w' ∧ w'.heap[gb]? = some (.cells (brCells ty g buf (x % 2 ^ (nb - n) : Nat) (nb - n : Nat)).toArray 127 (0, 0)) := by
  have c9 : w.cell? ⟨gb, 9, none⟩ = some (.int .u8 x) := by rw [cell_of_row w gb 9 _ _ _ hb, br9 _ _ _ _ _ hl]
  have c10 : w.cell? ⟨gb, 10, none⟩ = some (.int .u64 nb) := by rw [cell_of_row w gb 10 _ _ _ hb, br10 _ _ _ _ _ hl]
  have f10 : w.frozen? ⟨gb, 10, none⟩ = false := by simp [World.frozen?, hb]
  have f9 : w.frozen? ⟨gb, 9, none⟩ = false := by simp [World.frozen?, hb]
  have hne : ((nb : Int) == (n : Int)) = false := by rw [beq_eq_false_iff_ne]; omega
  have HB := Lib.hid hb
  clear hb
  go_enter Tryd.func27, Tryd.ntmps27
  go_wp2
  obtain ⟨d, hd⟩ : ∃ d, nb - n = d := ⟨_, rfl⟩
  have hd1 : ((nb : Int) - (n : Int)) = (d : Int) := by omega
  have hd0 : 0 < d := by omega
  have hd7 : d ≤ 7 := by omega
  rw [hd, hd1]
  obtain ⟨w1, hw1⟩ : ∃ w1, w.setCell ⟨gb, 10, none⟩ (.int .u64 d) = w1 := ⟨_, rfl⟩
  rw [hw1]
  have t1 : Touch [gb] w w1 := by rw [← hw1]; exact (Touch.refl _ _).setCell (.inl (by simp)) _
  have b1 : w1.heap[gb]? = some (.cells (brCells ty g buf x d).toArray 127 (0, 0)) := by
    rw [← hw1, blk_set HB.out 10, br10_set _ _ _ _ _ _ hl]
  clear hw1 c9 c10 f10 f9
  have c9 : w1.cell? ⟨gb, 9, none⟩ = some (.int .u8 x) := by rw [cell_of_row w1 gb 9 _ _ _ b1, br9 _ _ _ _ _ hl]
  have c10 : w1.cell? ⟨gb, 10, none⟩ = some (.int .u64 d) := by rw [cell_of_row w1 gb 10 _ _ _ b1, br10 _ _ _ _ _ hl]
  have f9 : w1.frozen? ⟨gb, 9, none⟩ = false := by simp [World.frozen?, b1]
  obtain ⟨q, hq, hqx⟩ : ∃ q : Nat, bits .and .u8 (x : Int) (255 * 2 ^ d % 256) = (q : Int) ∧ q = x / 2 ^ d * 2 ^ d := ⟨_, mask_of x d hx hd7, rfl⟩
  obtain ⟨r, hr, hrx⟩ : ∃ r : Nat, bits .andNot .u8 (x : Int) (255 * 2 ^ d % 256) = (r : Int) ∧ r = x % 2 ^ d := ⟨_, unmask_of x d hx hd7, rfl⟩
  have hq1 : q ≤ 255 := by rw [hqx]; exact Nat.le_trans (Nat.div_mul_le_self _ _) (by omega)
  have HQ := Lib.hid hqx
  have HRX := Lib.hid hrx
  clear hqx hrx
  have T1 := Lib.hid t1
  have B1 := Lib.hid b1
  have HD := Lib.hid hd
  clear t1 b1 hd hd1
  go_quiet (fail)
  go_wp2
  go_ret2
  refine ⟨?_, ?_, ?_⟩
  · have e : ((q : Int) / 2 ^ d) = ((x / 2 ^ (nb - n) : Nat) : Int) := by rw [HQ.out, HD.out]; exact div_cast _ _
    rw [← e]; rfl
  · exact (T1.out.drewN _).setCell (.inl (by simp)) _
  · rw [blk_set (w := w1.drewN _) B1.out 9, br9_set _ _ _ _ _ _ hl, HD.out, HRX.out]

/-- buf[:k] of the array in a bits.Reader. -/
theorem bufTo (gb : Nat) (k : Int) (h0 : 0 ≤ k) (hk : k ≤ 8) : ∀ W : World, (Instr.sliceAt 125 (.pointer (some ⟨gb, 1, none⟩)) none (some (.int .u64 k)) none).run Tryd.prog W = .ok (.slice (some ⟨gb, 1, none⟩) k.toNat 8) W := by
  intro W
  obtain ⟨i0, hi, hz⟩ := Option.map_eq_some_iff.1 sizeU8
  have hu : Tryd.prog.underlying 125 = some (.array 8 5) := Tryd.underlying125
  have hm : ¬ (k < 0) := by omega
  have hm2 : ¬ (8 < k) := by omega
  simp [Instr.sliceAt, Instr.sureAddr, run_underlying hu, Instr.sliceBounds, run_sliceBound, sizeOf, typeInfo, hi, hz, h0, hk, hm, hm2, Addr.add]

/-- The buffer behind a read of m bytes. -/
def bufIn (buf : List Value) (l : List Int) (p m : Nat) : List Value := splice buf 0 (nums .u8 ((l.drop p).take m))
theorem bufIn_len (buf : List Value) (l : List Int) (p m : Nat) (hl : buf.length = 8) (hm : m ≤ 8) : (bufIn buf l p m).length = 8 := by
  unfold bufIn
  rw [length_splice, hl]
  rw [nums_length, List.length_take]; omega
theorem br_splice (ty g : Nat) (buf : List Value) (x nb : Int) (l : List Int) (p m : Nat) : splice (brCells ty g buf x nb) 1 (nums .u8 ((l.drop p).take m)) =
    .iface ty (.pointer (some ⟨g, 0, none⟩)) :: splice (buf ++ [.int .u8 x, .int .u64 nb]) 0 (nums .u8 ((l.drop p).take m)) := by
  simp [splice, brCells, Nat.add_comm 1]
theorem br_bufIn (ty g : Nat) (buf : List Value) (x nb : Int) (l : List Int) (p m : Nat) (hl : buf.length = 8) (hm : m ≤ 8) :
    splice (brCells ty g buf x nb) 1 (nums .u8 ((l.drop p).take m)) = brCells ty g (bufIn buf l p m) x nb := by
  have h : (nums .u8 ((l.drop p).take m)).length ≤ 8 := by rw [nums_length, List.length_take]; omega
  rw [br_splice]
  simp only [brCells, bufIn, splice, List.take_zero, List.nil_append, Nat.zero_add, List.append_assoc]
  rw [List.drop_append_of_le_length (by omega)]
theorem bufIn_at (ty g : Nat) (buf : List Value) (x nb : Int) (l : List Int) (p m i : Nat) (hl : buf.length = 8) (hm : m ≤ 8) (hav : p + m ≤ l.length) (hi : i < m) :
    (brCells ty g (bufIn buf l p m) x nb).toArray[1 + i]? = some (.int .u8 (l.getD (p + i) 0)) := by
  have hlen := bufIn_len buf l p m hl hm
  have e : (brCells ty g (bufIn buf l p m) x nb).toArray[1 + i]? = (bufIn buf l p m)[i]? := by
    rw [List.getElem?_toArray, brCells, Nat.add_comm 1, List.getElem?_cons_succ, List.getElem?_append_left (by omega)]
  rw [e]
  unfold bufIn splice
  rw [List.take_zero, List.nil_append, List.getElem?_append_left (by rw [nums_length, List.length_take, List.length_drop]; omega)]
  simp only [nums, List.getElem?_map, List.getElem?_take, List.getElem?_drop, if_pos hi]
  rw [List.getD_eq_getElem?_getD, List.getElem?_eq_getElem (by omega)]
  rfl

end Go.Proofs.YtcdfbcanebjmfaaDoor.Walk
