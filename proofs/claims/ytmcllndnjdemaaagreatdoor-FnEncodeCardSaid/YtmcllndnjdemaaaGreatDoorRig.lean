/- spec.ReadInfo at the signature and STREAMINFO that the package wrote. Printed by wip/rig.py. -/
import Derived.Test.YtmcllndnjdemaaaGreatDoorRhg
import Derived.Test.YtmcllndnjdemaaaGreatDoorNe
namespace Go.Proofs.YtmcllndnjdemaaaGreatDoor.Walk
set_option linter.unusedVariables false
set_option linter.unusedSimpArgs false
open Go Go.RowKit Go.Proofs.YtmcllndnjdemaaaGreatDoorW.PrintWords Go.Proofs.YtmcllndnjdemaaaGreatDoorW.PrintLast Go.Proofs.YtmcllndnjdemaaaGreatDoorW.PrintMore Go.Proofs.YtmcllndnjdemaaaGreatDoor.Num Go.Proofs.YtmcllndnjdemaaaGreatDoor.Crc Go.Proofs.YtmcllndnjdemaaaGreatDoor.PFnEncode
structure InfAt (l : List Int) (rt nc bp ns : Nat) : Prop where
 b0 : l.take 4 = [102, 76, 97, 67]
 b1 : BitsAt l 32 (bts 1 1)
 b2 : BitsAt l 33 (bts 0 7)
 b3 : BitsAt l 40 (bts 34 24)
 b4 : BitsAt l 64 (bts 16 16)
 b5 : BitsAt l 80 (bts 4096 16)
 b6 : BitsAt l 96 (bts 0 24)
 b7 : BitsAt l 120 (bts 0 24)
 b8 : BitsAt l 144 (bts rt 20)
 b9 : BitsAt l 164 (bts (nc - 1) 3)
 b10 : BitsAt l 167 (bts (bp - 1) 5)
 b11 : BitsAt l 172 (bts ns 36)
 hl : 42 ≤ l.length
theorem inf_at {I rest l : List Int} {rt nc bp ns : Nat} (he : l = I ++ rest) (hl : ∀ x ∈ l, 0 ≤ x ∧ x ≤ 255) (hbits : bytesBits I = infoBits rt nc bp ns) : InfAt l rt nc bp ns := by
 have hB := bitsAt_bytes [] I rest
 rw [List.nil_append, ← he, List.length_nil, Nat.mul_zero, hbits] at hB
 have hbA := fun i => bytes_at hl i
 have hlen := hB.1
 unfold infoBits at hlen hB
 simp only [List.length_append, bts_len, bytesBits_len, List.length_replicate, List.length_cons, List.length_nil] at hlen
 have h11 := hB.left.right
 have h10 := hB.left.left.right
 have h9 := hB.left.left.left.right
 have h8 := hB.left.left.left.left.right
 have h7 := hB.left.left.left.left.left.right
 have h6 := hB.left.left.left.left.left.left.right
 have h5 := hB.left.left.left.left.left.left.left.right
 have h4 := hB.left.left.left.left.left.left.left.left.right
 have h3 := hB.left.left.left.left.left.left.left.left.left.right
 have h2 := hB.left.left.left.left.left.left.left.left.left.left.right
 have h1 := hB.left.left.left.left.left.left.left.left.left.left.left.right
 have h0 := hB.left.left.left.left.left.left.left.left.left.left.left.left
 simp only [List.length_append, bts_len, bytesBits_len, List.length_cons, List.length_nil] at h1 h2 h3 h4 h5 h6 h7 h8 h9 h10 h11
 have hd := bits_drop hbA [102, 76, 97, 67] 0 (by decide) h0
 refine ⟨by rw [List.drop_zero] at hd; rw [hd]; rfl, h1, h2, h3, h4, h5, h6, h7, h8, h9, h10, h11, by omega⟩
structure Ri (w0 : World) (N : Nat) (l : List Int) (w : World) (at_ : Nat) (h : Array Value) : Prop where
 hN : w0.heap.size = N
 rd : Rd w0 (N + 2) l at_ w
 hd : w.heap[N + 1]? = some (.cells h 26 (0, 0))
 res : w.heap[N]? = some (.cells #[.int .i64 0, .int .i64 0, .int .i64 0, .int .i64 0, .int .i64 0, .int .i64 0, .int .i64 0, .int .u64 0, .slice none 0 0] 26 (0, 0))
theorem ri_word {w0 w : World} {N : Nat} {l : List Int} {at_ : Nat} {h : Array Value} (r : Ri w0 N l w at_ h) (hb : ∀ i, l.getD i 0 = (byteAt l i : Int) ∧ byteAt l i < 256) (hl : l.length ≤ 140737488355328) {n v : Nat} (hn : n ≤ 60) (hbits : BitsAt l at_ (bts v n)) (x : Int) (hx : ((v % 2 ^ n : Nat) : Int) = x) :
  Calls Tryz.prog 48 #[.pointer (some ⟨N + 2, 0, none⟩), .int .i64 n] w fun e w' => e = .returned (.int .i64 x) ∧ Ri w0 N l w' (at_ + n) h := by
 refine (rd_word r.rd hb hl hn hbits).mono ?_
 rintro e w' ⟨rfl, h1, t⟩
 rw [hx]
 exact ⟨rfl, r.hN, h1, t.heap r.hd (by simp), t.heap r.res (by simp)⟩
theorem ri_below {w0 w w' : World} {N : Nat} {l : List Int} {at_ : Nat} {h : Array Value} (r : Ri w0 N l w at_ h) (b : Below w.heap.size w w') : Ri w0 N l w' at_ h :=
 ⟨r.hN, ⟨r.rd.is.below b, below_then r.rd.bel r.rd.bel.size b⟩, (b.block _ (Array.getElem?_eq_some_iff.1 r.hd).1).trans r.hd, (b.block _ (Array.getElem?_eq_some_iff.1 r.res).1).trans r.res⟩
theorem ri_set {w0 w : World} {N : Nat} {l : List Int} {at_ : Nat} {h : Array Value} (r : Ri w0 N l w at_ h) (k : Nat) (u : Value) : Ri w0 N l (w.setCell ⟨N + 1, k, none⟩ u) at_ (h.setIfInBounds k u) := by
 obtain ⟨A0, c0, h1, h2, h3⟩ := r.rd.is
 exact ⟨r.hN, ⟨⟨A0, c0, blk_far h1 (p := ⟨N + 1, k, none⟩) (by show N + 2 ≠ N + 1; omega) u, h2, h3⟩, r.rd.bel.setCell (p := ⟨N + 1, k, none⟩) (by rw [r.hN]; show N ≤ N + 1; omega) u⟩, blk_set r.hd k u,
  blk_far r.res (p := ⟨N + 1, k, none⟩) (by show N ≠ N + 1; omega) u⟩
set_option maxHeartbeats 4000000 in
theorem ri_ret {w0 w : World} {N : Nat} {l : List Int} {at_ : Nat} {i0 i1 i2 i3 i4 i5 i6 i7 : Int} {u8 : Value} (h : Ri w0 N l w at_ #[.int .i64 i0, .int .i64 i1, .int .i64 i2, .int .i64 i3, .int .i64 i4, .int .i64 i5, .int .i64 i6, .int .u64 i7, u8]) :
  ∃ wz, (((((((((w.setCell ⟨N, 0, none⟩ (.int .i64 i0)).setCell ⟨N, 1, none⟩ (.int .i64 i1)).setCell ⟨N, 2, none⟩ (.int .i64 i2)).setCell ⟨N, 3, none⟩ (.int .i64 i3)).setCell ⟨N, 4, none⟩ (.int .i64 i4)).setCell ⟨N, 5, none⟩ (.int .i64 i5)).setCell ⟨N, 6, none⟩ (.int .i64 i6)).setCell ⟨N, 7, none⟩ (.int .u64 i7)).setCell ⟨N, 8, none⟩ (u8)) = wz ∧ Below w0.heap.size w0 wz ∧ wz.cell? ⟨N, 0, none⟩ = some (.int .i64 i0) ∧ wz.cell? ⟨N, 1, none⟩ = some (.int .i64 i1) ∧ wz.cell? ⟨N, 2, none⟩ = some (.int .i64 i2) ∧ wz.cell? ⟨N, 3, none⟩ = some (.int .i64 i3) ∧ wz.cell? ⟨N, 4, none⟩ = some (.int .i64 i4) ∧ wz.cell? ⟨N, 5, none⟩ = some (.int .i64 i5) ∧ wz.cell? ⟨N, 6, none⟩ = some (.int .i64 i6) ∧ wz.cell? ⟨N, 7, none⟩ = some (.int .u64 i7) ∧ wz.cell? ⟨N, 8, none⟩ = some (u8) := by
 have z0 := blk_set h.res 0 (.int .i64 i0)
 have z1 := blk_set z0 1 (.int .i64 i1)
 have z2 := blk_set z1 2 (.int .i64 i2)
 have z3 := blk_set z2 3 (.int .i64 i3)
 have z4 := blk_set z3 4 (.int .i64 i4)
 have z5 := blk_set z4 5 (.int .i64 i5)
 have z6 := blk_set z5 6 (.int .i64 i6)
 have z7 := blk_set z6 7 (.int .u64 i7)
 have z8 := blk_set z7 8 (u8)
 obtain ⟨wz, hwz⟩ : ∃ wz, (((((((((w.setCell ⟨N, 0, none⟩ (.int .i64 i0)).setCell ⟨N, 1, none⟩ (.int .i64 i1)).setCell ⟨N, 2, none⟩ (.int .i64 i2)).setCell ⟨N, 3, none⟩ (.int .i64 i3)).setCell ⟨N, 4, none⟩ (.int .i64 i4)).setCell ⟨N, 5, none⟩ (.int .i64 i5)).setCell ⟨N, 6, none⟩ (.int .i64 i6)).setCell ⟨N, 7, none⟩ (.int .u64 i7)).setCell ⟨N, 8, none⟩ (u8)) = wz := ⟨_, rfl⟩
 have hb := (((((((((h.rd.bel.setCell (p := ⟨N, 0, none⟩) (Nat.le_of_eq h.hN) (.int .i64 i0)).setCell (p := ⟨N, 1, none⟩) (Nat.le_of_eq h.hN) (.int .i64 i1)).setCell (p := ⟨N, 2, none⟩) (Nat.le_of_eq h.hN) (.int .i64 i2)).setCell (p := ⟨N, 3, none⟩) (Nat.le_of_eq h.hN) (.int .i64 i3)).setCell (p := ⟨N, 4, none⟩) (Nat.le_of_eq h.hN) (.int .i64 i4)).setCell (p := ⟨N, 5, none⟩) (Nat.le_of_eq h.hN) (.int .i64 i5)).setCell (p := ⟨N, 6, none⟩) (Nat.le_of_eq h.hN) (.int .i64 i6)).setCell (p := ⟨N, 7, none⟩) (Nat.le_of_eq h.hN) (.int .u64 i7)).setCell (p := ⟨N, 8, none⟩) (Nat.le_of_eq h.hN) (u8))
 rw [hwz] at z8 hb
 have hz : wz.heap[N]? = some (.cells #[.int .i64 i0, .int .i64 i1, .int .i64 i2, .int .i64 i3, .int .i64 i4, .int .i64 i5, .int .i64 i6, .int .u64 i7, u8] 26 (0, 0)) := by rw [z8]; simp only [List.setIfInBounds_toArray, List.set_cons_zero, List.set_cons_succ]
 exact ⟨wz, hwz, hb, by rw [cell_of_row wz N 0 _ _ _ hz]; rfl, by rw [cell_of_row wz N 1 _ _ _ hz]; rfl, by rw [cell_of_row wz N 2 _ _ _ hz]; rfl, by rw [cell_of_row wz N 3 _ _ _ hz]; rfl, by rw [cell_of_row wz N 4 _ _ _ hz]; rfl, by rw [cell_of_row wz N 5 _ _ _ hz]; rfl, by rw [cell_of_row wz N 6 _ _ _ hz]; rfl, by rw [cell_of_row wz N 7 _ _ _ hz]; rfl, by rw [cell_of_row wz N 8 _ _ _ hz]; rfl⟩
set_option maxHeartbeats 16000000 in
set_option maxRecDepth 100000 in
theorem read_info {ad : Addr} {n c : Nat} {I rest l : List Int} {rt nc bp ns : Nat} {w : World} (hl : ReadsInt w .u8 (some ad) n l) (hc : n ≤ c) (hn : n ≤ 100000000000000) (hc2 : c ≤ 9223372036854775807) (hbytes : ∀ x ∈ l, 0 ≤ x ∧ x ≤ 255) (he : l = I ++ rest) (hbits : bytesBits I = infoBits rt nc bp ns)
  (hrt0 : 0 < rt) (hrt : rt ≤ 655350) (hnc0 : 0 < nc) (hnc : nc ≤ 8) (hbp0 : 4 ≤ bp) (hbp : bp ≤ 24) (hns : ns ≤ 1000000) :
  Calls Tryz.prog 22 #[.slice (some ad) n c] w fun e w' => Below w.heap.size w w' ∧ ∃ sum, e = .returned (.tuple #[.agg #[.int .i64 16, .int .i64 4096, .int .i64 0, .int .i64 0, .int .i64 rt, .int .i64 nc, .int .i64 bp, .int .u64 ns, sum], .int .i64 42, .int .i64 0]) ∧ ∃ A m k, sum = .slice A m k := by
 have hA := inf_at he hbytes hbits
 have hnl : l.length = n := hl.1
 have h42 : 42 ≤ n := by have := hA.hl; omega
 have ht4 := reads_take hl (k := 4) (by omega)
 have ht3 := reads_take hl (k := 3) (by omega)
 rw [hA.b0] at ht4
 have hl3 : l.take 3 = [102, 76, 97] := by
  have h : (l.take 4).take 3 = l.take 3 := by rw [List.take_take]; rfl
  rw [← h, hA.b0]; rfl
 rw [hl3] at ht3
 have hd26 : ReadsInt w .u8 (some (ad.add 26)) 16 ((l.drop 26).take 16) := reads_take (reads_drop hl 26 (by omega)) (by omega)
 have HNL := Lib.hid hnl
 have HL := Lib.hid hl
 have HT := Lib.hid (And.intro ht4 (And.intro ht3 hd26))
 have HBY := Lib.hid (fun i => bytes_at hbytes i)
 have HA := Lib.hid hA
 have HLL := Lib.hid (show l.length ≤ 140737488355328 by omega)
 clear hl hbytes hnl hA he hbits ht4 ht3 hd26 hl3
 obtain ⟨N, hN⟩ : ∃ N, w.heap.size = N := ⟨_, rfl⟩
 rw [hN]
 go_enter Tryz.func22, Tryz.ntmps22
 go_upto_region 2 with fail
 obtain ⟨wa, hwa⟩ : ∃ wa, (w.alloc (.cells #[.int .i64 0, .int .i64 0, .int .i64 0, .int .i64 0, .int .i64 0, .int .i64 0, .int .i64 0, .int .u64 0, .slice none 0 0] 26)).alloc (.cells #[.int .i64 0, .int .i64 0, .int .i64 0, .int .i64 0, .int .i64 0, .int .i64 0, .int .i64 0, .int .u64 0, .slice none 0 0] 26) = wa := ⟨_, rfl⟩
 have hsa : (w.alloc (.cells #[.int .i64 0, .int .i64 0, .int .i64 0, .int .i64 0, .int .i64 0, .int .i64 0, .int .i64 0, .int .u64 0, .slice none 0 0] 26)).heap.size = N + 1 := by rw [World.size_alloc, hN]
 have hsz : wa.heap.size = N + 2 := by rw [← hwa, World.size_alloc, hsa]
 have ba : Below N w wa := by rw [← hwa]; exact (((Below.refl _ _).alloc (by omega) _).alloc (by rw [hsa]; omega) _)
 have hba : Below w.heap.size w wa := by rw [hN]; exact ba
 have hi1 : wa.heap[N + 1]? = some (.cells #[.int .i64 0, .int .i64 0, .int .i64 0, .int .i64 0, .int .i64 0, .int .i64 0, .int .i64 0, .int .u64 0, .slice none 0 0] 26 (0, 0)) := by rw [← hwa, ← hsa]; exact heap_alloc_new _ _
 have hi0 : wa.heap[N]? = some (.cells #[.int .i64 0, .int .i64 0, .int .i64 0, .int .i64 0, .int .i64 0, .int .i64 0, .int .i64 0, .int .u64 0, .slice none 0 0] 26 (0, 0)) := by rw [← hwa, Below.heap_alloc _ _ _ (by rw [hsa]; omega), ← hN]; exact heap_alloc_new _ _
 rw [hwa]
 have hcv3 : (convert 23 9 (.slice (some ad) 3 c)).run Tryz.prog wa = .ok (.string (strOfNums [102, 76, 97])) wa := string_of_reads (P := Tryz.prog) (src := 23) (dst := 9) (e := 5) Tryz.underlying23 Tryz.underlying5 Tryz.underlying9 (HT.out.2.1.below hba)
 have hcv4 : (convert 23 9 (.slice (some ad) 4 c)).run Tryz.prog wa = .ok (.string (strOfNums [102, 76, 97, 67])) wa := string_of_reads (P := Tryz.prog) (src := 23) (dst := 9) (e := 5) Tryz.underlying23 Tryz.underlying5 Tryz.underlying9 (HT.out.1.below hba)
 have hst : Ri w N l (wa.alloc (.cells #[.slice (some ad) n c, .int .i64 32, .bool false] 156)) 32 #[.int .i64 0, .int .i64 0, .int .i64 0, .int .i64 0, .int .i64 0, .int .i64 0, .int .i64 0, .int .u64 0, .slice none 0 0] := by
  refine ⟨hN, ⟨⟨some ad, c, ?_, by omega, Kd.C_of_reads (h1 := fun _ => rfl) (readsInt_of.1 (by rw [HNL.out]; exact HL.out))⟩, ?_⟩, ?_, ?_⟩
  ·rw [HNL.out, ← hsz]; exact heap_alloc_new _ _
  ·exact hba.alloc (by omega) _
  ·rw [Below.heap_alloc _ _ _ (by omega)]; exact hi1
  ·rw [Below.heap_alloc _ _ _ (by omega)]; exact hi0
 have g1 : decide ((2 : Int) < (n : Int)) = true := by simp; omega
 have g2 : decide ((n : Int) < 42) = false := by simp; omega
 have hc3 : (3 : Int) ≤ (c : Int) := by omega
 have hc4 : (4 : Int) ≤ (c : Int) := by omega
 have X0 := Lib.hid hst
 have HSZ := Lib.hid hsz
 have gs3 : ((strOfNums [102, 76, 97]).toList == ([73, 68, 51] : List UInt8)) = false := by decide +kernel
 have gs4 : ((strOfNums [102, 76, 97, 67]).toList == ([102, 76, 97, 67] : List UInt8)) = true := by decide +kernel
 have hbb := Lib.hid hba
 clear hst hwa hsa ba hba hi1 hi0
 go_wp2_with fail
 obtain ⟨w1, hw1⟩ : ∃ w1, wa.alloc (.cells #[.slice (some ad) n c, .int .i64 32, .bool false] 156) = w1 := ⟨_, rfl⟩
 have hst := X0.out
 rw [hw1] at hst
 rw [hw1]
 have X1 := Lib.hid hst
 clear hst hw1 X0 HSZ hcv3 hcv4 g1 g2 gs3 gs4 hc3 hc4 hbb
 refine (ri_word X1.out HBY.out HLL.out (by decide) HA.out.b1 (1) (by decide)).mono ?_
 rintro e w2 ⟨rfl, hst⟩
 have X2 := Lib.hid (show Ri w N l w2 33 #[.int .i64 0, .int .i64 0, .int .i64 0, .int .i64 0, .int .i64 0, .int .i64 0, .int .i64 0, .int .u64 0, .slice none 0 0] from hst)
 clear hst X1
 go_wp2_with fail
 refine (ri_word X2.out HBY.out HLL.out (by decide) HA.out.b2 (0) (by decide)).mono ?_
 rintro e w3 ⟨rfl, hst⟩
 have X3 := Lib.hid (show Ri w N l w3 40 #[.int .i64 0, .int .i64 0, .int .i64 0, .int .i64 0, .int .i64 0, .int .i64 0, .int .i64 0, .int .u64 0, .slice none 0 0] from hst)
 clear hst X2
 go_wp2_with fail
 refine (ri_word X3.out HBY.out HLL.out (by decide) HA.out.b3 (34) (by decide)).mono ?_
 rintro e w4 ⟨rfl, hst⟩
 have X4 := Lib.hid (show Ri w N l w4 64 #[.int .i64 0, .int .i64 0, .int .i64 0, .int .i64 0, .int .i64 0, .int .i64 0, .int .i64 0, .int .u64 0, .slice none 0 0] from hst)
 clear hst X3
 go_wp2_with fail
 refine (ri_word X4.out HBY.out HLL.out (by decide) HA.out.b4 (16) (by decide)).mono ?_
 rintro e w5 ⟨rfl, hst⟩
 have X5 := Lib.hid (show Ri w N l w5 80 #[.int .i64 0, .int .i64 0, .int .i64 0, .int .i64 0, .int .i64 0, .int .i64 0, .int .i64 0, .int .u64 0, .slice none 0 0] from hst)
 clear hst X4
 go_wp2_with fail
 refine (ri_word X5.out HBY.out HLL.out (by decide) HA.out.b5 (4096) (by decide)).mono ?_
 rintro e w6 ⟨rfl, hst⟩
 have X6 := Lib.hid (show Ri w N l w6 96 #[.int .i64 0, .int .i64 0, .int .i64 0, .int .i64 0, .int .i64 0, .int .i64 0, .int .i64 0, .int .u64 0, .slice none 0 0] from hst)
 clear hst X5
 go_wp2_with fail
 refine (ri_word X6.out HBY.out HLL.out (by decide) HA.out.b6 (0) (by decide)).mono ?_
 rintro e w7 ⟨rfl, hst⟩
 have X7 := Lib.hid (show Ri w N l w7 120 #[.int .i64 0, .int .i64 0, .int .i64 0, .int .i64 0, .int .i64 0, .int .i64 0, .int .i64 0, .int .u64 0, .slice none 0 0] from hst)
 clear hst X6
 go_wp2_with fail
 refine (ri_word X7.out HBY.out HLL.out (by decide) HA.out.b7 (0) (by decide)).mono ?_
 rintro e w8 ⟨rfl, hst⟩
 have X8 := Lib.hid (show Ri w N l w8 144 #[.int .i64 0, .int .i64 0, .int .i64 0, .int .i64 0, .int .i64 0, .int .i64 0, .int .i64 0, .int .u64 0, .slice none 0 0] from hst)
 clear hst X7
 have c0 : w8.cell? ⟨N + 1, 0, none⟩ = some (.int .i64 0) := by rw [cell_of_row w8 (N + 1) 0 _ _ _ X8.out.hd]; rfl
 have f0 : w8.frozen? ⟨N + 1, 0, none⟩ = false := by simp [World.frozen?, X8.out.hd]
 have c1 : w8.cell? ⟨N + 1, 1, none⟩ = some (.int .i64 0) := by rw [cell_of_row w8 (N + 1) 1 _ _ _ X8.out.hd]; rfl
 have f1 : w8.frozen? ⟨N + 1, 1, none⟩ = false := by simp [World.frozen?, X8.out.hd]
 have c2 : w8.cell? ⟨N + 1, 2, none⟩ = some (.int .i64 0) := by rw [cell_of_row w8 (N + 1) 2 _ _ _ X8.out.hd]; rfl
 have f2 : w8.frozen? ⟨N + 1, 2, none⟩ = false := by simp [World.frozen?, X8.out.hd]
 have c3 : w8.cell? ⟨N + 1, 3, none⟩ = some (.int .i64 0) := by rw [cell_of_row w8 (N + 1) 3 _ _ _ X8.out.hd]; rfl
 have f3 : w8.frozen? ⟨N + 1, 3, none⟩ = false := by simp [World.frozen?, X8.out.hd]
 go_wp2_with fail
 have hst := (ri_set (ri_set (ri_set (ri_set X8.out 0 (.int .i64 16)) 1 (.int .i64 4096)) 2 (.int .i64 0)) 3 (.int .i64 0))
 simp only [List.setIfInBounds_toArray, List.set_cons_zero, List.set_cons_succ] at hst
 obtain ⟨w9, hw9⟩ : ∃ wx, ((((w8.setCell ⟨N + 1, 0, none⟩ (.int .i64 16)).setCell ⟨N + 1, 1, none⟩ (.int .i64 4096)).setCell ⟨N + 1, 2, none⟩ (.int .i64 0)).setCell ⟨N + 1, 3, none⟩ (.int .i64 0)) = wx := ⟨_, rfl⟩
 rw [hw9] at hst ⊢
 have X9 := Lib.hid hst
 clear hst hw9 X8 c0 f0 c1 f1 c2 f2 c3 f3
 refine (ri_word X9.out HBY.out HLL.out (by decide) HA.out.b8 ((rt : Int)) (by rw [Nat.mod_eq_of_lt (show rt < 2 ^ 20 by omega)])).mono ?_
 rintro e w10 ⟨rfl, hst⟩
 have X10 := Lib.hid (show Ri w N l w10 164 #[.int .i64 16, .int .i64 4096, .int .i64 0, .int .i64 0, .int .i64 0, .int .i64 0, .int .i64 0, .int .u64 0, .slice none 0 0] from hst)
 clear hst X9
 go_wp2_with fail
 refine (ri_word X10.out HBY.out HLL.out (by decide) HA.out.b9 (((nc - 1 : Nat) : Int)) (by rw [Nat.mod_eq_of_lt (show nc - 1 < 2 ^ 3 by omega)])).mono ?_
 rintro e w11 ⟨rfl, hst⟩
 have X11 := Lib.hid (show Ri w N l w11 167 #[.int .i64 16, .int .i64 4096, .int .i64 0, .int .i64 0, .int .i64 0, .int .i64 0, .int .i64 0, .int .u64 0, .slice none 0 0] from hst)
 clear hst X10
 go_wp2_with fail
 refine (ri_word X11.out HBY.out HLL.out (by decide) HA.out.b10 (((bp - 1 : Nat) : Int)) (by rw [Nat.mod_eq_of_lt (show bp - 1 < 2 ^ 5 by omega)])).mono ?_
 rintro e w12 ⟨rfl, hst⟩
 have X12 := Lib.hid (show Ri w N l w12 172 #[.int .i64 16, .int .i64 4096, .int .i64 0, .int .i64 0, .int .i64 0, .int .i64 0, .int .i64 0, .int .u64 0, .slice none 0 0] from hst)
 clear hst X11
 have e1 : ((nc - 1 : Nat) : Int) + 1 = (nc : Int) := by omega
 have e2 : ((bp - 1 : Nat) : Int) + 1 = (bp : Int) := by omega
 have c4 : w12.cell? ⟨N + 1, 4, none⟩ = some (.int .i64 0) := by rw [cell_of_row w12 (N + 1) 4 _ _ _ X12.out.hd]; rfl
 have f4 : w12.frozen? ⟨N + 1, 4, none⟩ = false := by simp [World.frozen?, X12.out.hd]
 have c5 : w12.cell? ⟨N + 1, 5, none⟩ = some (.int .i64 0) := by rw [cell_of_row w12 (N + 1) 5 _ _ _ X12.out.hd]; rfl
 have f5 : w12.frozen? ⟨N + 1, 5, none⟩ = false := by simp [World.frozen?, X12.out.hd]
 have c6 : w12.cell? ⟨N + 1, 6, none⟩ = some (.int .i64 0) := by rw [cell_of_row w12 (N + 1) 6 _ _ _ X12.out.hd]; rfl
 have f6 : w12.frozen? ⟨N + 1, 6, none⟩ = false := by simp [World.frozen?, X12.out.hd]
 go_wp2_with fail
 have hst := (ri_set (ri_set (ri_set X12.out 4 (.int .i64 rt)) 5 (.int .i64 nc)) 6 (.int .i64 bp))
 simp only [List.setIfInBounds_toArray, List.set_cons_zero, List.set_cons_succ] at hst
 obtain ⟨w13, hw13⟩ : ∃ wx, (((w12.setCell ⟨N + 1, 4, none⟩ (.int .i64 rt)).setCell ⟨N + 1, 5, none⟩ (.int .i64 nc)).setCell ⟨N + 1, 6, none⟩ (.int .i64 bp)) = wx := ⟨_, rfl⟩
 rw [hw13] at hst ⊢
 have X13 := Lib.hid hst
 clear hst hw13 X12 c4 f4 c5 f5 c6 f6
 refine (ri_word X13.out HBY.out HLL.out (by decide) HA.out.b11 ((ns : Int)) (by rw [Nat.mod_eq_of_lt (show ns < 2 ^ 36 by omega)])).mono ?_
 rintro e w14 ⟨rfl, hst⟩
 have X14 := Lib.hid (show Ri w N l w14 208 #[.int .i64 16, .int .i64 4096, .int .i64 0, .int .i64 0, .int .i64 rt, .int .i64 nc, .int .i64 bp, .int .u64 0, .slice none 0 0] from hst)
 clear hst X13
 have c7 : w14.cell? ⟨N + 1, 7, none⟩ = some (.int .u64 0) := by rw [cell_of_row w14 (N + 1) 7 _ _ _ X14.out.hd]; rfl
 have f7 : w14.frozen? ⟨N + 1, 7, none⟩ = false := by simp [World.frozen?, X14.out.hd]
 go_upto_region 13 with fail
 have hst := (ri_set X14.out 7 (.int .u64 ns))
 simp only [List.setIfInBounds_toArray, List.set_cons_zero, List.set_cons_succ] at hst
 obtain ⟨w15, hw15⟩ : ∃ wx, (w14.setCell ⟨N + 1, 7, none⟩ (.int .u64 ns)) = wx := ⟨_, rfl⟩
 rw [hw15] at hst ⊢
 have X15 := Lib.hid hst
 clear hst hw15 X14 c7 f7
 have hb2 : Below w15.heap.size w15 (w15.alloc (.cells #[] 5)) := below_alloc (Below.refl _ _) _
 have hlit := World.ownsRow_lit (base := w15.heap.size) (e := 5) (size := 1) w15 #[] 0 (Nat.le_refl _) (by unfold maxLen; omega) (by simp)
 have HB2 := Lib.hid hb2
 have HLIT := Lib.hid hlit
 have HR := Lib.hid (HT.out.2.2.below (below_then X15.out.rd.bel X15.out.rd.bel.size hb2))
 clear hb2 hlit
 have hc42 : (42 : Int) ≤ (c : Int) := by omega
 have hc26 : (c = 26) = False := by simp; omega
 go_wp2_with (with_reducible refine stop_dst (N := 78) rfl ?_)
 refine unstop ?_
 refine print_append_row (w0 := w15) w15.heap.size rfl (.tmp 75) (.tmp 77) 23 5 .u8 1 rfl Tryz.underlying23 infoU8 (by decide) _ [] ((l.drop 26).take 16) (some ⟨ad.block, ad.off + 26, none⟩) 16 (c - 26) rfl rfl ?aO ?aR ?aB ?aS ?aL ?_
 case aO => exact HLIT.out
 case aR => exact HR.out
 case aB => exact HB2.out
 case aS => exact HB2.out.size
 case aL => simp
 intro v3 w16 hO3 hB3 _ _
 have e16 : (([] : List Int) ++ (l.drop 26).take 16).length = 16 := by rw [List.nil_append, List.length_take, List.length_drop, HNL.out]; omega
 rw [e16] at hO3
 obtain ⟨A3, cp3, rfl, _⟩ := own_reads hO3
 clear e16
 have X16 := Lib.hid (ri_below X15.out hB3)
 clear hO3 hB3 HB2 HLIT HR X15
 have c8 : w16.cell? ⟨N + 1, 8, none⟩ = some (.slice none 0 0) := by rw [cell_of_row w16 (N + 1) 8 _ _ _ X16.out.hd]; rfl
 have f8 : w16.frozen? ⟨N + 1, 8, none⟩ = false := by simp [World.frozen?, X16.out.hd]
 go_upto_region 14 with fail
 have hst := (ri_set X16.out 8 (.slice A3 16 cp3))
 simp only [List.setIfInBounds_toArray, List.set_cons_zero, List.set_cons_succ] at hst
 obtain ⟨w17, hw17⟩ : ∃ wx, (w16.setCell ⟨N + 1, 8, none⟩ (.slice A3 16 cp3)) = wx := ⟨_, rfl⟩
 rw [hw17] at hst ⊢
 have X17 := Lib.hid hst
 clear hst hw17 X16 c8 f8
 have c0 : w17.cell? ⟨N + 1, 0, none⟩ = some (.int .i64 16) := by rw [cell_of_row w17 (N + 1) 0 _ _ _ X17.out.hd]; rfl
 have f0 : w17.frozen? ⟨N + 1, 0, none⟩ = false := by simp [World.frozen?, X17.out.hd]
 have c1 : w17.cell? ⟨N + 1, 1, none⟩ = some (.int .i64 4096) := by rw [cell_of_row w17 (N + 1) 1 _ _ _ X17.out.hd]; rfl
 have f1 : w17.frozen? ⟨N + 1, 1, none⟩ = false := by simp [World.frozen?, X17.out.hd]
 have c4 : w17.cell? ⟨N + 1, 4, none⟩ = some (.int .i64 rt) := by rw [cell_of_row w17 (N + 1) 4 _ _ _ X17.out.hd]; rfl
 have f4 : w17.frozen? ⟨N + 1, 4, none⟩ = false := by simp [World.frozen?, X17.out.hd]
 have c6 : w17.cell? ⟨N + 1, 6, none⟩ = some (.int .i64 bp) := by rw [cell_of_row w17 (N + 1) 6 _ _ _ X17.out.hd]; rfl
 have f6 : w17.frozen? ⟨N + 1, 6, none⟩ = false := by simp [World.frozen?, X17.out.hd]
 have g1 : decide ((655350 : Int) < (rt : Int)) = false := by simp; omega
 have g2 : ((rt : Int) == 0) = false := by simp; omega
 have g3 : decide ((bp : Int) < 4) = false := by simp; omega
 have g4 : decide ((24 : Int) < (bp : Int)) = false := by simp; omega
 go_upto_region 16 with fail
 clear g1 g2 g3 g4 c0 c1 c4 c6
 go_wp2_with fail
 refine wp_loop_rounds 1 ?_
 rw [rounds_succ]
 have c0 : w17.cell? ⟨N + 1, 0, none⟩ = some (.int .i64 16) := by rw [cell_of_row w17 (N + 1) 0 _ _ _ X17.out.hd]; rfl
 have f0 : w17.frozen? ⟨N + 1, 0, none⟩ = false := by simp [World.frozen?, X17.out.hd]
 have c1 : w17.cell? ⟨N + 1, 1, none⟩ = some (.int .i64 4096) := by rw [cell_of_row w17 (N + 1) 1 _ _ _ X17.out.hd]; rfl
 have f1 : w17.frozen? ⟨N + 1, 1, none⟩ = false := by simp [World.frozen?, X17.out.hd]
 have c2 : w17.cell? ⟨N + 1, 2, none⟩ = some (.int .i64 0) := by rw [cell_of_row w17 (N + 1) 2 _ _ _ X17.out.hd]; rfl
 have f2 : w17.frozen? ⟨N + 1, 2, none⟩ = false := by simp [World.frozen?, X17.out.hd]
 have c3 : w17.cell? ⟨N + 1, 3, none⟩ = some (.int .i64 0) := by rw [cell_of_row w17 (N + 1) 3 _ _ _ X17.out.hd]; rfl
 have f3 : w17.frozen? ⟨N + 1, 3, none⟩ = false := by simp [World.frozen?, X17.out.hd]
 have c4 : w17.cell? ⟨N + 1, 4, none⟩ = some (.int .i64 rt) := by rw [cell_of_row w17 (N + 1) 4 _ _ _ X17.out.hd]; rfl
 have f4 : w17.frozen? ⟨N + 1, 4, none⟩ = false := by simp [World.frozen?, X17.out.hd]
 have c5 : w17.cell? ⟨N + 1, 5, none⟩ = some (.int .i64 nc) := by rw [cell_of_row w17 (N + 1) 5 _ _ _ X17.out.hd]; rfl
 have f5 : w17.frozen? ⟨N + 1, 5, none⟩ = false := by simp [World.frozen?, X17.out.hd]
 have c6 : w17.cell? ⟨N + 1, 6, none⟩ = some (.int .i64 bp) := by rw [cell_of_row w17 (N + 1) 6 _ _ _ X17.out.hd]; rfl
 have f6 : w17.frozen? ⟨N + 1, 6, none⟩ = false := by simp [World.frozen?, X17.out.hd]
 have c7 : w17.cell? ⟨N + 1, 7, none⟩ = some (.int .u64 ns) := by rw [cell_of_row w17 (N + 1) 7 _ _ _ X17.out.hd]; rfl
 have f7 : w17.frozen? ⟨N + 1, 7, none⟩ = false := by simp [World.frozen?, X17.out.hd]
 have c8 : w17.cell? ⟨N + 1, 8, none⟩ = some (.slice A3 16 cp3) := by rw [cell_of_row w17 (N + 1) 8 _ _ _ X17.out.hd]; rfl
 have f8 : w17.frozen? ⟨N + 1, 8, none⟩ = false := by simp [World.frozen?, X17.out.hd]
 have r0 : w17.cell? ⟨N, 0, none⟩ = some (.int .i64 0) := by rw [cell_of_row w17 N 0 _ _ _ X17.out.res]; rfl
 have s0 : w17.frozen? ⟨N, 0, none⟩ = false := by simp [World.frozen?, X17.out.res]
 have r1 : w17.cell? ⟨N, 1, none⟩ = some (.int .i64 0) := by rw [cell_of_row w17 N 1 _ _ _ X17.out.res]; rfl
 have s1 : w17.frozen? ⟨N, 1, none⟩ = false := by simp [World.frozen?, X17.out.res]
 have r2 : w17.cell? ⟨N, 2, none⟩ = some (.int .i64 0) := by rw [cell_of_row w17 N 2 _ _ _ X17.out.res]; rfl
 have s2 : w17.frozen? ⟨N, 2, none⟩ = false := by simp [World.frozen?, X17.out.res]
 have r3 : w17.cell? ⟨N, 3, none⟩ = some (.int .i64 0) := by rw [cell_of_row w17 N 3 _ _ _ X17.out.res]; rfl
 have s3 : w17.frozen? ⟨N, 3, none⟩ = false := by simp [World.frozen?, X17.out.res]
 have r4 : w17.cell? ⟨N, 4, none⟩ = some (.int .i64 0) := by rw [cell_of_row w17 N 4 _ _ _ X17.out.res]; rfl
 have s4 : w17.frozen? ⟨N, 4, none⟩ = false := by simp [World.frozen?, X17.out.res]
 have r5 : w17.cell? ⟨N, 5, none⟩ = some (.int .i64 0) := by rw [cell_of_row w17 N 5 _ _ _ X17.out.res]; rfl
 have s5 : w17.frozen? ⟨N, 5, none⟩ = false := by simp [World.frozen?, X17.out.res]
 have r6 : w17.cell? ⟨N, 6, none⟩ = some (.int .i64 0) := by rw [cell_of_row w17 N 6 _ _ _ X17.out.res]; rfl
 have s6 : w17.frozen? ⟨N, 6, none⟩ = false := by simp [World.frozen?, X17.out.res]
 have r7 : w17.cell? ⟨N, 7, none⟩ = some (.int .u64 0) := by rw [cell_of_row w17 N 7 _ _ _ X17.out.res]; rfl
 have s7 : w17.frozen? ⟨N, 7, none⟩ = false := by simp [World.frozen?, X17.out.res]
 have r8 : w17.cell? ⟨N, 8, none⟩ = some (.slice none 0 0) := by rw [cell_of_row w17 N 8 _ _ _ X17.out.res]; rfl
 have s8 : w17.frozen? ⟨N, 8, none⟩ = false := by simp [World.frozen?, X17.out.res]
 go_wp2_with fail
 obtain ⟨wz, hwz, bz, t0, t1, t2, t3, t4, t5, t6, t7, t8⟩ := ri_ret X17.out
 rw [hwz]
 rw [X17.out.hN] at bz
 exact bodyPost_ret (v := .tuple #[.agg #[.int .i64 16, .int .i64 4096, .int .i64 0, .int .i64 0, .int .i64 rt, .int .i64 nc, .int .i64 bp, .int .u64 ns, .slice A3 16 cp3], .int .i64 42, .int .i64 0]) (by simp [results, Tryz.results22, go_sem, t0, t1, t2, t3, t4, t5, t6, t7, t8]) rfl ⟨bz, _, rfl, _, _, _, rfl⟩
end Go.Proofs.YtmcllndnjdemaaaGreatDoor.Walk
