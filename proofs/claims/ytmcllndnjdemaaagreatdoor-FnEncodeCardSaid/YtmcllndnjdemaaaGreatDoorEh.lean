/- flac.Encoder.encodeFrameHeader. -/
import Derived.Test.YtmcllndnjdemaaaGreatDoorHpAll
import Derived.Test.YtmcllndnjdemaaaGreatDoorMmk
import Derived.Test.YtmcllndnjdemaaaGreatDoorNw
import Derived.Test.YtmcllndnjdemaaaGreatDoorEna
import Derived.Defers
namespace Go.Proofs.YtmcllndnjdemaaaGreatDoor.Walk
set_option linter.unusedVariables false
set_option linter.unusedSimpArgs false
open Go Go.RowKit Go.Proofs.YtmcllndnjdemaaaGreatDoorW.PrintWords Go.Proofs.YtmcllndnjdemaaaGreatDoorW.PrintLast Go.Proofs.YtmcllndnjdemaaaGreatDoorW.PrintMore Go.Proofs.YtmcllndnjdemaaaGreatDoor.Num Go.Proofs.YtmcllndnjdemaaaGreatDoor.Crc
variable {ty fn g B : Nat} {S : List Nat} {St : World → List Int → Prop}
theorem Kp.cut {B : Nat} {S T : List Nat} {w w' : World} (h : Kp B S w w') (h2 : ∀ k ∈ S, k < w.heap.size → k ∈ T) : Kp B T w w' :=
 ⟨h.bel, fun i o hi hn hu => h.keep i o hi (fun hm => hn (h2 i hm (Array.getElem?_eq_some_iff.1 hi).1)) hu⟩
theorem Kp.after {B : Nat} {S T : List Nat} {w w1 w' : World} (t : Touch [] w w1) (hB : B ≤ w.heap.size) (h : Kp B S w1 w') (h2 : ∀ k ∈ S, k < w.heap.size → k ∈ T) : Kp B T w w' := by
 have h1 : Kp B [] w w1 := Kp.of_touch t (by simp) hB
 exact ⟨h1.bel.trans h.bel, fun i o hi hn hu => h.keep i o (h1.keep i o hi (by simp) hu) (fun hm => hn (h2 i hm (Array.getElem?_eq_some_iff.1 hi).1)) hu⟩
def szCs (sz : Nat) : Nat := if sz = 192 then 1 else if sz = 256 then 8 else 6
def szNb (sz : Nat) : Nat := if sz = 192 then 0 else if sz = 256 then 0 else 8
def rtCr (rt : Nat) : Nat := if rt = 176400 then 2 else if rt = 8000 then 4 else if rt = 44100 then 9 else if rt = 48000 then 10 else if rt = 96000 then 11 else if rt = 12345 then 13 else 14
def rtVal (rt : Nat) : Nat := if rt = 12345 then 12345 else if rt = 655350 then 65535 else 0
def rtNb (rt : Nat) : Nat := if rt = 12345 then 16 else if rt = 655350 then 16 else 0
def bpCb (bp : Nat) : Nat := if bp = 8 then 1 else if bp = 12 then 2 else if bp = 16 then 4 else if bp = 20 then 5 else 6
def RtOk (rt : Nat) : Prop := rt = 176400 ∨ rt = 8000 ∨ rt = 44100 ∨ rt = 48000 ∨ rt = 96000 ∨ rt = 12345 ∨ rt = 655350
def BpOk (bp : Nat) : Prop := bp = 8 ∨ bp = 12 ∨ bp = 16 ∨ bp = 20 ∨ bp = 24
def hdrBits (vr : Bool) (sz rt ch bp num : Nat) : List Nat :=
 ((((((((((bts 16382 14 ++ bts 0 1) ++ bts vr.toNat 1) ++ bts (szCs sz) 4) ++ bts (rtCr rt) 4) ++ bts ch 4) ++ bts (bpCb bp) 3) ++ bts 0 1) ++ bytesBits (coded num)) ++ bts (sz - 1) (szNb sz)) ++ bts (rtVal rt) (rtNb rt))
theorem hdr_size {R : Snk ty fn g B S St} {pre : List Int} {gw : Nat} {bs : List Nat} {w : World} (h : Wb R pre gw bs w) (hB : B ≤ w.heap.size) (hp : pre.length ≤ 30000000000000) (hl : bs.length ≤ 200000000000000) (sz : Nat) (h1 : sz ≤ 256) :
  Calls Tryz.prog 75 #[.pointer (some ⟨gw, 0, none⟩), .int .u16 sz] w fun e w' =>
   e = .returned (.tuple #[.int .u8 (szNb sz), .nilIface]) ∧ Wb R pre gw (bs ++ bts (szCs sz) 4) w' ∧ Kp B (gw :: S) w w' := by
 unfold szNb szCs
 by_cases e1 : sz = 192
 ·rw [if_pos e1, if_pos e1]; exact hdr_size1 h hB hp hl sz e1
 by_cases e2 : sz = 256
 ·rw [if_neg e1, if_neg e1, if_pos e2, if_pos e2, e2]; exact hdr_size8 h hB hp hl
 ·rw [if_neg e1, if_neg e1, if_neg e2, if_neg e2]; exact hdr_size6 h hB hp hl sz (by omega) e1
theorem hdr_rate {R : Snk ty fn g B S St} {pre : List Int} {gw : Nat} {bs : List Nat} {w : World} (h : Wb R pre gw bs w) (hB : B ≤ w.heap.size) (hp : pre.length ≤ 30000000000000) (hl : bs.length ≤ 200000000000000) (rt : Nat) (hr : RtOk rt) :
  Calls Tryz.prog 76 #[.pointer (some ⟨gw, 0, none⟩), .int .u32 rt] w fun e w' =>
   e = .returned (.tuple #[.int .u64 (rtVal rt), .int .u8 (rtNb rt), .nilIface]) ∧ Wb R pre gw (bs ++ bts (rtCr rt) 4) w' ∧ Kp B (gw :: S) w w' := by
 rcases hr with rfl | rfl | rfl | rfl | rfl | rfl | rfl
 ·exact hdr_rate2 h hB hp hl
 ·exact hdr_rate4 h hB hp hl
 ·exact hdr_rate9 h hB hp hl
 ·exact hdr_rate10 h hB hp hl
 ·exact hdr_rate11 h hB hp hl
 ·exact hdr_rate13 h hB hp hl
 ·exact hdr_rate14 h hB hp hl
theorem hdr_bps {R : Snk ty fn g B S St} {pre : List Int} {gw : Nat} {bs : List Nat} {w : World} (h : Wb R pre gw bs w) (hB : B ≤ w.heap.size) (hp : pre.length ≤ 30000000000000) (hl : bs.length ≤ 200000000000000) (bp : Nat) (hr : BpOk bp) :
  Calls Tryz.prog 78 #[.pointer (some ⟨gw, 0, none⟩), .int .u8 bp] w fun e w' =>
   e = .returned .nilIface ∧ Wb R pre gw (bs ++ bts (bpCb bp) 3) w' ∧ Kp B (gw :: S) w w' := by
 rcases hr with rfl | rfl | rfl | rfl | rfl
 ·exact hdr_bps8 h hB hp hl
 ·exact hdr_bps12 h hB hp hl
 ·exact hdr_bps16 h hB hp hl
 ·exact hdr_bps20 h hB hp hl
 ·exact hdr_bps24 h hB hp hl
set_option maxHeartbeats 1000000 in
set_option maxRecDepth 100000 in
theorem al_align {gw : Nat} {w : World} (c2 : w.cell? ⟨gw, 2, none⟩ = some (.int .u8 0)) :
  Calls Tryz.prog 36 #[.pointer (some ⟨gw, 0, none⟩)] w fun e w' => e = .returned (.tuple #[.int .u8 0, .nilIface]) ∧ w = w' := by
 go_enter Tryz.func36, Tryz.ntmps36
 go_wp2_with fail
 go_ret2
 exact ⟨rfl, rfl⟩
theorem Al.cell {R : Snk ty fn g B S St} {pre : List Int} {gw : Nat} {out : List Int} {w : World} (h : Al R pre gw out w) : w.cell? ⟨gw, 2, none⟩ = some (.int .u8 0) := by
 rw [cell_of_row w gw 2 _ _ _ h.blk]; rfl
set_option maxHeartbeats 1000000 in
set_option maxRecDepth 100000 in
theorem al_close {gw : Nat} {w : World} (c2 : w.cell? ⟨gw, 2, none⟩ = some (.int .u8 0)) (u : FrameMode) :
  CallsD Tryz.prog 73 #[.pointer (some ⟨gw, 0, none⟩)] u w fun e u' w' => u' = u ∧ (e = .returned .nilIface ∧ w' = w) := by
 have H := Lib.hid (al_align c2)
 clear c2
 go_enter_d Tryz.func73, Tryz.ntmps73
 go_wp2_with fail
 refine H.out.mono ?_
 rintro e w1 ⟨rfl, rfl⟩
 go_wp2_with fail
 go_ret
 exact ⟨rfl, rfl⟩
abbrev mwS (gm gr d16 t16 b : Nat) : List Nat := [d16, t16, gm, gr, b]
theorem szNb_le (sz : Nat) : szNb sz ≤ 8 := by unfold szNb; split <;> (try split) <;> omega
theorem rtNb_le (rt : Nat) : rtNb rt ≤ 16 := by unfold rtNb; split <;> (try split) <;> omega
theorem rtVal_le (rt : Nat) : rtVal rt ≤ 65535 := by unfold rtVal; split <;> (try split) <;> omega
theorem f8_range (j : Nat) : 0 ≤ f8 7 j ∧ f8 7 j < 256 := by
 show 0 ≤ st8 7 (sts8 7 7 j) ∧ st8 7 (sts8 7 7 j) < 256
 unfold st8; split
 ·exact xor_byte _ _
 ·omega
theorem up8_range' (l : List Int) : ∀ c : Int, 0 ≤ c ∧ c < 256 → 0 ≤ up8 (f8 7) c l ∧ up8 (f8 7) c l < 256 := by
 induction l with
 | nil => exact fun c h => h
 | cons v l ih => exact fun c h => ih _ (f8_range _)
theorem up8_range (l : List Int) : 0 ≤ up8 (f8 7) 0 l ∧ up8 (f8 7) 0 l < 256 := up8_range' l 0 (by decide)
set_option maxHeartbeats 16000000 in
set_option maxRecDepth 100000 in
theorem enc_head {B gm gr d16 t16 b : Nat} {pre : List Int} {w : World} (h : Mw2 B gm gr d16 t16 b pre w []) (hB : B ≤ w.heap.size) (hp : pre.length ≤ 1000000000000) (ge : Addr) (vr : Bool) (sz rt ch bp nm : Nat)
  (hsz0 : 0 < sz) (hsz : sz ≤ 256) (hrt : RtOk rt) (hch : ch ≤ 7) (hbp : BpOk bp) (hnm : nm < 2147483648) (hn : NCh w) (hg0 : 0 < B) :
  Calls Tryz.prog 42 #[.pointer (some ge), .iface 194 (.pointer (some ⟨gm, 0, none⟩)), .agg #[.bool (!vr), .int .u16 sz, .int .u32 rt, .int .u8 ch, .int .u8 bp, .int .u64 nm]] w fun e w' =>
   e = .returned .nilIface ∧ ∃ hb, bytesBits hb = hdrBits vr sz rt ch bp nm ∧ (∀ x ∈ hb, 0 ≤ x ∧ x ≤ 255) ∧ Mw2 B gm gr d16 t16 b pre w' (hb ++ [up8 (f8 7) 0 hb]) ∧ Kp B (mwS gm gr d16 t16 b) w w' := by
 have HH := Lib.hid h
 have HN := Lib.hid hn
 have HRT := Lib.hid hrt
 have HBP := Lib.hid hbp
 clear h hn hrt hbp
 obtain ⟨wa, hwa⟩ : ∃ wa, w.alloc (.cells #[.bool (!vr), .int .u16 sz, .int .u32 rt, .int .u8 ch, .int .u8 bp, .int .u64 nm] 77) = wa := ⟨_, rfl⟩
 have ta : Touch [] w wa := by rw [← hwa]; exact (Touch.refl [] w).alloc _
 have hza : wa.heap.size = w.heap.size + 1 := by rw [← hwa, World.size_alloc]
 have hka : wa.heap[w.heap.size]? = some (.cells #[.bool (!vr), .int .u16 sz, .int .u32 rt, .int .u8 ch, .int .u8 bp, .int .u64 nm] 77 (0, 0)) := by rw [← hwa]; exact heap_alloc_new _ _
 obtain ⟨gh, hgh⟩ : ∃ gh, w.heap.size = gh := ⟨_, rfl⟩
 rw [hgh] at hka
 have HA := Lib.hid (And.intro ta (And.intro hza (And.intro hka hgh)))
 have HWA := Lib.hid hwa
 have s8n : ∀ (d : Nat) (w : World), (nilAhead 413 251 (.pointer (some ⟨d, 0, none⟩)) "Sum8").run Tryz.prog w = .ok (some false) w := fun d w => by kernel_rfl
 have s8m : ∀ (d : Nat) (w : World), (method 413 251 (.pointer (some ⟨d, 0, none⟩)) "Sum8").run Tryz.prog w = .ok (187, .pointer (some ⟨d, 0, none⟩)) w := fun d w => by kernel_rfl
 go_enter_defers Tryz.func42, Tryz.ntmps42
 go_wp2_with fail
 clear ta hza hka hgh hwa
 refine (newDig8 wa).mono ?_
 rintro e w1 ⟨rfl, hb1, hz1, hd1⟩
 obtain ⟨d8, hd8⟩ : ∃ d8, wa.heap.size + 1 = d8 := ⟨_, rfl⟩
 obtain ⟨t8, ht8⟩ : ∃ t8, wa.heap.size = t8 := ⟨_, rfl⟩
 rw [hd8, ht8] at hd1
 rw [hd8]
 have T1 := Lib.hid (show Touch [] w w1 from HA.out.1.trans (Touch.of_below hb1))
 have B1 := Lib.hid hb1
 have Z1 := Lib.hid hz1
 have D1 := Lib.hid hd1
 have HD8 := Lib.hid (And.intro hd8 ht8)
 clear hb1 hz1 hd1 hd8 ht8
 go_wp2_with fail
 obtain ⟨w2, hw2⟩ : ∃ w2, w1.alloc (.cells #[.iface 251 (.pointer (some ⟨d8, 0, none⟩)), .iface 194 (.pointer (some ⟨gm, 0, none⟩))] 110) = w2 := ⟨_, rfl⟩
 have t2 : Touch [] w w2 := by rw [← hw2]; exact T1.out.alloc _
 have t12 : Touch [] w1 w2 := by rw [← hw2]; exact (Touch.refl [] w1).alloc _
 have hk2 : w2.heap[w1.heap.size]? = some (.cells #[.iface 251 (.pointer (some ⟨d8, 0, none⟩)), .iface 194 (.pointer (some ⟨gm, 0, none⟩))] 110 (0, 0)) := by rw [← hw2]; exact heap_alloc_new _ _
 obtain ⟨⟨cm, m1⟩, ⟨cs, m2, m3, m4⟩, m5, m6, m7, m8⟩ := HH.out
 have q0 : w2.cell? ⟨w1.heap.size, 0, none⟩ = some (ifc (251, d8)) := by rw [cell_of_row w2 _ 0 _ _ _ hk2]; rfl
 have q1 : w2.cell? ⟨w1.heap.size, 1, none⟩ = some (ifc (194, gm)) := by rw [cell_of_row w2 _ 1 _ _ _ hk2]; rfl
 have HM3 := Lib.hid (mk3 w2 w1.heap.size 2 d8 gm gr cm d16 b cs ⟨q0, q1⟩ (t2.heap m1 (by simp)) (t2.heap m2 (by simp)) m3 m4)
 have P2 := Lib.hid (And.intro t2 (And.intro t12 hk2))
 rw [hw2]
 clear hw2 t2 t12 hk2 q0 q1 m1 m2 m3 m4 m5 m6 m7 m8
 refine HM3.out.mono ?_
 rintro e w3 ⟨gm3, gr3, cp3, cs3, rfl, t23, hg1, hg2, hm3, hr3, hc0, hc1, hc2⟩
 obtain ⟨m1, m2, m5, m6, m7, m8⟩ := HH.out
 have t3 := P2.out.1.trans t23
 have t13 := P2.out.2.1.trans t23
 have hz1 := T1.out.size
 have hz2 := P2.out.2.1.size
 have hzd := HD8.out
 have hza := HA.out.2.1
 have hzz := Z1.out
 have hdg8 : Dig8 d8 t8 w3 [] := ⟨t13.heap D1.out.1 (by simp), t13.heap D1.out.2 (by simp)⟩
 have st3 : Mw3 B gm3 gr3 d8 t8 d16 t16 b pre [] w3 [] := ⟨⟨cp3, hm3⟩, ⟨cs3, hr3, hc0, hc1, hc2⟩, hdg8, ⟨t3.heap m5.1 (by simp), t3.heap m5.2 (by simp)⟩, m6.move t3 (by simp), ⟨by omega, by omega, by omega, by omega, m7.2.2.1, m7.2.2.2⟩, by omega⟩
 have hfo := Mw2.facts HH.out
 have hsep : (∀ k ∈ [d8, t8, d16, t16, gm3, gr3, b], k < w.heap.size → k ∈ mwS gm gr d16 t16 b) ∧ gm ∉ [d8, t8, d16, t16, gm3, gr3, b] ∧ gr ∉ [d8, t8, d16, t16, gm3, gr3, b] ∧ gh ∉ [d8, t8, d16, t16, gm3, gr3, b] := by
  obtain ⟨c, m1⟩ := m1
  obtain ⟨cs', m2, _⟩ := m2
  have n1 := blk_ne m1 m5.1 (by decide)
  have n2 := blk_ne m1 m5.2 (by decide)
  have n3 := blk_ne m2 m5.1 (by decide)
  have n4 := blk_ne m2 m5.2 (by decide)
  obtain ⟨_, v, lr, hbk, _⟩ := id m6
  have n5 := blk_ne m1 hbk (by decide)
  have n6 := blk_ne m2 hbk (by decide)
  have l1 := (hfo gm (by simp)).1
  have l2 := (hfo gr (by simp)).1
  have l3 := (hfo d16 (by simp)).1
  have l4 := (hfo t16 (by simp)).1
  have l5 := (hfo b (by simp)).1
  have hgh := HA.out.2.2.2
  simp only [List.mem_cons, List.not_mem_nil, or_false, not_or]
  refine ⟨fun k hk hlt => by omega, ?_, ?_, ?_⟩ <;> refine ⟨?_, ?_, ?_, ?_, ?_, ?_, ?_⟩ <;> omega
 have hkh := (P2.out.2.1.trans t23).heap ((T1.out.size |> fun _ => B1.out.block gh (by have := HA.out.2.2.2; omega)).trans HA.out.2.2.1) (by simp)
 have R3 := mw3_snk B gm3 gr3 d8 t8 d16 t16 b pre []
 have X3 := Lib.hid (And.intro st3 (And.intro t3 (And.intro hsep hkh)))
 have hB3 : B ≤ w3.heap.size := Nat.le_trans hB t3.size
 clear t23 hg1 hg2 hm3 hr3 hc0 hc1 hc2 m1 m2 m5 m6 m7 m8 t3 t13 hz1 hz2 hzd hza hzz hdg8 st3 hfo hsep hkh HM3
 go_wp2_with fail
 refine (newWb (R := R3) X3.out.1 hB3).mono ?_
 rintro e w4 ⟨gw, rfl, hwb, t34, hgw⟩
 have t4 := X3.out.2.1.trans t34
 have hk4 := t34.heap X3.out.2.2.2 (by simp)
 have X4 := Lib.hid (And.intro hwb (And.intro (Kp.refl B (gw :: [d8, t8, d16, t16, gm3, gr3, b]) w4) hk4))
 have T4 := Lib.hid t4
 have hB4 : B ≤ w4.heap.size := Nat.le_trans hB t4.size
 have hgn : gh ∉ gw :: [d8, t8, d16, t16, gm3, gr3, b] := fun hm => by
  rcases List.mem_cons.1 hm with e | hm
  ·have h1 := (Array.getElem?_eq_some_iff.1 X3.out.2.2.2).1
   omega
  ·exact X3.out.2.2.1.2.2.2 hm
 have N4 := Lib.hid (HN.out.below (B := B) (w' := w4) (Kp.of_touch t4 (by simp) hB |>.bel) hg0)
 have HG := Lib.hid hgw
 clear hwb t34 t4 hk4 hgw
 go_wp2_with fail
 refine (wb_bits X4.out.1 (Nat.le_trans hB4 X4.out.2.1.bel.size) 16382 14 (by omega) (by omega) (by simp) (by simp only [List.length_append, bts_len, List.length_nil]; omega)).mono ?_
 rintro e w5 ⟨rfl, hb, hk⟩
 have hh := hk.keep gh _ X4.out.2.2 hgn (notU8 (by decide))
 have X5 := Lib.hid (And.intro hb (And.intro (X4.out.2.1.trans hk) hh))
 clear hb hk hh
 go_wp2_with fail
 refine (wb_bits X5.out.1 (Nat.le_trans hB4 X5.out.2.1.bel.size) 0 1 (by omega) (by omega) (by simp) (by simp only [List.length_append, bts_len, List.length_nil]; omega)).mono ?_
 rintro e w6 ⟨rfl, hb, hk⟩
 have hh := hk.keep gh _ X5.out.2.2 hgn (notU8 (by decide))
 have X6 := Lib.hid (And.intro hb (And.intro (X5.out.2.1.trans hk) hh))
 clear hb hk hh
 have c0 : w6.cell? ⟨gh, 0, none⟩ = some (.bool (!vr)) := by rw [cell_of_row w6 gh 0 _ _ _ X6.out.2.2]; rfl
 have nv : (!(!vr)) = vr := by cases vr <;> rfl
 go_wp2_with fail
 refine (wb_bool X6.out.1 (Nat.le_trans hB4 X6.out.2.1.bel.size) vr (by simp) (by simp only [List.length_append, bts_len, List.length_nil]; omega)).mono ?_
 rintro e w7 ⟨rfl, hb, hk⟩
 have hh := hk.keep gh _ X6.out.2.2 hgn (notU8 (by decide))
 have X7 := Lib.hid (And.intro hb (And.intro (X6.out.2.1.trans hk) hh))
 clear hb hk hh
 have c1 : w7.cell? ⟨gh, 1, none⟩ = some (.int .u16 sz) := by rw [cell_of_row w7 gh 1 _ _ _ X7.out.2.2]; rfl
 go_wp2_with fail
 refine (hdr_size X7.out.1 (Nat.le_trans hB4 X7.out.2.1.bel.size) (by simp) (by simp only [List.length_append, bts_len, List.length_nil]; omega) sz hsz).mono ?_
 rintro e w8 ⟨rfl, hb, hk⟩
 have hh := hk.keep gh _ X7.out.2.2 hgn (notU8 (by decide))
 have X8 := Lib.hid (And.intro hb (And.intro (X7.out.2.1.trans hk) hh))
 clear hb hk hh
 have c2 : w8.cell? ⟨gh, 2, none⟩ = some (.int .u32 rt) := by rw [cell_of_row w8 gh 2 _ _ _ X8.out.2.2]; rfl
 go_wp2_with fail
 refine (hdr_rate X8.out.1 (Nat.le_trans hB4 X8.out.2.1.bel.size) (by simp) (by simp only [List.length_append, bts_len, List.length_nil]; omega) rt HRT.out).mono ?_
 rintro e w9 ⟨rfl, hb, hk⟩
 have hh := hk.keep gh _ X8.out.2.2 hgn (notU8 (by decide))
 have X9 := Lib.hid (And.intro hb (And.intro (X8.out.2.1.trans hk) hh))
 clear hb hk hh
 have c3 : w9.cell? ⟨gh, 3, none⟩ = some (.int .u8 ch) := by rw [cell_of_row w9 gh 3 _ _ _ X9.out.2.2]; rfl
 go_wp2_with fail
 refine (hdr_chan X9.out.1 (Nat.le_trans hB4 X9.out.2.1.bel.size) (by simp) (by simp only [List.length_append, bts_len, List.length_nil]; omega) ch hch (N4.out.below X9.out.2.1.bel hg0)).mono ?_
 rintro e w10 ⟨rfl, hb, hk⟩
 have hh := hk.keep gh _ X9.out.2.2 hgn (notU8 (by decide))
 have X10 := Lib.hid (And.intro hb (And.intro (X9.out.2.1.trans hk) hh))
 clear hb hk hh
 have c4 : w10.cell? ⟨gh, 4, none⟩ = some (.int .u8 bp) := by rw [cell_of_row w10 gh 4 _ _ _ X10.out.2.2]; rfl
 go_wp2_with fail
 refine (hdr_bps X10.out.1 (Nat.le_trans hB4 X10.out.2.1.bel.size) (by simp) (by simp only [List.length_append, bts_len, List.length_nil]; omega) bp HBP.out).mono ?_
 rintro e w11 ⟨rfl, hb, hk⟩
 have hh := hk.keep gh _ X10.out.2.2 hgn (notU8 (by decide))
 have X11 := Lib.hid (And.intro hb (And.intro (X10.out.2.1.trans hk) hh))
 clear hb hk hh
 go_wp2_with fail
 refine (wb_bits X11.out.1 (Nat.le_trans hB4 X11.out.2.1.bel.size) 0 1 (by omega) (by omega) (by simp) (by simp only [List.length_append, bts_len, List.length_nil]; omega)).mono ?_
 rintro e w12 ⟨rfl, hb, hk⟩
 have hh := hk.keep gh _ X11.out.2.2 hgn (notU8 (by decide))
 have X12 := Lib.hid (And.intro hb (And.intro (X11.out.2.1.trans hk) hh))
 clear hb hk hh
 have c5 : w12.cell? ⟨gh, 5, none⟩ = some (.int .u64 nm) := by rw [cell_of_row w12 gh 5 _ _ _ X12.out.2.2]; rfl
 go_wp2_with fail
 obtain ⟨o1, ha1, hob1, hol1⟩ := wb_al X12.out.1 (by simp only [List.length_append, bts_len, List.length_nil])
 have hlo : o1.length = 4 := by simp only [List.length_append, bts_len, List.length_nil] at hol1; omega
 have RA := al_snk R3 gw
 refine (enc_any RA nm o1 w12 ha1 (Nat.le_trans hB4 X12.out.2.1.bel.size) (by omega) hnm).mono ?_
 rintro e w13 ⟨rfl, hb, hk⟩
 have hh := hk.keep gh _ X12.out.2.2 hgn (notU8 (by decide))
 have hb := al_wb hb
 rw [bytesBits_append, hob1] at hb
 have X13 := Lib.hid (And.intro hb (And.intro (X12.out.2.1.trans hk) hh))
 clear hb hk hh ha1 hob1 hol1 hlo
 have c1 : w13.cell? ⟨gh, 1, none⟩ = some (.int .u16 sz) := by rw [cell_of_row w13 gh 1 _ _ _ X13.out.2.2]; rfl
 have hlc := more_le nm
 have hcl := coded_len nm
 have HCL := Lib.hid (show (coded nm).length ≤ 7 by omega)
 clear hlc hcl
 obtain ⟨nb, hnb⟩ : ∃ nb, szNb sz = nb := ⟨_, rfl⟩
 obtain ⟨nr, hnr⟩ : ∃ nr, rtNb rt = nr := ⟨_, rfl⟩
 have hnb8 := szNb_le sz
 have hnr16 := rtNb_le rt
 rw [hnb] at hnb8 ⊢
 rw [hnr] at hnr16 ⊢
 have HNB := Lib.hid (And.intro hnb hnr)
 clear hnb hnr
 obtain ⟨s1, hs1⟩ : ∃ s1 : Nat, (sz : Int) - 1 = (s1 : Int) := ⟨sz - 1, by omega⟩
 have hs1b : s1 < 256 := by omega
 have HS1 := Lib.hid (show sz - 1 = s1 by omega)
 by_cases z1 : nb = 0
 ·have X14 := Lib.hid (show Wb R3 [] gw (((((((((([] ++ bts 16382 14) ++ bts 0 1) ++ bts vr.toNat 1) ++ bts (szCs sz) 4) ++ bts (rtCr rt) 4) ++ bts ch 4) ++ bts (bpCb bp) 3) ++ bts 0 1) ++ bytesBits (coded nm)) ++ bts s1 nb) w13 ∧ _ from ⟨by rw [z1, bts, List.append_nil]; exact X13.out.1, X13.out.2⟩)
  have z1' : ¬ 0 < nb := by omega
  clear z1
  by_cases z2 : nr = 0
  ·have X15 := Lib.hid (show Wb R3 [] gw ((((((((((([] ++ bts 16382 14) ++ bts 0 1) ++ bts vr.toNat 1) ++ bts (szCs sz) 4) ++ bts (rtCr rt) 4) ++ bts ch 4) ++ bts (bpCb bp) 3) ++ bts 0 1) ++ bytesBits (coded nm)) ++ bts s1 nb) ++ bts (rtVal rt) nr) w13 ∧ _ from ⟨by rw [z2, bts, List.append_nil]; exact X14.out.1, X14.out.2⟩)
   have z2' : ¬ 0 < nr := by omega
   clear z2
   go_wp2_with fail
   have hl8 : (((((((((((([] ++ bts 16382 14) ++ bts 0 1) ++ bts vr.toNat 1) ++ bts (szCs sz) 4) ++ bts (rtCr rt) 4) ++ bts ch 4) ++ bts (bpCb bp) 3) ++ bts 0 1) ++ bytesBits (coded nm)) ++ bts s1 nb) ++ bts (rtVal rt) nr).length) % 8 = 0 := by
    have h8 : nb % 8 = 0 ∧ nr % 8 = 0 := by
     rw [← HNB.out.1, ← HNB.out.2]; unfold szNb rtNb
     split <;> (try split) <;> (try split) <;> (try split) <;> omega
    simp only [List.length_append, bts_len, List.length_nil, bytesBits_len]; omega
   obtain ⟨out, hal, hob, hol⟩ := wb_al X15.out.1 hl8
   refine (al_align hal.cell).mono ?_
   rintro e wq ⟨rfl, rfl⟩
   have hst := hal.st
   have hdg := hst.dg8
   obtain ⟨cr, hcr, hcr2⟩ : ∃ cr : Nat, up8 (f8 7) 0 out = (cr : Int) ∧ cr < 256 := by
    have h1 := up8_range out
    exact ⟨(up8 (f8 7) 0 out).toNat, by omega, by omega⟩
   have hs8 := sum8 d8 t8 w13 out hdg
   rw [hcr] at hs8
   have HS8 := Lib.hid hs8
   have hm2 := X15.out.2.1
   have HAL := Lib.hid hal
   have hmw : Mw2 B gm gr d16 t16 b pre w13 out := by
    obtain ⟨⟨c, m1⟩, ⟨cs, m2, m34⟩, m5, m6, m7, m8⟩ := HH.out
    have hk4 := X15.out.2.1
    have g1 : gm ∉ gw :: [d8, t8, d16, t16, gm3, gr3, b] := fun hm => by
     rcases List.mem_cons.1 hm with e | hm
     ·have h1 := (Array.getElem?_eq_some_iff.1 (X3.out.2.1.heap m1 (by simp))).1
      have := HG.out
      omega
     ·exact X3.out.2.2.1.2.1 hm
    have g2 : gr ∉ gw :: [d8, t8, d16, t16, gm3, gr3, b] := fun hm => by
     rcases List.mem_cons.1 hm with e | hm
     ·have h1 := (Array.getElem?_eq_some_iff.1 (X3.out.2.1.heap m2 (by simp))).1
      have := HG.out
      omega
     ·exact X3.out.2.2.1.2.2.1 hm
    exact ⟨⟨c, hk4.keep gm _ (T4.out.heap m1 (by simp)) g1 (notU8 (by decide))⟩, ⟨cs, hk4.keep gr _ (T4.out.heap m2 (by simp)) g2 (notU8 (by decide)), m34⟩, hst.dg16, hst.buf, m7, m8⟩
   have holl : 8 * out.length ≤ 200 := by
    rw [hol]; simp only [List.length_append, bts_len, List.length_nil, bytesBits_len]; have := HCL.out; omega
   have HNW := Lib.hid (num_write8 (mw2_snk B gm gr d16 t16 b pre) cr out w13 hmw (Nat.le_trans hB4 X15.out.2.1.bel.size) hcr2 (by omega))
   have Y := Lib.hid (And.intro hob (And.intro hcr hm2))
   clear hl8 hal hob hol hst hdg hcr hs8 hm2 hmw holl
   go_wp2_with fail
   refine HS8.out.mono ?_
   rintro e wq ⟨rfl, hq⟩
   rw [hq]
   clear hq
   go_wp2_with fail
   refine HNW.out.mono ?_
   rintro e wz ⟨rfl, hbz, hkz⟩
   have Z := Lib.hid (And.intro hbz hkz)
   clear hbz hkz
   go_wp2_with fail
   refine leaves_cons (f := 73) (args := #[.pointer (some ⟨gw, 0, none⟩)]) (by simp) (by simp [go_sem]) ?_
   have hgwz := Z.out.2.keep gw _ HAL.out.blk (fun hm => by
    have h1 := ((Mw2.facts HH.out) gw hm).1
    have h2 := HG.out
    have h3 := X3.out.2.1.size
    omega) (notU8 (by decide))
   refine (al_close (by rw [cell_of_row wz gw 2 _ _ _ hgwz]; rfl) .returning).mono ?_
   rintro e u' w'' ⟨rfl, rfl, rfl⟩
   refine ⟨_, results_tmp rfl _ _ _, rfl, out, ?_, HAL.out.by_, ?_, ?_⟩
   ·rw [Y.out.1, ← HNB.out.1, ← HNB.out.2, ← HS1.out]; unfold hdrBits; rw [List.nil_append]
   ·rw [Y.out.2.1]; exact Z.out.1
   ·refine (Kp.after T4.out hB Y.out.2.2 (fun k hk hlt => ?_)).trans Z.out.2
    rcases List.mem_cons.1 hk with e | hk
    ·have h2 := HG.out
     have h3 := X3.out.2.1.size
     omega
    ·exact X3.out.2.2.1.1 k hk hlt
  ·have z2' : 0 < nr := by omega
   clear z2
   have hrv := rtVal_le rt
   go_wp2_with fail
   refine (wb_bits X14.out.1 (Nat.le_trans hB4 X14.out.2.1.bel.size) (rtVal rt) nr (by omega) (by omega) (by simp) (by simp only [List.length_append, bts_len, List.length_nil, bytesBits_len]; have := HCL.out; omega)).mono ?_
   rintro e w15 ⟨rfl, hb, hk⟩
   have hh := hk.keep gh _ X14.out.2.2 hgn (notU8 (by decide))
   have X15 := Lib.hid (And.intro hb (And.intro (X14.out.2.1.trans hk) hh))
   clear hb hk hh hrv
   go_wp2_with fail
   have hl8 : (((((((((((([] ++ bts 16382 14) ++ bts 0 1) ++ bts vr.toNat 1) ++ bts (szCs sz) 4) ++ bts (rtCr rt) 4) ++ bts ch 4) ++ bts (bpCb bp) 3) ++ bts 0 1) ++ bytesBits (coded nm)) ++ bts s1 nb) ++ bts (rtVal rt) nr).length) % 8 = 0 := by
    have h8 : nb % 8 = 0 ∧ nr % 8 = 0 := by
     rw [← HNB.out.1, ← HNB.out.2]; unfold szNb rtNb
     split <;> (try split) <;> (try split) <;> (try split) <;> omega
    simp only [List.length_append, bts_len, List.length_nil, bytesBits_len]; omega
   obtain ⟨out, hal, hob, hol⟩ := wb_al X15.out.1 hl8
   refine (al_align hal.cell).mono ?_
   rintro e wq ⟨rfl, rfl⟩
   have hst := hal.st
   have hdg := hst.dg8
   obtain ⟨cr, hcr, hcr2⟩ : ∃ cr : Nat, up8 (f8 7) 0 out = (cr : Int) ∧ cr < 256 := by
    have h1 := up8_range out
    exact ⟨(up8 (f8 7) 0 out).toNat, by omega, by omega⟩
   have hs8 := sum8 d8 t8 w15 out hdg
   rw [hcr] at hs8
   have HS8 := Lib.hid hs8
   have hm2 := X15.out.2.1
   have HAL := Lib.hid hal
   have hmw : Mw2 B gm gr d16 t16 b pre w15 out := by
    obtain ⟨⟨c, m1⟩, ⟨cs, m2, m34⟩, m5, m6, m7, m8⟩ := HH.out
    have hk4 := X15.out.2.1
    have g1 : gm ∉ gw :: [d8, t8, d16, t16, gm3, gr3, b] := fun hm => by
     rcases List.mem_cons.1 hm with e | hm
     ·have h1 := (Array.getElem?_eq_some_iff.1 (X3.out.2.1.heap m1 (by simp))).1
      have := HG.out
      omega
     ·exact X3.out.2.2.1.2.1 hm
    have g2 : gr ∉ gw :: [d8, t8, d16, t16, gm3, gr3, b] := fun hm => by
     rcases List.mem_cons.1 hm with e | hm
     ·have h1 := (Array.getElem?_eq_some_iff.1 (X3.out.2.1.heap m2 (by simp))).1
      have := HG.out
      omega
     ·exact X3.out.2.2.1.2.2.1 hm
    exact ⟨⟨c, hk4.keep gm _ (T4.out.heap m1 (by simp)) g1 (notU8 (by decide))⟩, ⟨cs, hk4.keep gr _ (T4.out.heap m2 (by simp)) g2 (notU8 (by decide)), m34⟩, hst.dg16, hst.buf, m7, m8⟩
   have holl : 8 * out.length ≤ 200 := by
    rw [hol]; simp only [List.length_append, bts_len, List.length_nil, bytesBits_len]; have := HCL.out; omega
   have HNW := Lib.hid (num_write8 (mw2_snk B gm gr d16 t16 b pre) cr out w15 hmw (Nat.le_trans hB4 X15.out.2.1.bel.size) hcr2 (by omega))
   have Y := Lib.hid (And.intro hob (And.intro hcr hm2))
   clear hl8 hal hob hol hst hdg hcr hs8 hm2 hmw holl
   go_wp2_with fail
   refine HS8.out.mono ?_
   rintro e wq ⟨rfl, hq⟩
   rw [hq]
   clear hq
   go_wp2_with fail
   refine HNW.out.mono ?_
   rintro e wz ⟨rfl, hbz, hkz⟩
   have Z := Lib.hid (And.intro hbz hkz)
   clear hbz hkz
   go_wp2_with fail
   refine leaves_cons (f := 73) (args := #[.pointer (some ⟨gw, 0, none⟩)]) (by simp) (by simp [go_sem]) ?_
   have hgwz := Z.out.2.keep gw _ HAL.out.blk (fun hm => by
    have h1 := ((Mw2.facts HH.out) gw hm).1
    have h2 := HG.out
    have h3 := X3.out.2.1.size
    omega) (notU8 (by decide))
   refine (al_close (by rw [cell_of_row wz gw 2 _ _ _ hgwz]; rfl) .returning).mono ?_
   rintro e u' w'' ⟨rfl, rfl, rfl⟩
   refine ⟨_, results_tmp rfl _ _ _, rfl, out, ?_, HAL.out.by_, ?_, ?_⟩
   ·rw [Y.out.1, ← HNB.out.1, ← HNB.out.2, ← HS1.out]; unfold hdrBits; rw [List.nil_append]
   ·rw [Y.out.2.1]; exact Z.out.1
   ·refine (Kp.after T4.out hB Y.out.2.2 (fun k hk hlt => ?_)).trans Z.out.2
    rcases List.mem_cons.1 hk with e | hk
    ·have h2 := HG.out
     have h3 := X3.out.2.1.size
     omega
    ·exact X3.out.2.2.1.1 k hk hlt
 ·have z1' : 0 < nb := by omega
  clear z1
  go_wp2_with fail
  refine (wb_bits X13.out.1 (Nat.le_trans hB4 X13.out.2.1.bel.size) s1 nb (by omega) (by omega) (by simp) (by simp only [List.length_append, bts_len, List.length_nil, bytesBits_len]; have := HCL.out; omega)).mono ?_
  rintro e w14 ⟨rfl, hb, hk⟩
  have hh := hk.keep gh _ X13.out.2.2 hgn (notU8 (by decide))
  have X14 := Lib.hid (And.intro hb (And.intro (X13.out.2.1.trans hk) hh))
  clear hb hk hh
  by_cases z2 : nr = 0
  ·have X15 := Lib.hid (show Wb R3 [] gw ((((((((((([] ++ bts 16382 14) ++ bts 0 1) ++ bts vr.toNat 1) ++ bts (szCs sz) 4) ++ bts (rtCr rt) 4) ++ bts ch 4) ++ bts (bpCb bp) 3) ++ bts 0 1) ++ bytesBits (coded nm)) ++ bts s1 nb) ++ bts (rtVal rt) nr) w14 ∧ _ from ⟨by rw [z2, bts, List.append_nil]; exact X14.out.1, X14.out.2⟩)
   have z2' : ¬ 0 < nr := by omega
   clear z2
   go_wp2_with fail
   have hl8 : (((((((((((([] ++ bts 16382 14) ++ bts 0 1) ++ bts vr.toNat 1) ++ bts (szCs sz) 4) ++ bts (rtCr rt) 4) ++ bts ch 4) ++ bts (bpCb bp) 3) ++ bts 0 1) ++ bytesBits (coded nm)) ++ bts s1 nb) ++ bts (rtVal rt) nr).length) % 8 = 0 := by
    have h8 : nb % 8 = 0 ∧ nr % 8 = 0 := by
     rw [← HNB.out.1, ← HNB.out.2]; unfold szNb rtNb
     split <;> (try split) <;> (try split) <;> (try split) <;> omega
    simp only [List.length_append, bts_len, List.length_nil, bytesBits_len]; omega
   obtain ⟨out, hal, hob, hol⟩ := wb_al X15.out.1 hl8
   refine (al_align hal.cell).mono ?_
   rintro e wq ⟨rfl, rfl⟩
   have hst := hal.st
   have hdg := hst.dg8
   obtain ⟨cr, hcr, hcr2⟩ : ∃ cr : Nat, up8 (f8 7) 0 out = (cr : Int) ∧ cr < 256 := by
    have h1 := up8_range out
    exact ⟨(up8 (f8 7) 0 out).toNat, by omega, by omega⟩
   have hs8 := sum8 d8 t8 w14 out hdg
   rw [hcr] at hs8
   have HS8 := Lib.hid hs8
   have hm2 := X15.out.2.1
   have HAL := Lib.hid hal
   have hmw : Mw2 B gm gr d16 t16 b pre w14 out := by
    obtain ⟨⟨c, m1⟩, ⟨cs, m2, m34⟩, m5, m6, m7, m8⟩ := HH.out
    have hk4 := X15.out.2.1
    have g1 : gm ∉ gw :: [d8, t8, d16, t16, gm3, gr3, b] := fun hm => by
     rcases List.mem_cons.1 hm with e | hm
     ·have h1 := (Array.getElem?_eq_some_iff.1 (X3.out.2.1.heap m1 (by simp))).1
      have := HG.out
      omega
     ·exact X3.out.2.2.1.2.1 hm
    have g2 : gr ∉ gw :: [d8, t8, d16, t16, gm3, gr3, b] := fun hm => by
     rcases List.mem_cons.1 hm with e | hm
     ·have h1 := (Array.getElem?_eq_some_iff.1 (X3.out.2.1.heap m2 (by simp))).1
      have := HG.out
      omega
     ·exact X3.out.2.2.1.2.2.1 hm
    exact ⟨⟨c, hk4.keep gm _ (T4.out.heap m1 (by simp)) g1 (notU8 (by decide))⟩, ⟨cs, hk4.keep gr _ (T4.out.heap m2 (by simp)) g2 (notU8 (by decide)), m34⟩, hst.dg16, hst.buf, m7, m8⟩
   have holl : 8 * out.length ≤ 200 := by
    rw [hol]; simp only [List.length_append, bts_len, List.length_nil, bytesBits_len]; have := HCL.out; omega
   have HNW := Lib.hid (num_write8 (mw2_snk B gm gr d16 t16 b pre) cr out w14 hmw (Nat.le_trans hB4 X15.out.2.1.bel.size) hcr2 (by omega))
   have Y := Lib.hid (And.intro hob (And.intro hcr hm2))
   clear hl8 hal hob hol hst hdg hcr hs8 hm2 hmw holl
   go_wp2_with fail
   refine HS8.out.mono ?_
   rintro e wq ⟨rfl, hq⟩
   rw [hq]
   clear hq
   go_wp2_with fail
   refine HNW.out.mono ?_
   rintro e wz ⟨rfl, hbz, hkz⟩
   have Z := Lib.hid (And.intro hbz hkz)
   clear hbz hkz
   go_wp2_with fail
   refine leaves_cons (f := 73) (args := #[.pointer (some ⟨gw, 0, none⟩)]) (by simp) (by simp [go_sem]) ?_
   have hgwz := Z.out.2.keep gw _ HAL.out.blk (fun hm => by
    have h1 := ((Mw2.facts HH.out) gw hm).1
    have h2 := HG.out
    have h3 := X3.out.2.1.size
    omega) (notU8 (by decide))
   refine (al_close (by rw [cell_of_row wz gw 2 _ _ _ hgwz]; rfl) .returning).mono ?_
   rintro e u' w'' ⟨rfl, rfl, rfl⟩
   refine ⟨_, results_tmp rfl _ _ _, rfl, out, ?_, HAL.out.by_, ?_, ?_⟩
   ·rw [Y.out.1, ← HNB.out.1, ← HNB.out.2, ← HS1.out]; unfold hdrBits; rw [List.nil_append]
   ·rw [Y.out.2.1]; exact Z.out.1
   ·refine (Kp.after T4.out hB Y.out.2.2 (fun k hk hlt => ?_)).trans Z.out.2
    rcases List.mem_cons.1 hk with e | hk
    ·have h2 := HG.out
     have h3 := X3.out.2.1.size
     omega
    ·exact X3.out.2.2.1.1 k hk hlt
  ·have z2' : 0 < nr := by omega
   clear z2
   have hrv := rtVal_le rt
   go_wp2_with fail
   refine (wb_bits X14.out.1 (Nat.le_trans hB4 X14.out.2.1.bel.size) (rtVal rt) nr (by omega) (by omega) (by simp) (by simp only [List.length_append, bts_len, List.length_nil, bytesBits_len]; have := HCL.out; omega)).mono ?_
   rintro e w15 ⟨rfl, hb, hk⟩
   have hh := hk.keep gh _ X14.out.2.2 hgn (notU8 (by decide))
   have X15 := Lib.hid (And.intro hb (And.intro (X14.out.2.1.trans hk) hh))
   clear hb hk hh hrv
   go_wp2_with fail
   have hl8 : (((((((((((([] ++ bts 16382 14) ++ bts 0 1) ++ bts vr.toNat 1) ++ bts (szCs sz) 4) ++ bts (rtCr rt) 4) ++ bts ch 4) ++ bts (bpCb bp) 3) ++ bts 0 1) ++ bytesBits (coded nm)) ++ bts s1 nb) ++ bts (rtVal rt) nr).length) % 8 = 0 := by
    have h8 : nb % 8 = 0 ∧ nr % 8 = 0 := by
     rw [← HNB.out.1, ← HNB.out.2]; unfold szNb rtNb
     split <;> (try split) <;> (try split) <;> (try split) <;> omega
    simp only [List.length_append, bts_len, List.length_nil, bytesBits_len]; omega
   obtain ⟨out, hal, hob, hol⟩ := wb_al X15.out.1 hl8
   refine (al_align hal.cell).mono ?_
   rintro e wq ⟨rfl, rfl⟩
   have hst := hal.st
   have hdg := hst.dg8
   obtain ⟨cr, hcr, hcr2⟩ : ∃ cr : Nat, up8 (f8 7) 0 out = (cr : Int) ∧ cr < 256 := by
    have h1 := up8_range out
    exact ⟨(up8 (f8 7) 0 out).toNat, by omega, by omega⟩
   have hs8 := sum8 d8 t8 w15 out hdg
   rw [hcr] at hs8
   have HS8 := Lib.hid hs8
   have hm2 := X15.out.2.1
   have HAL := Lib.hid hal
   have hmw : Mw2 B gm gr d16 t16 b pre w15 out := by
    obtain ⟨⟨c, m1⟩, ⟨cs, m2, m34⟩, m5, m6, m7, m8⟩ := HH.out
    have hk4 := X15.out.2.1
    have g1 : gm ∉ gw :: [d8, t8, d16, t16, gm3, gr3, b] := fun hm => by
     rcases List.mem_cons.1 hm with e | hm
     ·have h1 := (Array.getElem?_eq_some_iff.1 (X3.out.2.1.heap m1 (by simp))).1
      have := HG.out
      omega
     ·exact X3.out.2.2.1.2.1 hm
    have g2 : gr ∉ gw :: [d8, t8, d16, t16, gm3, gr3, b] := fun hm => by
     rcases List.mem_cons.1 hm with e | hm
     ·have h1 := (Array.getElem?_eq_some_iff.1 (X3.out.2.1.heap m2 (by simp))).1
      have := HG.out
      omega
     ·exact X3.out.2.2.1.2.2.1 hm
    exact ⟨⟨c, hk4.keep gm _ (T4.out.heap m1 (by simp)) g1 (notU8 (by decide))⟩, ⟨cs, hk4.keep gr _ (T4.out.heap m2 (by simp)) g2 (notU8 (by decide)), m34⟩, hst.dg16, hst.buf, m7, m8⟩
   have holl : 8 * out.length ≤ 200 := by
    rw [hol]; simp only [List.length_append, bts_len, List.length_nil, bytesBits_len]; have := HCL.out; omega
   have HNW := Lib.hid (num_write8 (mw2_snk B gm gr d16 t16 b pre) cr out w15 hmw (Nat.le_trans hB4 X15.out.2.1.bel.size) hcr2 (by omega))
   have Y := Lib.hid (And.intro hob (And.intro hcr hm2))
   clear hl8 hal hob hol hst hdg hcr hs8 hm2 hmw holl
   go_wp2_with fail
   refine HS8.out.mono ?_
   rintro e wq ⟨rfl, hq⟩
   rw [hq]
   clear hq
   go_wp2_with fail
   refine HNW.out.mono ?_
   rintro e wz ⟨rfl, hbz, hkz⟩
   have Z := Lib.hid (And.intro hbz hkz)
   clear hbz hkz
   go_wp2_with fail
   refine leaves_cons (f := 73) (args := #[.pointer (some ⟨gw, 0, none⟩)]) (by simp) (by simp [go_sem]) ?_
   have hgwz := Z.out.2.keep gw _ HAL.out.blk (fun hm => by
    have h1 := ((Mw2.facts HH.out) gw hm).1
    have h2 := HG.out
    have h3 := X3.out.2.1.size
    omega) (notU8 (by decide))
   refine (al_close (by rw [cell_of_row wz gw 2 _ _ _ hgwz]; rfl) .returning).mono ?_
   rintro e u' w'' ⟨rfl, rfl, rfl⟩
   refine ⟨_, results_tmp rfl _ _ _, rfl, out, ?_, HAL.out.by_, ?_, ?_⟩
   ·rw [Y.out.1, ← HNB.out.1, ← HNB.out.2, ← HS1.out]; unfold hdrBits; rw [List.nil_append]
   ·rw [Y.out.2.1]; exact Z.out.1
   ·refine (Kp.after T4.out hB Y.out.2.2 (fun k hk hlt => ?_)).trans Z.out.2
    rcases List.mem_cons.1 hk with e | hk
    ·have h2 := HG.out
     have h3 := X3.out.2.1.size
     omega
    ·exact X3.out.2.2.1.1 k hk hlt
end Go.Proofs.YtmcllndnjdemaaaGreatDoor.Walk
