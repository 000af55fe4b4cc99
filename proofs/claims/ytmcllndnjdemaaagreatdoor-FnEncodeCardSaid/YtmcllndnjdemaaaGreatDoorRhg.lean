/- spec.ReadHead at a header that the package wrote. Printed by wip/rhg.py. -/
import Derived.Test.YtmcllndnjdemaaaGreatDoorRhk
import Derived.Outline
import Derived.BigQuiet
import Derived.Deep.DeepCutAuto
import Derived.Deep.CutBlock
import Derived.Deep.RegionWith
import Derived.Lib.Bytes
import Derived.Deep.RegionHeld3
namespace Go.Proofs.YtmcllndnjdemaaaGreatDoor.Walk
set_option linter.unusedVariables false
set_option linter.unusedSimpArgs false
open Go Go.RowKit Go.Proofs.YtmcllndnjdemaaaGreatDoorW.PrintWords Go.Proofs.YtmcllndnjdemaaaGreatDoorW.PrintLast Go.Proofs.YtmcllndnjdemaaaGreatDoorW.PrintMore Go.Proofs.YtmcllndnjdemaaaGreatDoor.Num Go.Proofs.YtmcllndnjdemaaaGreatDoor.Crc Go.Proofs.YtmcllndnjdemaaaGreatDoor.PFnEncode
theorem bits_drop {l : List Int} (hb : ∀ i, l.getD i 0 = (byteAt l i : Int) ∧ byteAt l i < 256) : ∀ (cs : List Int) (p : Nat), (∀ x ∈ cs, 0 ≤ x ∧ x ≤ 255) → BitsAt l (8 * p) (bytesBits cs) → l.drop p = cs ++ l.drop (p + cs.length)
 | [], p, _, _ => by simp
 | c :: cs, p, hc, h => by
  rw [bytesBits] at h
  have h1 := h.left.val
  have hp := h.left.1
  rw [bts_len] at hp
  have hc1 := hc c (by simp)
  rw [num_byte l p (hb p).2, Nat.mod_eq_of_lt (show c.toNat < 2 ^ 8 by omega)] at h1
  have h2 := bits_drop hb cs (p + 1) (fun x hx => hc x (List.mem_cons_of_mem _ hx)) (by have h3 := h.right; rw [bts_len] at h3; exact h3)
  have hpl : p < l.length := by omega
  have h3 := (hb p).1
  rw [List.getD_eq_getElem?_getD, List.getElem?_eq_getElem hpl, Option.getD_some, h1] at h3
  rw [List.drop_eq_getElem_cons hpl, h3, h2, List.length_cons, List.cons_append]
  congr 1
  ·omega
  ·congr 2; omega
structure HdrAt (l : List Int) (vr : Bool) (cs cr ch cb nm k svn sv rvn rv z p : Nat) : Prop where
 b0 : BitsAt l 0 (bts 32764 15)
 b1 : BitsAt l 15 (bts vr.toNat 1)
 b2 : BitsAt l 16 (bts cs 4)
 b3 : BitsAt l 20 (bts cr 4)
 b4 : BitsAt l 24 (bts ch 4)
 b5 : BitsAt l 28 (bts cb 3)
 b6 : BitsAt l 31 (bts 0 1)
 b7 : ∃ ts, l.drop 4 = coded nm ++ ts ∧ ∀ x ∈ ts, 0 ≤ x ∧ x ≤ 255
 b8 : BitsAt l (32 + 8 * k) (bts sv svn)
 b9 : BitsAt l (32 + 8 * k + svn) (bts rv rvn)
 b10 : BitsAt l (8 * p) (bts z 8)
 hp : 8 * p = 32 + 8 * k + svn + rvn
 hz : up8 (f8 7) 0 (l.take p) = (z : Int)
 hz8 : z < 256
 hl : p < l.length
theorem hdr_at {hb rest l : List Int} {vr : Bool} {sz rt ch bp nm : Nat} (he : l = hb ++ up8 (f8 7) 0 hb :: rest) (hl : ∀ x ∈ l, 0 ≤ x ∧ x ≤ 255) (hbits : bytesBits hb = hdrBits vr sz rt ch bp nm) (hnm : nm < 68719476736) :
  ∃ z, HdrAt l vr (szCs sz) (rtCr rt) ch (bpCb bp) nm (more nm + 1) (szNb sz) (sz - 1) (rtNb rt) (rtVal rt) z hb.length := by
 have hB := bitsAt_bytes [] hb (up8 (f8 7) 0 hb :: rest)
 rw [List.nil_append, ← he, List.length_nil, Nat.mul_zero, hbits] at hB
 have hbb : ∀ x ∈ hb, 0 ≤ x ∧ x ≤ 255 := fun x hx => hl x (by rw [he]; exact List.mem_append_left _ hx)
 obtain ⟨z, hz, hz8⟩ := sum_byte hb hbb
 have hS := bitsAt_bytes hb [(z : Int)] rest
 rw [List.singleton_append, ← hz, ← he, bytesBits, bytesBits, List.append_nil, hz, Int.toNat_natCast] at hS
 have hlen := congrArg List.length hbits
 rw [bytesBits_len] at hlen
 unfold hdrBits at hlen hB
 simp only [List.length_append, bts_len, bytesBits_len, coded_len] at hlen
 have e : bts 16382 14 ++ bts 0 1 = bts 32764 15 := by decide
 rw [e] at hB
 have hbA := fun i => bytes_at hl i
 have h9 := hB.right
 have h8 := hB.left.right
 have h7 := hB.left.left.right
 have h6 := hB.left.left.left.right
 have h5 := hB.left.left.left.left.right
 have h4 := hB.left.left.left.left.left.right
 have h3 := hB.left.left.left.left.left.left.right
 have h2 := hB.left.left.left.left.left.left.left.right
 have h1 := hB.left.left.left.left.left.left.left.left.right
 have h0 := hB.left.left.left.left.left.left.left.left.left
 simp only [List.length_append, bts_len, bytesBits_len, coded_len, Nat.zero_add] at h1 h2 h3 h4 h5 h6 h7 h8 h9
 have hd := bits_drop hbA (coded nm) 4 (coded_bytes nm hnm) h7
 refine ⟨z, h0, h1, h2, h3, h4, h5, h6, ⟨_, hd, fun x hx => hl x (List.mem_of_mem_drop hx)⟩, h8, h9, hS, by omega, by rw [he, List.take_left, hz], hz8, by rw [he]; simp⟩
theorem sz_cases (sz : Nat) (h0 : 0 < sz) (h1 : sz ≤ 256) : 0 < szCs sz ∧ szCs sz < 16 ∧ ((szCs sz = 6 ∧ szNb sz = 8) ∨ (szCs sz ≠ 6 ∧ szCs sz ≠ 7 ∧ szNb sz = 0 ∧ szOf (szCs sz) = sz)) := by
 unfold szCs szNb
 by_cases h : sz = 192
 ·subst h; simp [szOf]
 ·by_cases h' : sz = 256
  ·subst h'; simp [szOf]
  ·simp [h, h']
theorem rt_cases (rt : Nat) (h : RtOk rt) : 0 < rtCr rt ∧ rtCr rt < 15 ∧ 0 < rt ∧ ((rtCr rt = 13 ∧ rtNb rt = 16 ∧ rtVal rt = rt ∧ rt < 65536) ∨ (rtCr rt = 14 ∧ rtNb rt = 16 ∧ rt = 10 * rtVal rt ∧ rtVal rt < 65536) ∨ (rtCr rt < 12 ∧ rtNb rt = 0 ∧ rateTab.getD (rtCr rt) 0 = rt)) := by
 rcases h with rfl | rfl | rfl | rfl | rfl | rfl | rfl <;> decide
theorem bp_cases (bp : Nat) (h : BpOk bp) : bpCb bp < 7 ∧ bpCb bp ≠ 3 ∧ ([.int .i64 0, .int .i64 8, .int .i64 12, .int .i64 0, .int .i64 16, .int .i64 20, .int .i64 24] : List Value)[bpCb bp]? = some (.int .i64 bp) := by
 rcases h with rfl | rfl | rfl | rfl | rfl <;> exact ⟨by decide, by decide, rfl⟩
theorem rs_ret {w0 w : World} {N : Nat} {l : List Int} {at_ : Nat} {b0 : Bool} {i1 i2 i3 i4 i5 : Int} (h : Rs w0 N l w at_ #[.bool b0, .int .i64 i1, .int .i64 i2, .int .i64 i3, .int .i64 i4, .int .u64 i5]) :
  ∃ wz, ((((((w.setCell ⟨N, 0, none⟩ (.bool b0)).setCell ⟨N, 1, none⟩ (.int .i64 i1)).setCell ⟨N, 2, none⟩ (.int .i64 i2)).setCell ⟨N, 3, none⟩ (.int .i64 i3)).setCell ⟨N, 4, none⟩ (.int .i64 i4)).setCell ⟨N, 5, none⟩ (.int .u64 i5)) = wz ∧ Below w0.heap.size w0 wz ∧ wz.cell? ⟨N, 0, none⟩ = some (.bool b0) ∧ wz.cell? ⟨N, 1, none⟩ = some (.int .i64 i1) ∧ wz.cell? ⟨N, 2, none⟩ = some (.int .i64 i2) ∧ wz.cell? ⟨N, 3, none⟩ = some (.int .i64 i3) ∧ wz.cell? ⟨N, 4, none⟩ = some (.int .i64 i4) ∧ wz.cell? ⟨N, 5, none⟩ = some (.int .u64 i5) := by
 have z0 := blk_set h.res 0 (.bool b0)
 have z1 := blk_set z0 1 (.int .i64 i1)
 have z2 := blk_set z1 2 (.int .i64 i2)
 have z3 := blk_set z2 3 (.int .i64 i3)
 have z4 := blk_set z3 4 (.int .i64 i4)
 have z5 := blk_set z4 5 (.int .u64 i5)
 obtain ⟨wz, hwz⟩ : ∃ wz, ((((((w.setCell ⟨N, 0, none⟩ (.bool b0)).setCell ⟨N, 1, none⟩ (.int .i64 i1)).setCell ⟨N, 2, none⟩ (.int .i64 i2)).setCell ⟨N, 3, none⟩ (.int .i64 i3)).setCell ⟨N, 4, none⟩ (.int .i64 i4)).setCell ⟨N, 5, none⟩ (.int .u64 i5)) = wz := ⟨_, rfl⟩
 have hb := ((((((h.rd.bel.setCell (p := ⟨N, 0, none⟩) (Nat.le_of_eq h.hN) (.bool b0)).setCell (p := ⟨N, 1, none⟩) (Nat.le_of_eq h.hN) (.int .i64 i1)).setCell (p := ⟨N, 2, none⟩) (Nat.le_of_eq h.hN) (.int .i64 i2)).setCell (p := ⟨N, 3, none⟩) (Nat.le_of_eq h.hN) (.int .i64 i3)).setCell (p := ⟨N, 4, none⟩) (Nat.le_of_eq h.hN) (.int .i64 i4)).setCell (p := ⟨N, 5, none⟩) (Nat.le_of_eq h.hN) (.int .u64 i5))
 rw [hwz] at z5 hb
 have hz : wz.heap[N]? = some (.cells #[.bool b0, .int .i64 i1, .int .i64 i2, .int .i64 i3, .int .i64 i4, .int .u64 i5] 32 (0, 0)) := by rw [z5]; rfl
 exact ⟨wz, hwz, hb, by rw [cell_of_row wz N 0 _ _ _ hz]; rfl, by rw [cell_of_row wz N 1 _ _ _ hz]; rfl, by rw [cell_of_row wz N 2 _ _ _ hz]; rfl, by rw [cell_of_row wz N 3 _ _ _ hz]; rfl, by rw [cell_of_row wz N 4 _ _ _ hz]; rfl, by rw [cell_of_row wz N 5 _ _ _ hz]; rfl⟩
def dropSeq : Nat → Code → Code
 | 0, c => c
 | n + 1, .seq _ b => dropSeq n b
 | _, c => c
noncomputable def rhTail (n : Nat) : Code := dropSeq n ((Tryz.f23.body).getD .skip)
set_option maxHeartbeats 32000000 in
set_option maxRecDepth 100000 in
theorem rg_tail {w wc : World} {N n c cs cr cb k svn rvn rv z p a2 sz rt ch bp nm : Nat} {vr : Bool} {ad : Addr} {l : List Int} {u13 u14 u15 u16 u17 u18 u19 u20 u21 u22 u23 u24 u25 u26 u27 u28 u29 u30 u31 u32 u33 u34 u35 u36 u37 u38 u39 u40 u41 u42 u43 u44 u45 u46 u47 u48 u49 u50 u51 u52 u53 u54 u55 u56 u57 u58 u59 u60 u61 u62 u63 u64 u65 u66 u67 u68 u69 u70 u71 u72 u73 u74 u75 u76 u77 u78 u79 u80 u81 u82 u83 u84 u85 u86 u87 u88 u89 u90 u91 u92 u93 u94 u95 u96 u97 u98 u99 u100 u101 u102 u103 u104 u105 u106 u107 u108 u109 u110 u111 u112 u113 u114 u115 u116 u117 u118 u119 u120 u121 u122 u123 u124 u125 u126 u127 u128 u129 u130 u131 u132 u133 u134 u135 u136 u137 u138 u139 u140 u141 u142 u143 u144 u145 u146 u147 u148 u149 u150 u151 u152 u153 u154 u155 u156 u157 u158 u159 u160 u161 u162 u163 u164 u165 u166 u167 u168 u169 u170 u171 u172 u173 u174 u175 u176 u177 u178 u179 u180 u181 u182 u183 u184 u185 u186 u187 u188 u189 u190 u191 u192 u193 u194 u195 u196 u197 u198 u199 u200 u201 u202 u203 u204 u205 u206 u207 u208 u209 u210 u211 u212 u213 u214 u215 u216 u217 : Value} (hc : n ≤ c) (hn : n ≤ 100000000000000) (hc2 : c ≤ 9223372036854775807)
  (ha2 : a2 = 32 + 8 * k + svn) (hpk : 8 * p = 32 + 8 * k + svn + rvn) (hlp : p < n) (rt1 : 0 < cr) (rt2 : cr < 15) (rt0 : 0 < rt) (hrtb : rt ≤ 655350) (hsz0 : 0 < sz) (hsz : sz ≤ 256) (hk7 : k ≤ 7) (bp1 : cb < 7) (hsv8 : svn ≤ 8)
  (HNL : Hid (l.length = n)) (HL : Hid (ReadsInt w .u8 (some ad) n l)) (HBY : Hid (∀ i, l.getD i 0 = (byteAt l i : Int) ∧ byteAt l i < 256)) (HBX : Hid (∀ x ∈ l, 0 ≤ x ∧ x ≤ 255)) (HA : Hid (HdrAt l vr cs cr ch cb nm k svn (sz - 1) rvn rv z p))
  (HRT : Hid (cr = 13 ∧ rvn = 16 ∧ rv = rt ∧ rt < 65536 ∨ cr = 14 ∧ rvn = 16 ∧ rt = 10 * rv ∧ rv < 65536 ∨ cr < 12 ∧ rvn = 0 ∧ rateTab.getD cr 0 = rt))
  (HBP : Hid (([.int .i64 0, .int .i64 8, .int .i64 12, .int .i64 0, .int .i64 16, .int .i64 20, .int .i64 24] : List Value)[cb]? = some (.int .i64 bp))) (HLL : Hid (l.length ≤ 140737488355328))
  (X15 : Hid (Rs w N l wc a2 #[.bool vr, .int .i64 sz, .int .i64 0, .int .i64 ch, .int .i64 0, .int .u64 nm])) :
  Code.wp Tryz.prog (rhTail 19) (bodyPost Tryz.prog Tryz.f23 (fun e w' => Below N w w' ∧ e = .returned (.tuple #[.agg #[.bool vr, .int .i64 sz, .int .i64 rt, .int .i64 ch, .int .i64 bp, .int .u64 nm], .int .i64 (p + 1 : Nat), .int .i64 0]))) ⟨List.toArray (.slice (some ad) n c :: undef :: .pointer (some ⟨N, 0, none⟩) :: .int .i64 0 :: .int .i64 0 :: .pointer (some ⟨N + 1, 0, none⟩) :: .pointer (some ⟨N + 2, 0, none⟩) :: .int .i64 cs :: .int .i64 cr :: .int .i64 cb :: .int .i64 0 :: .int .i64 k :: undef :: u13 :: u14 :: u15 :: u16 :: u17 :: u18 :: u19 :: u20 :: u21 :: u22 :: u23 :: u24 :: u25 :: u26 :: u27 :: u28 :: u29 :: u30 :: u31 :: u32 :: u33 :: u34 :: u35 :: u36 :: u37 :: u38 :: u39 :: u40 :: u41 :: u42 :: u43 :: u44 :: u45 :: u46 :: u47 :: u48 :: u49 :: u50 :: u51 :: u52 :: u53 :: u54 :: u55 :: u56 :: u57 :: u58 :: u59 :: u60 :: u61 :: u62 :: u63 :: u64 :: u65 :: u66 :: u67 :: u68 :: u69 :: u70 :: u71 :: u72 :: u73 :: u74 :: u75 :: u76 :: u77 :: u78 :: u79 :: u80 :: u81 :: u82 :: u83 :: u84 :: u85 :: u86 :: u87 :: u88 :: u89 :: u90 :: u91 :: u92 :: u93 :: u94 :: u95 :: u96 :: u97 :: u98 :: u99 :: u100 :: u101 :: u102 :: u103 :: u104 :: u105 :: u106 :: u107 :: u108 :: u109 :: u110 :: u111 :: u112 :: u113 :: u114 :: u115 :: u116 :: u117 :: u118 :: u119 :: u120 :: u121 :: u122 :: u123 :: u124 :: u125 :: u126 :: u127 :: u128 :: u129 :: u130 :: u131 :: u132 :: u133 :: u134 :: u135 :: u136 :: u137 :: u138 :: u139 :: u140 :: u141 :: u142 :: u143 :: u144 :: u145 :: u146 :: u147 :: u148 :: u149 :: u150 :: u151 :: u152 :: u153 :: u154 :: u155 :: u156 :: u157 :: u158 :: u159 :: u160 :: u161 :: u162 :: u163 :: u164 :: u165 :: u166 :: u167 :: u168 :: u169 :: u170 :: u171 :: u172 :: u173 :: u174 :: u175 :: u176 :: u177 :: u178 :: u179 :: u180 :: u181 :: u182 :: u183 :: u184 :: u185 :: u186 :: u187 :: u188 :: u189 :: u190 :: u191 :: u192 :: u193 :: u194 :: u195 :: u196 :: u197 :: u198 :: u199 :: u200 :: u201 :: u202 :: u203 :: u204 :: u205 :: u206 :: u207 :: u208 :: u209 :: u210 :: u211 :: u212 :: u213 :: u214 :: u215 :: u216 :: u217 :: []), []⟩ wc := by
 conv => arg 2; whnf
 have hp100 : p ≤ 20 := by
  rcases HRT.out with h | h | h <;> omega
 have HA2 := Lib.hid ha2
 have HPK := Lib.hid hpk
 clear ha2 hpk
 go_upto_block 1 with fail
 go_cut [11] (fun y wx => y = .int .i64 k ∧ Rs w N l wx (8 * p) #[.bool vr, .int .i64 sz, .int .i64 rt, .int .i64 ch, .int .i64 0, .int .u64 nm])
 case first =>
  rcases HRT.out with ⟨h13, hrv, hv, hv2⟩ | ⟨h14, hrv, hv, hv2⟩ | ⟨h12, hrv, hv⟩
  ·have g12 : ((cr : Int) == 12) = false := by simp; omega
   have g13 : ((cr : Int) == 13) = true := by simp; omega
   have hb9 := HA.out.b9
   rw [← HA2.out, hrv] at hb9
   have HB9 := Lib.hid hb9
   have HRV := Lib.hid hrv
   clear h13
   clear hb9 hrv
   go_wp2_with fail
   refine (rs_word X15.out HBY.out HLL.out (by decide) HB9.out (rt : Int) (by rw [Nat.mod_eq_of_lt (show rv < 2 ^ 16 by omega)]; rw [hv])).mono ?_
   rintro e wa ⟨rfl, hst⟩
   have XA := Lib.hid hst
   clear hst
   have c2 : wa.cell? ⟨N + 1, 2, none⟩ = some (.int .i64 0) := by rw [cell_of_row wa (N + 1) 2 _ _ _ XA.out.hd]; rfl
   have f2 : wa.frozen? ⟨N + 1, 2, none⟩ = false := by simp [World.frozen?, XA.out.hd]
   go_wp2_with fail
   go_meet
   exact ⟨rfl, by have h := rs_set XA.out 2 (.int .i64 rt); rw [show a2 + 16 = 8 * p by have := HA2.out; have := HPK.out; have := HRV.out; omega] at h; exact h⟩
  ·have g12 : ((cr : Int) == 12) = false := by simp; omega
   have g13 : ((cr : Int) == 13) = false := by simp; omega
   have g14 : ((cr : Int) == 14) = true := by simp; omega
   have hb9 := HA.out.b9
   rw [← HA2.out, hrv] at hb9
   have HB9 := Lib.hid hb9
   have HRV := Lib.hid hrv
   have e10 : (10 : Int) * (rv : Int) = (rt : Int) := by omega
   clear h14 hv
   clear hb9 hrv
   go_wp2_with fail
   refine (rs_word X15.out HBY.out HLL.out (by decide) HB9.out (rv : Int) (by rw [Nat.mod_eq_of_lt (show rv < 2 ^ 16 by omega)])).mono ?_
   rintro e wa ⟨rfl, hst⟩
   have XA := Lib.hid hst
   clear hst
   have c2 : wa.cell? ⟨N + 1, 2, none⟩ = some (.int .i64 0) := by rw [cell_of_row wa (N + 1) 2 _ _ _ XA.out.hd]; rfl
   have f2 : wa.frozen? ⟨N + 1, 2, none⟩ = false := by simp [World.frozen?, XA.out.hd]
   go_wp2_with fail
   go_meet
   exact ⟨rfl, by have h := rs_set XA.out 2 (.int .i64 rt); rw [show a2 + 16 = 8 * p by have := HA2.out; have := HPK.out; have := HRV.out; omega] at h; exact h⟩
  ·have g12 : ((cr : Int) == 12) = false := by simp; omega
   have g13 : ((cr : Int) == 13) = false := by simp; omega
   have g14 : ((cr : Int) == 14) = false := by simp; omega
   have HRV := Lib.hid hrv
   clear hrv
   go_wp2_with fail
   refine (rates_call _).mono ?_
   rintro e w16 ⟨x7, rfl, hO, hB⟩
   obtain ⟨A7, c7, rfl, hR7⟩ := own_reads hO
   have hst := rs_below X15.out hB
   have c2 : w16.cell? ⟨N + 1, 2, none⟩ = some (.int .i64 0) := by rw [cell_of_row w16 (N + 1) 2 _ _ _ hst.hd]; rfl
   have f2 : w16.frozen? ⟨N + 1, 2, none⟩ = false := by simp [World.frozen?, hst.hd]
   obtain ⟨ad7, rfl, cell7⟩ := hR7.2.2 (by omega)
   have e7 : w16.cell? (ad7.add cr) = some (.int .i64 rt) := by
    rw [cell7 cr h12, ← hv]
    have key : ∀ i : Fin 12, (rateTab.map fun x : Nat => (x : Int)).getD i.val 0 = ((rateTab.getD i.val 0 : Nat) : Int) := by decide
    rw [key ⟨cr, h12⟩]
   have X16 := Lib.hid hst
   clear hst hO hB hR7 cell7 hv
   go_wp2_with fail
   go_meet
   exact ⟨rfl, by have h := rs_set X16.out 2 (.int .i64 rt); rw [show a2 = 8 * p by have := HA2.out; have := HPK.out; have := HRV.out; omega] at h; exact h⟩
 case rest =>
  obtain ⟨rfl, hst⟩ := hcut
  have X16 := Lib.hid hst
  clear hst X15
  have hbt : ([.int .i64 0, .int .i64 8, .int .i64 12, .int .i64 0, .int .i64 16, .int .i64 20, .int .i64 24] : List Value)[cb]'(by simp; omega) = .int .i64 bp := by
   have h := HBP.out
   rw [List.getElem?_eq_getElem (by simp; omega)] at h
   exact Option.some.inj h
  obtain ⟨a3, ha3⟩ : ∃ a3, 8 * p = a3 := ⟨_, rfl⟩
  have hst2 := rs_below X16.out ((Below.refl wc.heap.size wc).alloc (Nat.le_refl _) (.cells #[.int .i64 0, .int .i64 8, .int .i64 12, .int .i64 0, .int .i64 16, .int .i64 20, .int .i64 24] 3))
  rw [ha3] at hst2
  have c4 : (wc.alloc (.cells #[.int .i64 0, .int .i64 8, .int .i64 12, .int .i64 0, .int .i64 16, .int .i64 20, .int .i64 24] 3)).cell? ⟨N + 1, 4, none⟩ = some (.int .i64 0) := by rw [cell_of_row _ (N + 1) 4 _ _ _ hst2.hd]; rfl
  have f4 : (wc.alloc (.cells #[.int .i64 0, .int .i64 8, .int .i64 12, .int .i64 0, .int .i64 16, .int .i64 20, .int .i64 24] 3)).frozen? ⟨N + 1, 4, none⟩ = false := by simp only [World.frozen?, hst2.hd]; rfl
  have X16b := Lib.hid hst2
  have HA3 := Lib.hid ha3
  clear hst2 X16
  go_upto_region 37 with fail
  have hst := rs_set X16b.out 4 (.int .i64 bp)
  obtain ⟨w17, hw17⟩ : ∃ w17, (wc.alloc (.cells #[.int .i64 0, .int .i64 8, .int .i64 12, .int .i64 0, .int .i64 16, .int .i64 20, .int .i64 24] 3)).setCell ⟨N + 1, 4, none⟩ (.int .i64 bp) = w17 := ⟨_, rfl⟩
  rw [hw17] at hst ⊢
  have X17 := Lib.hid (show Rs w N l w17 a3 #[.bool vr, .int .i64 sz, .int .i64 rt, .int .i64 ch, .int .i64 bp, .int .u64 nm] from hst)
  clear hst hw17 hbt c4 f4 X16b
  have q1 := (rs_cells X17.out).1
  have q2 := (rs_cells X17.out).2.1
  have ep : (a3 : Int) / 8 = (p : Int) := by omega
  have ha3b : a3 ≤ 200 := by omega
  clear ha3
  have g1 : decide ((n : Int) ≤ (p : Int)) = false := by simp; omega
  go_upto_region 39 with fail
  clear q1 q2 g1
  go_cut [197] (fun y wx => wx = w17 ∧ y = .bool false)
  case first =>
   have c1 : w17.cell? ⟨N + 1, 1, none⟩ = some (.int .i64 sz) := by rw [cell_of_row w17 (N + 1) 1 _ _ _ X17.out.hd]; rfl
   have c2 : w17.cell? ⟨N + 1, 2, none⟩ = some (.int .i64 rt) := by rw [cell_of_row w17 (N + 1) 2 _ _ _ X17.out.hd]; rfl
   obtain ⟨z1, hz1⟩ : ∃ z1 : Bool, decide ((11 : Int) < (cr : Int)) = z1 := ⟨_, rfl⟩
   have hz2 : ((rt : Int) == 0) = false := by simp; omega
   have hz3 : decide ((65535 : Int) < (sz : Int)) = false := by simp; omega
   cases z1 <;> go_wp2_with fail
   all_goals
    go_meet
    exact ⟨rfl, rfl⟩
  case rest =>
   obtain ⟨rfl, rfl⟩ := hcut
   have q1 := (rs_cells X17.out).1
   have hlt : (l.take p).length = p := by rw [List.length_take, HNL.out]; omega
   have hbp : ∀ x ∈ l.take p, 0 ≤ x ∧ x ≤ 255 := fun x hx => HBX.out x (List.mem_of_mem_take hx)
   have hcrc : Calls Tryz.prog 53 #[.slice (some ad) p c] wc fun e w' => e = .returned (.int .i64 z) ∧ ∃ q, w' = wc.drewN q := by
    have hrd := reads_take (HL.out.below X17.out.rd.bel) (k := p) (by omega)
    have h := crc8_call (some ad) c (l.take p) wc (by rw [hlt]; exact hrd) (by omega) (by omega) hbp
    rw [hlt, HA.out.hz] at h; exact h
   have HCRC := Lib.hid hcrc
   have hpc : (p : Int) ≤ (c : Int) := by omega
   clear hcrc hbp hlt
   go_wp2_with fail
   refine HCRC.out.mono ?_
   rintro e w18 ⟨rfl, q6, rfl⟩
   have X18 := Lib.hid (rs_below X17.out (below_drewN (Below.refl _ _) q6))
   have hb10 := HA.out.b10
   rw [HA3.out] at hb10
   have HB10 := Lib.hid hb10
   have HZ8 := Lib.hid HA.out.hz8
   clear q1 X17 hb10
   go_wp2_with fail
   refine (rs_word X18.out HBY.out HLL.out (by decide) HB10.out (z : Int) (by rw [Nat.mod_eq_of_lt (show z < 2 ^ 8 from HZ8.out)])).mono ?_
   rintro e w19 ⟨rfl, hst⟩
   obtain ⟨a4, ha4⟩ : ∃ a4, a3 + 8 = a4 := ⟨_, rfl⟩
   rw [ha4] at hst
   have X19 := Lib.hid hst
   clear hst X18
   have g2 : ((z : Int) != (z : Int)) = false := by simp
   obtain ⟨p4, hp4⟩ : ∃ p4, p + 1 = p4 := ⟨_, rfl⟩
   have ep4 : (a4 : Int) / 8 = (p4 : Int) := by have := HA3.out; omega
   have hb4 : a4 ≤ 9000 := by omega
   have q1 := (rs_cells X19.out).1
   have HP4 := Lib.hid hp4
   clear hp4 ha4
   have c0 : w19.cell? ⟨N + 1, 0, none⟩ = some (.bool vr) := by rw [cell_of_row w19 (N + 1) 0 _ _ _ X19.out.hd]; rfl
   have r0 : w19.cell? ⟨N, 0, none⟩ = some (.bool false) := by rw [cell_of_row w19 N 0 _ _ _ X19.out.res]; rfl
   have s0 : w19.frozen? ⟨N, 0, none⟩ = false := by simp [World.frozen?, X19.out.res]
   have c1 : w19.cell? ⟨N + 1, 1, none⟩ = some (.int .i64 sz) := by rw [cell_of_row w19 (N + 1) 1 _ _ _ X19.out.hd]; rfl
   have r1 : w19.cell? ⟨N, 1, none⟩ = some (.int .i64 0) := by rw [cell_of_row w19 N 1 _ _ _ X19.out.res]; rfl
   have s1 : w19.frozen? ⟨N, 1, none⟩ = false := by simp [World.frozen?, X19.out.res]
   have c2 : w19.cell? ⟨N + 1, 2, none⟩ = some (.int .i64 rt) := by rw [cell_of_row w19 (N + 1) 2 _ _ _ X19.out.hd]; rfl
   have r2 : w19.cell? ⟨N, 2, none⟩ = some (.int .i64 0) := by rw [cell_of_row w19 N 2 _ _ _ X19.out.res]; rfl
   have s2 : w19.frozen? ⟨N, 2, none⟩ = false := by simp [World.frozen?, X19.out.res]
   have c3 : w19.cell? ⟨N + 1, 3, none⟩ = some (.int .i64 ch) := by rw [cell_of_row w19 (N + 1) 3 _ _ _ X19.out.hd]; rfl
   have r3 : w19.cell? ⟨N, 3, none⟩ = some (.int .i64 0) := by rw [cell_of_row w19 N 3 _ _ _ X19.out.res]; rfl
   have s3 : w19.frozen? ⟨N, 3, none⟩ = false := by simp [World.frozen?, X19.out.res]
   have c4 : w19.cell? ⟨N + 1, 4, none⟩ = some (.int .i64 bp) := by rw [cell_of_row w19 (N + 1) 4 _ _ _ X19.out.hd]; rfl
   have r4 : w19.cell? ⟨N, 4, none⟩ = some (.int .i64 0) := by rw [cell_of_row w19 N 4 _ _ _ X19.out.res]; rfl
   have s4 : w19.frozen? ⟨N, 4, none⟩ = false := by simp [World.frozen?, X19.out.res]
   have c5 : w19.cell? ⟨N + 1, 5, none⟩ = some (.int .u64 nm) := by rw [cell_of_row w19 (N + 1) 5 _ _ _ X19.out.hd]; rfl
   have r5 : w19.cell? ⟨N, 5, none⟩ = some (.int .u64 0) := by rw [cell_of_row w19 N 5 _ _ _ X19.out.res]; rfl
   have s5 : w19.frozen? ⟨N, 5, none⟩ = false := by simp [World.frozen?, X19.out.res]
   go_upto_region 44 with fail
   go_region
   go_wp2_with fail
   obtain ⟨wz, hwz, hbz, t0, t1, t2, t3, t4, t5⟩ := rs_ret X19.out
   rw [hwz]
   exact bodyPost_ret (v := .tuple #[.agg #[.bool vr, .int .i64 sz, .int .i64 rt, .int .i64 ch, .int .i64 bp, .int .u64 nm], .int .i64 p4, .int .i64 0]) (by simp [results, Tryz.results23, go_sem, t0, t1, t2, t3, t4, t5]) rfl ⟨by rw [X19.out.hN] at hbz; exact hbz.drew, by rw [← HP4.out]⟩
set_option maxHeartbeats 32000000 in
set_option maxRecDepth 100000 in
theorem read_good {ad : Addr} {n c : Nat} {hb rest l : List Int} {vr : Bool} {sz rt ch bp nm : Nat} {w : World} (hl : ReadsInt w .u8 (some ad) n l) (hc : n ≤ c) (hn : n ≤ 100000000000000) (hc2 : c ≤ 9223372036854775807) (hbytes : ∀ x ∈ l, 0 ≤ x ∧ x ≤ 255) (he : l = hb ++ up8 (f8 7) 0 hb :: rest) (hbits : bytesBits hb = hdrBits vr sz rt ch bp nm)
  (hsz0 : 0 < sz) (hsz : sz ≤ 256) (hrt : RtOk rt) (hch : ch ≤ 7) (hbp : BpOk bp) (hnm : nm < 2147483648) :
  Calls Tryz.prog 23 #[.slice (some ad) n c] w fun e w' => Below w.heap.size w w' ∧ e = .returned (.tuple #[.agg #[.bool vr, .int .i64 sz, .int .i64 rt, .int .i64 ch, .int .i64 bp, .int .u64 nm], .int .i64 (hb.length + 1 : Nat), .int .i64 0]) := by
 obtain ⟨z, hA⟩ := hdr_at he hbytes hbits (by omega)
 obtain ⟨sz1, sz2, sz3⟩ := sz_cases sz hsz0 hsz
 obtain ⟨rt1, rt2, rt0, rt3⟩ := rt_cases rt hrt
 obtain ⟨bp1, bp2, bp3⟩ := bp_cases bp hbp
 obtain ⟨p, hp⟩ : ∃ p, hb.length = p := ⟨_, rfl⟩
 obtain ⟨k, hk⟩ : ∃ k, more nm + 1 = k := ⟨_, rfl⟩
 obtain ⟨cs, hcs⟩ : ∃ cs, szCs sz = cs := ⟨_, rfl⟩
 obtain ⟨cr, hcr⟩ : ∃ cr, rtCr rt = cr := ⟨_, rfl⟩
 obtain ⟨cb, hcb⟩ : ∃ cb, bpCb bp = cb := ⟨_, rfl⟩
 obtain ⟨svn, hsvn⟩ : ∃ svn, szNb sz = svn := ⟨_, rfl⟩
 obtain ⟨rvn, hrvn⟩ : ∃ rvn, rtNb rt = rvn := ⟨_, rfl⟩
 obtain ⟨rv, hrv⟩ : ∃ rv, rtVal rt = rv := ⟨_, rfl⟩
 rw [hp, hk, hcs, hcr, hcb, hsvn, hrvn, hrv] at hA
 rw [hcs, hsvn] at sz3
 rw [hcs] at sz1 sz2
 rw [hcr] at rt1 rt2
 rw [hcr, hrvn, hrv] at rt3
 rw [hcb] at bp1 bp2 bp3
 rw [hp]
 have hk7 : 0 < k ∧ k ≤ 7 := by have := more_le nm; omega
 have hpk := hA.hp
 have hlp := hA.hl
 have hnl : l.length = n := hl.1
 have HNL := Lib.hid hnl
 rw [hnl] at hlp
 have HL := Lib.hid hl
 have HBY := Lib.hid (fun i => bytes_at hbytes i)
 have HBX := Lib.hid hbytes
 have HA := Lib.hid hA
 have HSZ := Lib.hid sz3
 have HRT := Lib.hid rt3
 have HBP := Lib.hid bp3
 have HK := Lib.hid hk
 have HLL := Lib.hid (show l.length ≤ 140737488355328 by omega)
 have hrtb : rt ≤ 655350 := by rcases hrt with h | h | h | h | h | h | h <;> omega
 clear hl hbytes hnl hA sz3 rt3 bp3 he hbits hrt hbp hp hk hcs hcr hcb hsvn hrvn hrv
 obtain ⟨N, hN⟩ : ∃ N, w.heap.size = N := ⟨_, rfl⟩
 rw [hN]
 go_enter Tryz.func23, Tryz.ntmps23
 go_wp2_with fail
 obtain ⟨w1, hw1⟩ : ∃ w1, ((w.alloc (.cells #[.bool false, .int .i64 0, .int .i64 0, .int .i64 0, .int .i64 0, .int .u64 0] 32)).alloc (.cells #[.bool false, .int .i64 0, .int .i64 0, .int .i64 0, .int .i64 0, .int .u64 0] 32)).alloc (.cells #[.slice (some ad) n c, .int .i64 0, .bool false] 156) = w1 := ⟨_, rfl⟩
 rw [show N + 1 + 1 = N + 2 from rfl, hw1]
 have hst : Rs w N l w1 0 #[.bool false, .int .i64 0, .int .i64 0, .int .i64 0, .int .i64 0, .int .u64 0] := by
  have hsa : (w.alloc (.cells #[.bool false, .int .i64 0, .int .i64 0, .int .i64 0, .int .i64 0, .int .u64 0] 32)).heap.size = N + 1 := by rw [World.size_alloc, hN]
  have hsb : ((w.alloc (.cells #[.bool false, .int .i64 0, .int .i64 0, .int .i64 0, .int .i64 0, .int .u64 0] 32)).alloc (.cells #[.bool false, .int .i64 0, .int .i64 0, .int .i64 0, .int .i64 0, .int .u64 0] 32)).heap.size = N + 2 := by rw [World.size_alloc, hsa]
  refine ⟨hN, ⟨⟨some ad, c, ?_, by omega, Kd.C_of_reads (h1 := fun _ => rfl) (readsInt_of.1 (by rw [HNL.out]; exact HL.out))⟩, ?_⟩, ?_, ?_⟩
  ·rw [← hw1, ← hsb, HNL.out]; exact heap_alloc_new _ _
  ·rw [← hw1]; exact ((((Below.refl _ _).alloc (by omega) _).alloc (by rw [hsa]; omega) _).alloc (by rw [hsb]; omega) _)
  ·rw [← hw1, Below.heap_alloc _ _ _ (by rw [hsb]; omega), ← hsa]; exact heap_alloc_new _ _
  ·rw [← hw1, Below.heap_alloc _ _ _ (by rw [hsb]; omega), Below.heap_alloc _ _ _ (by rw [hsa]; omega), ← hN]; exact heap_alloc_new _ _
 have X1 := Lib.hid hst
 clear hst hw1 hN
 refine (rs_word X1.out HBY.out HLL.out (by decide) HA.out.b0 (32764) (by decide)).mono ?_
 rintro e w2 ⟨rfl, hst⟩
 have X2 := Lib.hid (show Rs w N l w2 15 #[.bool false, .int .i64 0, .int .i64 0, .int .i64 0, .int .i64 0, .int .u64 0] from hst)
 clear hst X1
 have q2 := (rs_cells X2.out).2.1
 go_wp2_with fail
 refine (rs_word X2.out HBY.out HLL.out (by decide) HA.out.b1 ((vr.toNat : Int)) (by cases vr <;> rfl)).mono ?_
 rintro e w3 ⟨rfl, hst⟩
 have X3 := Lib.hid (show Rs w N l w3 16 #[.bool false, .int .i64 0, .int .i64 0, .int .i64 0, .int .i64 0, .int .u64 0] from hst)
 clear hst X2
 have c0 : w3.cell? ⟨N + 1, 0, none⟩ = some (.bool false) := by rw [cell_of_row w3 (N + 1) 0 _ _ _ X3.out.hd]; rfl
 have f0 : w3.frozen? ⟨N + 1, 0, none⟩ = false := by simp [World.frozen?, X3.out.hd]
 have e1 : ((vr.toNat : Int) == 1) = vr := by cases vr <;> rfl
 go_wp2_with fail
 refine (rs_word (rs_set X3.out 0 (.bool vr)) HBY.out HLL.out (by decide) HA.out.b2 ((cs : Int)) (by rw [Nat.mod_eq_of_lt (show cs < 2 ^ 4 by omega)])).mono ?_
 rintro e w4 ⟨rfl, hst⟩
 have X4 := Lib.hid (show Rs w N l w4 20 #[.bool vr, .int .i64 0, .int .i64 0, .int .i64 0, .int .i64 0, .int .u64 0] from hst)
 clear hst X3
 clear c0 f0 e1
 go_wp2_with fail
 refine (rs_word X4.out HBY.out HLL.out (by decide) HA.out.b3 ((cr : Int)) (by rw [Nat.mod_eq_of_lt (show cr < 2 ^ 4 by omega)])).mono ?_
 rintro e w5 ⟨rfl, hst⟩
 have X5 := Lib.hid (show Rs w N l w5 24 #[.bool vr, .int .i64 0, .int .i64 0, .int .i64 0, .int .i64 0, .int .u64 0] from hst)
 clear hst X4
 go_wp2_with fail
 refine (rs_word X5.out HBY.out HLL.out (by decide) HA.out.b4 ((ch : Int)) (by rw [Nat.mod_eq_of_lt (show ch < 2 ^ 4 by omega)])).mono ?_
 rintro e w6 ⟨rfl, hst⟩
 have X6 := Lib.hid (show Rs w N l w6 28 #[.bool vr, .int .i64 0, .int .i64 0, .int .i64 0, .int .i64 0, .int .u64 0] from hst)
 clear hst X5
 have c3 : w6.cell? ⟨N + 1, 3, none⟩ = some (.int .i64 0) := by rw [cell_of_row w6 (N + 1) 3 _ _ _ X6.out.hd]; rfl
 have f3 : w6.frozen? ⟨N + 1, 3, none⟩ = false := by simp [World.frozen?, X6.out.hd]
 go_wp2_with fail
 refine (rs_word (rs_set X6.out 3 (.int .i64 ch)) HBY.out HLL.out (by decide) HA.out.b5 ((cb : Int)) (by rw [Nat.mod_eq_of_lt (show cb < 2 ^ 3 by omega)])).mono ?_
 rintro e w7 ⟨rfl, hst⟩
 have X7 := Lib.hid (show Rs w N l w7 31 #[.bool vr, .int .i64 0, .int .i64 0, .int .i64 ch, .int .i64 0, .int .u64 0] from hst)
 clear hst X6
 clear c3 f3
 go_wp2_with fail
 refine (rs_word X7.out HBY.out HLL.out (by decide) HA.out.b6 (0) (by decide)).mono ?_
 rintro e w8 ⟨rfl, hst⟩
 have X8 := Lib.hid (show Rs w N l w8 32 #[.bool vr, .int .i64 0, .int .i64 0, .int .i64 ch, .int .i64 0, .int .u64 0] from hst)
 clear hst X7
 have q8 := (rs_cells X8.out).2.1
 have c3 : w8.cell? ⟨N + 1, 3, none⟩ = some (.int .i64 ch) := by rw [cell_of_row w8 (N + 1) 3 _ _ _ X8.out.hd]; rfl
 have f3 : w8.frozen? ⟨N + 1, 3, none⟩ = false := by simp [World.frozen?, X8.out.hd]
 have c5 : w8.cell? ⟨N + 1, 5, none⟩ = some (.int .u64 0) := by rw [cell_of_row w8 (N + 1) 5 _ _ _ X8.out.hd]; rfl
 have f5 : w8.frozen? ⟨N + 1, 5, none⟩ = false := by simp [World.frozen?, X8.out.hd]
 have g0 : ((cs : Int) == 0) = false := by simp; omega
 have g1 : ((cr : Int) == 15) = false := by simp; omega
 have g2 : decide ((10 : Int) < (ch : Int)) = false := by simp; omega
 have g3 : ((cb : Int) == 3) = false := by simp; omega
 have g4 : ((cb : Int) == 7) = false := by simp; omega
 go_wp2_with fail
 clear g0 g1 g2 g3 g4 q8 q2 c3 f3
 obtain ⟨ts, hts, htb⟩ := HA.out.b7
 have hnc := number_call (some (ad.add 4)) (c - 4) (n - 4) nm (l.drop 4) ts w8 (reads_drop (HL.out.below X8.out.rd.bel) 4 (by omega)) (by omega) hts (by omega) htb
 rw [HK.out] at hnc
 have HTS := Lib.hid hts
 clear hts htb
 refine hnc.mono ?_
 rintro e w9 ⟨rfl, q, rfl⟩
 clear hnc
 go_upto_region 16 with fail
 have hst := rs_set (rs_below X8.out (below_drewN (Below.refl _ _) q)) 5 (.int .u64 nm)
 obtain ⟨w10, hw10⟩ : ∃ w10, (w8.drewN q).setCell ⟨N + 1, 5, none⟩ (.int .u64 nm) = w10 := ⟨_, rfl⟩
 rw [hw10] at hst ⊢
 have X10 := Lib.hid (show Rs w N l w10 32 #[.bool vr, .int .i64 0, .int .i64 0, .int .i64 ch, .int .i64 0, .int .u64 nm] from hst)
 have hk0b : ((k : Int) == 0) = false := by simp; omega
 have hkl2 : k ≤ n - 4 := by omega
 clear hst hw10 X8 c5 f5
 go_upto_region 20 with fail
 have htk : (l.drop 4).take k = coded nm := by
  rw [HTS.out, ← HK.out, ← coded_len nm, List.take_left]
 obtain ⟨s1, hs1⟩ : ∃ s, strOfNums (coded nm) = s := ⟨_, rfl⟩
 obtain ⟨kk, hkk⟩ : ∃ kk, 4 + k = kk := ⟨_, rfl⟩
 have hcv : ∀ wx, Below w.heap.size w wx → (convert 23 9 (.slice (some ⟨ad.block, ad.off + 4, none⟩) k (c - 4))).run Tryz.prog wx = .ok (.string s1) wx := fun wx hb => by
  have h := string_of_reads (P := Tryz.prog) (src := 23) (dst := 9) (e := 5) (c := c - 4) Tryz.underlying23 Tryz.underlying5 Tryz.underlying9 (reads_take (reads_drop (HL.out.below hb) 4 (by omega)) hkl2)
  rw [htk, hs1] at h; exact h
 have ewr : IntKind.i64.wrap ((4 : Int) + (k : Int)) = (kk : Int) := by rw [IntKind.wrap_i64]; omega
 have ekk : kk - 4 = k := by omega
 have hkc : kk ≤ c := by omega
 have hk4 : 4 ≤ kk := by omega
 have hi1 : (4 : Int) ≤ (kk : Int) := by omega
 have hi2 : (kk : Int) ≤ (c : Int) := by omega
 have hi3 : (0 : Int) ≤ (kk : Int) := by omega
 have hi4 : ((4 : Int)).toNat = 4 := rfl
 have hc4 : (c = 4) = False := by simp; omega
 have hcvA := hcv w10.drew X10.out.rd.bel.drew
 have HCV := Lib.hid hcv
 have HS1 := Lib.hid hs1
 have HKK := Lib.hid hkk
 clear hcv hs1 hkk htk
 have d0 : w10.cell? ⟨N + 1, 0, none⟩ = some (.bool vr) := by rw [cell_of_row w10 (N + 1) 0 _ _ _ X10.out.hd]; rfl
 have d5 : w10.cell? ⟨N + 1, 5, none⟩ = some (.int .u64 nm) := by rw [cell_of_row w10 (N + 1) 5 _ _ _ X10.out.hd]; rfl
 have hcodd : Calls Tryz.prog 50 #[.int .u64 nm] w10.drew fun e w' => ∃ x, e = .returned x ∧ (w'.cell? ⟨N + 1, 0, none⟩ = some (.bool vr) ∧ w'.cell? ⟨N + 1, 5, none⟩ = some (.int .u64 nm) ∧ (convert 23 9 (.slice (some ⟨ad.block, ad.off + 4, none⟩) k (c - 4))).run Tryz.prog w' = .ok (.string s1) w') ∧
   (convert 23 9 x).run Tryz.prog w' = .ok (.string s1) w' ∧ Rs w N l w' 32 #[.bool vr, .int .i64 0, .int .i64 0, .int .i64 ch, .int .i64 0, .int .u64 nm] :=
  (coded_call nm w10.drew (by omega)).mono fun e w' ⟨x, he, ho, hb⟩ => by
   have k1 := own_string (P := Tryz.prog) (src := 23) (dst := 9) (e := 5) Tryz.underlying23 Tryz.underlying5 Tryz.underlying9 ho
   rw [HS1.out] at k1
   exact ⟨x, he, ⟨pw_cell_below hb d0, pw_cell_below hb d5, HCV.out w' (below_then X10.out.rd.bel.drew X10.out.rd.bel.drew.size hb)⟩, k1, rs_below (rs_below X10.out ((Below.refl _ _).drew)) hb⟩
 have HCD := Lib.hid hcodd
 clear hcodd
 go_cut [114] (fun y wx => y = .bool false ∧ Rs w N l wx 32 #[.bool vr, .int .i64 0, .int .i64 0, .int .i64 ch, .int .i64 0, .int .u64 nm])
 case first =>
  have heq : (s1.toList == s1.toList) = true := by simp
  have hbv : decide ((2147483648 : Int) ≤ (nm : Int)) = false := by simp; omega
  refine wp_region_held_drew (S := fun w' => w'.cell? ⟨N + 1, 0, none⟩ = some (.bool vr) ∧ w'.cell? ⟨N + 1, 5, none⟩ = some (.int .u64 nm) ∧ (convert 23 9 (.slice (some ⟨ad.block, ad.off + 4, none⟩) k (c - 4))).run Tryz.prog w' = .ok (.string s1) w') (by kernel_rfl) ⟨by simpa using d0, by simpa using d5, hcvA⟩ (fun HS => ?_)
  refine wpAnyH_take (i := 0) (oi := ⟨some 95, .fieldAddr 32 (.tmp 5) 5, 0, "frame.go:78", #[], none⟩) (v := ?v1) rfl (by kernel_rfl) (by kernel_rfl) (by kernel_rfl) (fun _ _ _ h => h) (Or.inl ⟨by rfl, ?y1⟩) HS ?r1
  case y1 =>
   intro w' hSw
   (try dsimp only at hSw)
   obtain ⟨k4, k5, k6⟩ := hSw
   go_simp
   all_goals (with_reducible rfl)
  (try simp only [Act.put, List.setIfInBounds_toArray, List.set_cons_zero, List.set_cons_succ])
  refine wpAnyH_take (i := 1) (oi := ⟨some 96, .load 24 (.tmp 95), 24, "frame.go:78", #[⟨0, .data⟩], none⟩) (v := ?v2) rfl (by kernel_rfl) (by kernel_rfl) (by kernel_rfl) (fun _ _ _ h => h) (Or.inl ⟨by rfl, ?y2⟩) HS ?r2
  case y2 =>
   intro w' hSw
   (try dsimp only at hSw)
   obtain ⟨k4, k5, k6⟩ := hSw
   go_simp
   all_goals (with_reducible rfl)
  (try simp only [Act.put, List.setIfInBounds_toArray, List.set_cons_zero, List.set_cons_succ])
  refine wpAnyH_take (i := 4) (oi := ⟨some 99, .move (.tmp 0), 23, "frame.go:78", #[], none⟩) (v := ?v3) rfl (by kernel_rfl) (by kernel_rfl) (by kernel_rfl) (fun _ _ _ h => h) (Or.inl ⟨by rfl, ?y3⟩) HS ?r3
  case y3 =>
   intro w' hSw
   (try dsimp only at hSw)
   obtain ⟨k4, k5, k6⟩ := hSw
   go_simp
   all_goals (with_reducible rfl)
  (try simp only [Act.put, List.setIfInBounds_toArray, List.set_cons_zero, List.set_cons_succ])
  refine wpAnyH_take (i := 5) (oi := ⟨some 100, .move (.tmp 11), 3, "frame.go:78", #[], none⟩) (v := ?v4) rfl (by kernel_rfl) (by kernel_rfl) (by kernel_rfl) (fun _ _ _ h => h) (Or.inl ⟨by rfl, ?y4⟩) HS ?r4
  case y4 =>
   intro w' hSw
   (try dsimp only at hSw)
   obtain ⟨k4, k5, k6⟩ := hSw
   go_simp
   all_goals (with_reducible rfl)
  (try simp only [Act.put, List.setIfInBounds_toArray, List.set_cons_zero, List.set_cons_succ])
  refine wpAnyH_take (i := 6) (oi := ⟨some 101, .binOp .add 3 (.const (.int .i64 4)) (.tmp 100) 3, 3, "frame.go:78", #[⟨5, .data⟩], none⟩) (v := ?v5) rfl (by kernel_rfl) (by kernel_rfl) (by kernel_rfl) (fun _ _ _ h => h) (Or.inl ⟨by rfl, ?y5⟩) HS ?r5
  case y5 =>
   intro w' hSw
   (try dsimp only at hSw)
   obtain ⟨k4, k5, k6⟩ := hSw
   go_simp
   all_goals (with_reducible rfl)
  (try simp only [Act.put, List.setIfInBounds_toArray, List.set_cons_zero, List.set_cons_succ])
  refine wpAnyH_take (i := 7) (oi := ⟨some 102, .slice 23 (.tmp 99) (some (.const (.int .i64 4))) (some (.tmp 101)) none, 23, "frame.go:78", #[⟨4, .data⟩, ⟨6, .data⟩], none⟩) (v := ?v6) rfl (by kernel_rfl) (by kernel_rfl) (by kernel_rfl) (fun _ _ _ h => h) (Or.inl ⟨by rfl, ?y6⟩) HS ?r6
  case y6 =>
   intro w' hSw
   (try dsimp only at hSw)
   obtain ⟨k4, k5, k6⟩ := hSw
   go_simp
   all_goals (with_reducible rfl)
  (try simp only [Act.put, List.setIfInBounds_toArray, List.set_cons_zero, List.set_cons_succ])
  refine wpAnyH_take (i := 8) (oi := ⟨some 103, .convert 23 9 (.tmp 102), 9, "frame.go:78", #[⟨7, .data⟩], none⟩) (v := ?v7) rfl (by kernel_rfl) (by kernel_rfl) (by kernel_rfl) (fun _ _ _ h => h) (Or.inl ⟨by rfl, ?y7⟩) HS ?r7
  case y7 =>
   intro w' hSw
   (try dsimp only at hSw)
   obtain ⟨k4, k5, k6⟩ := hSw
   go_simp
   all_goals (with_reducible rfl)
  (try simp only [Act.put, List.setIfInBounds_toArray, List.set_cons_zero, List.set_cons_succ])
  refine wpAnyH_ready (rs := [2]) (by kernel_rfl) (by simp) ?_
  refine AllReadyH.cons (o := ⟨some 97, .call ⟨.value (.func 50), #[.tmp 96], #[24]⟩, 23, "frame.go:78", #[⟨1, .data⟩], none⟩) rfl (fun K hK => ?_) AllReadyH.nil
  go_simp
  refine HCD.out.mono ?_
  rintro e w3 ⟨x8, rfl, k0, k1, k3⟩
  go_wp2_with fail
  refine hK.out _ _ k0 (fun HS3 => ?_)
  clear hK K
  (try simp only [Act.put, List.setIfInBounds_toArray, List.set_cons_zero, List.set_cons_succ])
  refine wpAnyH_ready (rs := [3]) (by kernel_rfl) (by simp) ?_
  refine AllReadyH.cons (o := ⟨some 98, .convert 23 9 (.tmp 97), 9, "frame.go:78", #[⟨2, .data⟩], none⟩) rfl (fun K hK => ?_) AllReadyH.nil
  go_simp
  refine hK.out _ _ HS3 (fun _ => ?_)
  clear hK K HS
  (try simp only [Act.put, List.setIfInBounds_toArray, List.set_cons_zero, List.set_cons_succ])
  have HS := HS3
  refine wpAnyH_take (i := 9) (oi := ⟨some 104, .binOp .neq 9 (.tmp 98) (.tmp 103) 9, 4, "frame.go:78", #[⟨3, .data⟩, ⟨8, .data⟩], none⟩) (v := ?v8) rfl (by kernel_rfl) (by kernel_rfl) (by kernel_rfl) (fun _ _ _ h => h) (Or.inl ⟨by rfl, ?y8⟩) HS ?r8
  case y8 =>
   intro w' hSw
   (try dsimp only at hSw)
   obtain ⟨k4, k5, k6⟩ := hSw
   go_simp
   all_goals (with_reducible rfl)
  (try simp only [Act.put, List.setIfInBounds_toArray, List.set_cons_zero, List.set_cons_succ])
  refine wpAnyH_take (i := 10) (oi := ⟨some 105, .move (.tmp 104), 4, "frame.go:78", #[⟨9, .data⟩, ⟨2, .chain⟩], none⟩) (v := ?v9) rfl (by kernel_rfl) (by kernel_rfl) (by kernel_rfl) (fun _ _ _ h => h) (Or.inl ⟨by rfl, ?y9⟩) HS ?r9
  case y9 =>
   intro w' hSw
   (try dsimp only at hSw)
   obtain ⟨k4, k5, k6⟩ := hSw
   go_simp
   all_goals (with_reducible rfl)
  (try simp only [Act.put, List.setIfInBounds_toArray, List.set_cons_zero, List.set_cons_succ])
  refine wpAnyH_take (i := 11) (oi := ⟨some 106, .fieldAddr 32 (.tmp 5) 0, 0, "frame.go:78", #[⟨10, .guard⟩], some (10, false)⟩) (v := ?v10) rfl (by kernel_rfl) (by kernel_rfl) (by kernel_rfl) (fun _ _ _ h => h) (Or.inl ⟨by rfl, ?y10⟩) HS ?r10
  case y10 =>
   intro w' hSw
   (try dsimp only at hSw)
   obtain ⟨k4, k5, k6⟩ := hSw
   go_simp
   all_goals (with_reducible rfl)
  (try simp only [Act.put, List.setIfInBounds_toArray, List.set_cons_zero, List.set_cons_succ])
  refine wpAnyH_take (i := 12) (oi := ⟨some 107, .load 4 (.tmp 106), 4, "frame.go:78", #[⟨11, .data⟩, ⟨10, .guard⟩], some (10, false)⟩) (v := ?v11) rfl (by kernel_rfl) (by kernel_rfl) (by kernel_rfl) (fun _ _ _ h => h) (Or.inl ⟨by rfl, ?y11⟩) HS ?r11
  case y11 =>
   intro w' hSw
   (try dsimp only at hSw)
   obtain ⟨k4, k5, k6⟩ := hSw
   go_simp
   all_goals (with_reducible rfl)
  (try simp only [Act.put, List.setIfInBounds_toArray, List.set_cons_zero, List.set_cons_succ])
  refine wpAnyH_take (i := 13) (oi := ⟨some 108, .unOp .not 4 (.tmp 107), 4, "frame.go:78", #[⟨12, .data⟩, ⟨10, .guard⟩], some (10, false)⟩) (v := ?v12) rfl (by kernel_rfl) (by kernel_rfl) (by kernel_rfl) (fun _ _ _ h => h) (Or.inl ⟨by rfl, ?y12⟩) HS ?r12
  case y12 =>
   intro w' hSw
   (try dsimp only at hSw)
   obtain ⟨k4, k5, k6⟩ := hSw
   go_simp
   all_goals (with_reducible rfl)
  (try simp only [Act.put, List.setIfInBounds_toArray, List.set_cons_zero, List.set_cons_succ])
  cases vr
  case true =>
   refine wpAnyH_take (i := 14) (oi := ⟨some 109, .move (.tmp 108), 4, "frame.go:78", #[⟨13, .data⟩, ⟨10, .chain⟩, ⟨10, .guard⟩], some (10, false)⟩) (v := ?v13) rfl (by kernel_rfl) (by kernel_rfl) (by kernel_rfl) (fun _ _ _ h => h) (Or.inl ⟨by rfl, ?y13⟩) HS ?r13
   case y13 =>
    intro w' hSw
    (try dsimp only at hSw)
    obtain ⟨k4, k5, k6⟩ := hSw
    go_simp
    all_goals (with_reducible rfl)
   (try simp only [Act.put, List.setIfInBounds_toArray, List.set_cons_zero, List.set_cons_succ])
   refine wpAnyH_take (i := 15) (oi := ⟨some 110, .fieldAddr 32 (.tmp 5) 5, 0, "frame.go:78", #[⟨14, .guard⟩], some (14, true)⟩) (v := undef) rfl (by kernel_rfl) (by kernel_rfl) (by kernel_rfl) (fun _ _ _ h => h) (Or.inr ⟨by rfl, rfl⟩) HS ?_
   simp only [Act.put, List.setIfInBounds_toArray, List.set_cons_zero, List.set_cons_succ]
   refine wpAnyH_take (i := 16) (oi := ⟨some 111, .load 24 (.tmp 110), 24, "frame.go:78", #[⟨15, .data⟩, ⟨14, .guard⟩], some (14, true)⟩) (v := undef) rfl (by kernel_rfl) (by kernel_rfl) (by kernel_rfl) (fun _ _ _ h => h) (Or.inr ⟨by rfl, rfl⟩) HS ?_
   simp only [Act.put, List.setIfInBounds_toArray, List.set_cons_zero, List.set_cons_succ]
   refine wpAnyH_take (i := 17) (oi := ⟨some 112, .binOp .geq 24 (.tmp 111) (.const (.int .u64 2147483648)) 24, 4, "frame.go:78", #[⟨16, .data⟩, ⟨14, .guard⟩], some (14, true)⟩) (v := undef) rfl (by kernel_rfl) (by kernel_rfl) (by kernel_rfl) (fun _ _ _ h => h) (Or.inr ⟨by rfl, rfl⟩) HS ?_
   simp only [Act.put, List.setIfInBounds_toArray, List.set_cons_zero, List.set_cons_succ]
   refine wpAnyH_take (i := 18) (oi := ⟨some 113, .pick (.tmp 109) (.tmp 112) (.const (.bool false)), 4, "frame.go:78", #[⟨14, .data⟩, ⟨17, .data⟩, ⟨10, .guard⟩], some (10, false)⟩) (v := ?v14) rfl (by kernel_rfl) (by kernel_rfl) (by kernel_rfl) (fun _ _ _ h => h) (Or.inl ⟨by rfl, ?y14⟩) HS ?r14
   case y14 =>
    intro w' hSw
    (try dsimp only at hSw)
    obtain ⟨k4, k5, k6⟩ := hSw
    go_simp
    all_goals (with_reducible rfl)
   (try simp only [Act.put, List.setIfInBounds_toArray, List.set_cons_zero, List.set_cons_succ])
   refine wpAnyH_take (i := 19) (oi := ⟨some 114, .pick (.tmp 105) (.const (.bool true)) (.tmp 113), 4, "frame.go:78", #[⟨10, .data⟩, ⟨18, .data⟩], none⟩) (v := ?v15) rfl (by kernel_rfl) (by kernel_rfl) (by kernel_rfl) (fun _ _ _ h => h) (Or.inl ⟨by rfl, ?y15⟩) HS ?r15
   case y15 =>
    intro w' hSw
    (try dsimp only at hSw)
    obtain ⟨k4, k5, k6⟩ := hSw
    go_simp
    all_goals (with_reducible rfl)
   (try simp only [Act.put, List.setIfInBounds_toArray, List.set_cons_zero, List.set_cons_succ])
   refine wpAnyH_done (by kernel_rfl) ?_ _
   go_wp2_with fail
   go_meet
   exact ⟨rfl, k3⟩
  case false =>
   refine wpAnyH_take (i := 14) (oi := ⟨some 109, .move (.tmp 108), 4, "frame.go:78", #[⟨13, .data⟩, ⟨10, .chain⟩, ⟨10, .guard⟩], some (10, false)⟩) (v := ?v16) rfl (by kernel_rfl) (by kernel_rfl) (by kernel_rfl) (fun _ _ _ h => h) (Or.inl ⟨by rfl, ?y16⟩) HS ?r16
   case y16 =>
    intro w' hSw
    (try dsimp only at hSw)
    obtain ⟨k4, k5, k6⟩ := hSw
    go_simp
    all_goals (with_reducible rfl)
   (try simp only [Act.put, List.setIfInBounds_toArray, List.set_cons_zero, List.set_cons_succ])
   refine wpAnyH_take (i := 15) (oi := ⟨some 110, .fieldAddr 32 (.tmp 5) 5, 0, "frame.go:78", #[⟨14, .guard⟩], some (14, true)⟩) (v := ?v17) rfl (by kernel_rfl) (by kernel_rfl) (by kernel_rfl) (fun _ _ _ h => h) (Or.inl ⟨by rfl, ?y17⟩) HS ?r17
   case y17 =>
    intro w' hSw
    (try dsimp only at hSw)
    obtain ⟨k4, k5, k6⟩ := hSw
    go_simp
    all_goals (with_reducible rfl)
   (try simp only [Act.put, List.setIfInBounds_toArray, List.set_cons_zero, List.set_cons_succ])
   refine wpAnyH_take (i := 16) (oi := ⟨some 111, .load 24 (.tmp 110), 24, "frame.go:78", #[⟨15, .data⟩, ⟨14, .guard⟩], some (14, true)⟩) (v := ?v18) rfl (by kernel_rfl) (by kernel_rfl) (by kernel_rfl) (fun _ _ _ h => h) (Or.inl ⟨by rfl, ?y18⟩) HS ?r18
   case y18 =>
    intro w' hSw
    (try dsimp only at hSw)
    obtain ⟨k4, k5, k6⟩ := hSw
    go_simp
    all_goals (with_reducible rfl)
   (try simp only [Act.put, List.setIfInBounds_toArray, List.set_cons_zero, List.set_cons_succ])
   refine wpAnyH_take (i := 17) (oi := ⟨some 112, .binOp .geq 24 (.tmp 111) (.const (.int .u64 2147483648)) 24, 4, "frame.go:78", #[⟨16, .data⟩, ⟨14, .guard⟩], some (14, true)⟩) (v := ?v19) rfl (by kernel_rfl) (by kernel_rfl) (by kernel_rfl) (fun _ _ _ h => h) (Or.inl ⟨by rfl, ?y19⟩) HS ?r19
   case y19 =>
    intro w' hSw
    (try dsimp only at hSw)
    obtain ⟨k4, k5, k6⟩ := hSw
    go_simp
    all_goals (with_reducible rfl)
   (try simp only [Act.put, List.setIfInBounds_toArray, List.set_cons_zero, List.set_cons_succ])
   refine wpAnyH_take (i := 18) (oi := ⟨some 113, .pick (.tmp 109) (.tmp 112) (.const (.bool false)), 4, "frame.go:78", #[⟨14, .data⟩, ⟨17, .data⟩, ⟨10, .guard⟩], some (10, false)⟩) (v := ?v20) rfl (by kernel_rfl) (by kernel_rfl) (by kernel_rfl) (fun _ _ _ h => h) (Or.inl ⟨by rfl, ?y20⟩) HS ?r20
   case y20 =>
    intro w' hSw
    (try dsimp only at hSw)
    obtain ⟨k4, k5, k6⟩ := hSw
    go_simp
    all_goals (with_reducible rfl)
   (try simp only [Act.put, List.setIfInBounds_toArray, List.set_cons_zero, List.set_cons_succ])
   refine wpAnyH_take (i := 19) (oi := ⟨some 114, .pick (.tmp 105) (.const (.bool true)) (.tmp 113), 4, "frame.go:78", #[⟨10, .data⟩, ⟨18, .data⟩], none⟩) (v := ?v21) rfl (by kernel_rfl) (by kernel_rfl) (by kernel_rfl) (fun _ _ _ h => h) (Or.inl ⟨by rfl, ?y21⟩) HS ?r21
   case y21 =>
    intro w' hSw
    (try dsimp only at hSw)
    obtain ⟨k4, k5, k6⟩ := hSw
    go_simp
    all_goals (with_reducible rfl)
   (try simp only [Act.put, List.setIfInBounds_toArray, List.set_cons_zero, List.set_cons_succ])
   refine wpAnyH_done (by kernel_rfl) ?_ _
   go_wp2_with fail
   go_meet
   exact ⟨rfl, k3⟩
 case rest =>
  obtain ⟨rfl, hst⟩ := hcut
  have X11 := Lib.hid hst
  clear hst d0 d5 HCD HCV hcvA X10
  have q1 := (rs_cells X11.out).1
  have q3 := (rs_cells X11.out).2.2
  have hk71 := hk7.2
  obtain ⟨k8, hk8⟩ : ∃ k8, 8 * k = k8 := ⟨_, rfl⟩
  have ek8 : (8 : Int) * (k : Int) = (k8 : Int) := by omega
  obtain ⟨a1, ha1⟩ : ∃ a1, 32 + k8 = a1 := ⟨_, rfl⟩
  have ea1 : (32 : Int) + (k8 : Int) = (a1 : Int) := by omega
  have HA1 := Lib.hid (show a1 = 32 + 8 * k by omega)
  have ha1b : a1 ≤ 100 := by omega
  go_upto_region 23 with fail
  obtain ⟨w12, hw12⟩ : ∃ w12, wc.setCell ⟨N + 2, 1, none⟩ (.int .i64 a1) = w12 := ⟨_, rfl⟩
  have hst := rs_at X11.out a1
  rw [hw12] at hst ⊢
  have X12 := Lib.hid hst
  clear hst hw12 q1 q3 X11 hk8 ek8 ha1 ea1
  go_wp2_with fail
  refine (sizeOf_call cs sz2 _).mono ?_
  rintro e w13 ⟨rfl, q5, rfl⟩
  have c1 : w12.cell? ⟨N + 1, 1, none⟩ = some (.int .i64 0) := by rw [cell_of_row w12 (N + 1) 1 _ _ _ X12.out.hd]; rfl
  have f1 : w12.frozen? ⟨N + 1, 1, none⟩ = false := by simp [World.frozen?, X12.out.hd]
  go_upto_block 0 with fail
  have hst := rs_set (rs_below X12.out (below_drewN (Below.refl _ _) q5)) 1 (.int .i64 (szOf cs : Nat))
  obtain ⟨w14, hw14⟩ : ∃ w14, (w12.drewN q5).setCell ⟨N + 1, 1, none⟩ (.int .i64 (szOf cs : Nat)) = w14 := ⟨_, rfl⟩
  rw [hw14] at hst ⊢
  have X14 := Lib.hid (show Rs w N l w14 a1 #[.bool vr, .int .i64 (szOf cs : Nat), .int .i64 0, .int .i64 ch, .int .i64 0, .int .u64 nm] from hst)
  clear hst hw14 c1 f1 X12
  obtain ⟨a2, ha2⟩ : ∃ a2, a1 + svn = a2 := ⟨_, rfl⟩
  have HA2 := Lib.hid ha2
  clear ha2
  go_cut [11] (fun y wx => y = .int .i64 k ∧ Rs w N l wx a2 #[.bool vr, .int .i64 sz, .int .i64 0, .int .i64 ch, .int .i64 0, .int .u64 nm])
  case first =>
   by_cases h6 : cs = 6
   case pos =>
    have b6 : ((cs : Int) == 6) = true := by rw [h6]; rfl
    have hsv : svn = 8 := by rcases HSZ.out with h | h <;> omega
    have HSV := Lib.hid hsv
    have hb8 := HA.out.b8
    rw [← HA1.out, hsv] at hb8
    have HB8 := Lib.hid hb8
    clear h6 hsv hb8
    go_wp2_with fail
    refine (rs_word X14.out HBY.out HLL.out (by decide) HB8.out ((sz - 1 : Nat) : Int) (by rw [Nat.mod_eq_of_lt (show sz - 1 < 2 ^ 8 by omega)])).mono ?_
    rintro e wa ⟨rfl, hst⟩
    have XA := Lib.hid hst
    clear hst
    have c1 : wa.cell? ⟨N + 1, 1, none⟩ = some (.int .i64 (szOf cs : Nat)) := by rw [cell_of_row wa (N + 1) 1 _ _ _ XA.out.hd]; rfl
    have f1 : wa.frozen? ⟨N + 1, 1, none⟩ = false := by simp [World.frozen?, XA.out.hd]
    have es : ((sz - 1 : Nat) : Int) + 1 = (sz : Int) := by omega
    go_wp2_with fail
    go_meet
    exact ⟨rfl, by have h := rs_set XA.out 1 (.int .i64 sz); rw [← HSV.out, HA2.out] at h; exact h⟩
   case neg =>
    have b6 : ((cs : Int) == 6) = false := by simp; omega
    have hsv : cs ≠ 7 ∧ svn = 0 ∧ szOf cs = sz := by
     rcases HSZ.out with h | h
     ·omega
     ·exact h.2
    have b7 : ((cs : Int) == 7) = false := by have := hsv.1; simp; omega
    have HSV := Lib.hid hsv
    clear h6 hsv
    go_wp2_with fail
    go_meet
    exact ⟨rfl, by have h := X14.out; rw [HSV.out.2.2] at h; rw [← HA2.out, HSV.out.2.1]; exact h⟩
  case rest =>
   obtain ⟨rfl, hst⟩ := hcut
   have X15 := Lib.hid hst
   clear hst X14
   rename_i hKK
   refine hKK _ _ ?_
   exact rg_tail hc hn hc2 (by have := HA1.out; have := HA2.out; omega) hpk hlp rt1 rt2 rt0 hrtb hsz0 hsz hk7.2 bp1 (by rcases HSZ.out with h | h <;> omega) HNL HL HBY HBX HA HRT HBP HLL X15
end Go.Proofs.YtmcllndnjdemaaaGreatDoor.Walk
