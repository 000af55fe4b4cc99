/- The parts of the frame header. Printed by wip/hpw.py. -/
import Derived.Test.YtmcllndnjdemaaaGreatDoorSnkAll
namespace Go.Proofs.YtmcllndnjdemaaaGreatDoor.Walk
set_option linter.unusedVariables false
set_option linter.unusedSimpArgs false
open Go Go.RowKit Go.Proofs.YtmcllndnjdemaaaGreatDoorW.PrintWords Go.Proofs.YtmcllndnjdemaaaGreatDoor.Num
variable {ty fn g B : Nat} {S : List Nat} {St : World → List Int → Prop}
set_option maxHeartbeats 1000000 in
set_option maxRecDepth 100000 in
theorem hdr_bps8 {R : Snk ty fn g B S St} {pre : List Int} {gw : Nat} {bs : List Nat} {w : World} (h : Wb R pre gw bs w) (hB : B ≤ w.heap.size) (hp : pre.length ≤ 30000000000000) (hl : bs.length ≤ 200000000000000) :
  Calls Tryz.prog 78 #[.pointer (some ⟨gw, 0, none⟩), .int .u8 8] w fun e w' =>
   e = .returned .nilIface ∧ Wb R pre gw (bs ++ bts 1 3) w' ∧ Kp B (gw :: S) w w' := by
 have H := Lib.hid (wb_bits h hB 1 3 (by omega) (by omega) hp (by omega))
 clear h
 go_enter Tryz.func78, Tryz.ntmps78
 go_wp2_with fail
 refine H.out.mono ?_
 rintro e w1 ⟨rfl, hb, hk⟩
 have X1 := Lib.hid (And.intro hb hk)
 clear hb hk
 go_wp2_with fail
 go_ret
 exact ⟨rfl, X1.out⟩
set_option maxHeartbeats 1000000 in
set_option maxRecDepth 100000 in
theorem hdr_bps12 {R : Snk ty fn g B S St} {pre : List Int} {gw : Nat} {bs : List Nat} {w : World} (h : Wb R pre gw bs w) (hB : B ≤ w.heap.size) (hp : pre.length ≤ 30000000000000) (hl : bs.length ≤ 200000000000000) :
  Calls Tryz.prog 78 #[.pointer (some ⟨gw, 0, none⟩), .int .u8 12] w fun e w' =>
   e = .returned .nilIface ∧ Wb R pre gw (bs ++ bts 2 3) w' ∧ Kp B (gw :: S) w w' := by
 have H := Lib.hid (wb_bits h hB 2 3 (by omega) (by omega) hp (by omega))
 clear h
 go_enter Tryz.func78, Tryz.ntmps78
 go_wp2_with fail
 refine H.out.mono ?_
 rintro e w1 ⟨rfl, hb, hk⟩
 have X1 := Lib.hid (And.intro hb hk)
 clear hb hk
 go_wp2_with fail
 go_ret
 exact ⟨rfl, X1.out⟩
set_option maxHeartbeats 1000000 in
set_option maxRecDepth 100000 in
theorem hdr_bps16 {R : Snk ty fn g B S St} {pre : List Int} {gw : Nat} {bs : List Nat} {w : World} (h : Wb R pre gw bs w) (hB : B ≤ w.heap.size) (hp : pre.length ≤ 30000000000000) (hl : bs.length ≤ 200000000000000) :
  Calls Tryz.prog 78 #[.pointer (some ⟨gw, 0, none⟩), .int .u8 16] w fun e w' =>
   e = .returned .nilIface ∧ Wb R pre gw (bs ++ bts 4 3) w' ∧ Kp B (gw :: S) w w' := by
 have H := Lib.hid (wb_bits h hB 4 3 (by omega) (by omega) hp (by omega))
 clear h
 go_enter Tryz.func78, Tryz.ntmps78
 go_wp2_with fail
 refine H.out.mono ?_
 rintro e w1 ⟨rfl, hb, hk⟩
 have X1 := Lib.hid (And.intro hb hk)
 clear hb hk
 go_wp2_with fail
 go_ret
 exact ⟨rfl, X1.out⟩
set_option maxHeartbeats 1000000 in
set_option maxRecDepth 100000 in
theorem hdr_bps20 {R : Snk ty fn g B S St} {pre : List Int} {gw : Nat} {bs : List Nat} {w : World} (h : Wb R pre gw bs w) (hB : B ≤ w.heap.size) (hp : pre.length ≤ 30000000000000) (hl : bs.length ≤ 200000000000000) :
  Calls Tryz.prog 78 #[.pointer (some ⟨gw, 0, none⟩), .int .u8 20] w fun e w' =>
   e = .returned .nilIface ∧ Wb R pre gw (bs ++ bts 5 3) w' ∧ Kp B (gw :: S) w w' := by
 have H := Lib.hid (wb_bits h hB 5 3 (by omega) (by omega) hp (by omega))
 clear h
 go_enter Tryz.func78, Tryz.ntmps78
 go_wp2_with fail
 refine H.out.mono ?_
 rintro e w1 ⟨rfl, hb, hk⟩
 have X1 := Lib.hid (And.intro hb hk)
 clear hb hk
 go_wp2_with fail
 go_ret
 exact ⟨rfl, X1.out⟩
set_option maxHeartbeats 1000000 in
set_option maxRecDepth 100000 in
theorem hdr_bps24 {R : Snk ty fn g B S St} {pre : List Int} {gw : Nat} {bs : List Nat} {w : World} (h : Wb R pre gw bs w) (hB : B ≤ w.heap.size) (hp : pre.length ≤ 30000000000000) (hl : bs.length ≤ 200000000000000) :
  Calls Tryz.prog 78 #[.pointer (some ⟨gw, 0, none⟩), .int .u8 24] w fun e w' =>
   e = .returned .nilIface ∧ Wb R pre gw (bs ++ bts 6 3) w' ∧ Kp B (gw :: S) w w' := by
 have H := Lib.hid (wb_bits h hB 6 3 (by omega) (by omega) hp (by omega))
 clear h
 go_enter Tryz.func78, Tryz.ntmps78
 go_wp2_with fail
 refine H.out.mono ?_
 rintro e w1 ⟨rfl, hb, hk⟩
 have X1 := Lib.hid (And.intro hb hk)
 clear hb hk
 go_wp2_with fail
 go_ret
 exact ⟨rfl, X1.out⟩
set_option maxHeartbeats 2000000 in
set_option maxRecDepth 100000 in
theorem hdr_size6 {R : Snk ty fn g B S St} {pre : List Int} {gw : Nat} {bs : List Nat} {w : World} (h : Wb R pre gw bs w) (hB : B ≤ w.heap.size) (hp : pre.length ≤ 30000000000000) (hl : bs.length ≤ 200000000000000) (sz : Nat) (h1 : sz < 256) (h2 : sz ≠ 192) :
  Calls Tryz.prog 75 #[.pointer (some ⟨gw, 0, none⟩), .int .u16 sz] w fun e w' =>
   e = .returned (.tuple #[.int .u8 8, .nilIface]) ∧ Wb R pre gw (bs ++ bts 6 4) w' ∧ Kp B (gw :: S) w w' := by
 have n192 : decide ((sz : Int) = 192) = false := by simp; omega
 have n576 : decide ((sz : Int) = 576) = false := by simp; omega
 have n1152 : decide ((sz : Int) = 1152) = false := by simp; omega
 have n2304 : decide ((sz : Int) = 2304) = false := by simp; omega
 have n4608 : decide ((sz : Int) = 4608) = false := by simp; omega
 have n256 : decide ((sz : Int) = 256) = false := by simp; omega
 have n512 : decide ((sz : Int) = 512) = false := by simp; omega
 have n1024 : decide ((sz : Int) = 1024) = false := by simp; omega
 have n2048 : decide ((sz : Int) = 2048) = false := by simp; omega
 have n4096 : decide ((sz : Int) = 4096) = false := by simp; omega
 have n8192 : decide ((sz : Int) = 8192) = false := by simp; omega
 have n16384 : decide ((sz : Int) = 16384) = false := by simp; omega
 have n32768 : decide ((sz : Int) = 32768) = false := by simp; omega
 have hle : decide ((sz : Int) ≤ 256) = true := by simp; omega
 have H := Lib.hid (wb_bits h hB 6 4 (by omega) (by omega) hp (by omega))
 clear h
 go_enter Tryz.func75, Tryz.ntmps75
 go_wp2_with fail
 refine H.out.mono ?_
 rintro e w1 ⟨rfl, hb, hk⟩
 have X1 := Lib.hid (And.intro hb hk)
 clear hb hk
 go_wp2_with fail
 go_ret2
 exact ⟨rfl, X1.out⟩
set_option maxHeartbeats 2000000 in
set_option maxRecDepth 100000 in
theorem hdr_size1 {R : Snk ty fn g B S St} {pre : List Int} {gw : Nat} {bs : List Nat} {w : World} (h : Wb R pre gw bs w) (hB : B ≤ w.heap.size) (hp : pre.length ≤ 30000000000000) (hl : bs.length ≤ 200000000000000) (sz : Nat) (h1 : sz = 192) :
  Calls Tryz.prog 75 #[.pointer (some ⟨gw, 0, none⟩), .int .u16 sz] w fun e w' =>
   e = .returned (.tuple #[.int .u8 0, .nilIface]) ∧ Wb R pre gw (bs ++ bts 1 4) w' ∧ Kp B (gw :: S) w w' := by
 subst h1
 have H := Lib.hid (wb_bits h hB 1 4 (by omega) (by omega) hp (by omega))
 clear h
 go_enter Tryz.func75, Tryz.ntmps75
 go_wp2_with fail
 refine H.out.mono ?_
 rintro e w1 ⟨rfl, hb, hk⟩
 have X1 := Lib.hid (And.intro hb hk)
 clear hb hk
 go_wp2_with fail
 go_ret2
 exact ⟨rfl, X1.out⟩
set_option maxHeartbeats 2000000 in
set_option maxRecDepth 100000 in
theorem hdr_rate2 {R : Snk ty fn g B S St} {pre : List Int} {gw : Nat} {bs : List Nat} {w : World} (h : Wb R pre gw bs w) (hB : B ≤ w.heap.size) (hp : pre.length ≤ 30000000000000) (hl : bs.length ≤ 200000000000000) :
  Calls Tryz.prog 76 #[.pointer (some ⟨gw, 0, none⟩), .int .u32 176400] w fun e w' =>
   e = .returned (.tuple #[.int .u64 0, .int .u8 0, .nilIface]) ∧ Wb R pre gw (bs ++ bts 2 4) w' ∧ Kp B (gw :: S) w w' := by
 have H := Lib.hid (wb_bits h hB 2 4 (by omega) (by omega) hp (by omega))
 clear h
 go_enter Tryz.func76, Tryz.ntmps76
 go_wp2_with fail
 refine H.out.mono ?_
 rintro e w1 ⟨rfl, hb, hk⟩
 have X1 := Lib.hid (And.intro hb hk)
 clear hb hk
 go_wp2_with fail
 go_ret3
 exact ⟨rfl, X1.out⟩
set_option maxHeartbeats 2000000 in
set_option maxRecDepth 100000 in
theorem hdr_rate4 {R : Snk ty fn g B S St} {pre : List Int} {gw : Nat} {bs : List Nat} {w : World} (h : Wb R pre gw bs w) (hB : B ≤ w.heap.size) (hp : pre.length ≤ 30000000000000) (hl : bs.length ≤ 200000000000000) :
  Calls Tryz.prog 76 #[.pointer (some ⟨gw, 0, none⟩), .int .u32 8000] w fun e w' =>
   e = .returned (.tuple #[.int .u64 0, .int .u8 0, .nilIface]) ∧ Wb R pre gw (bs ++ bts 4 4) w' ∧ Kp B (gw :: S) w w' := by
 have H := Lib.hid (wb_bits h hB 4 4 (by omega) (by omega) hp (by omega))
 clear h
 go_enter Tryz.func76, Tryz.ntmps76
 go_wp2_with fail
 refine H.out.mono ?_
 rintro e w1 ⟨rfl, hb, hk⟩
 have X1 := Lib.hid (And.intro hb hk)
 clear hb hk
 go_wp2_with fail
 go_ret3
 exact ⟨rfl, X1.out⟩
set_option maxHeartbeats 2000000 in
set_option maxRecDepth 100000 in
theorem hdr_rate9 {R : Snk ty fn g B S St} {pre : List Int} {gw : Nat} {bs : List Nat} {w : World} (h : Wb R pre gw bs w) (hB : B ≤ w.heap.size) (hp : pre.length ≤ 30000000000000) (hl : bs.length ≤ 200000000000000) :
  Calls Tryz.prog 76 #[.pointer (some ⟨gw, 0, none⟩), .int .u32 44100] w fun e w' =>
   e = .returned (.tuple #[.int .u64 0, .int .u8 0, .nilIface]) ∧ Wb R pre gw (bs ++ bts 9 4) w' ∧ Kp B (gw :: S) w w' := by
 have H := Lib.hid (wb_bits h hB 9 4 (by omega) (by omega) hp (by omega))
 clear h
 go_enter Tryz.func76, Tryz.ntmps76
 go_wp2_with fail
 refine H.out.mono ?_
 rintro e w1 ⟨rfl, hb, hk⟩
 have X1 := Lib.hid (And.intro hb hk)
 clear hb hk
 go_wp2_with fail
 go_ret3
 exact ⟨rfl, X1.out⟩
set_option maxHeartbeats 2000000 in
set_option maxRecDepth 100000 in
theorem hdr_rate10 {R : Snk ty fn g B S St} {pre : List Int} {gw : Nat} {bs : List Nat} {w : World} (h : Wb R pre gw bs w) (hB : B ≤ w.heap.size) (hp : pre.length ≤ 30000000000000) (hl : bs.length ≤ 200000000000000) :
  Calls Tryz.prog 76 #[.pointer (some ⟨gw, 0, none⟩), .int .u32 48000] w fun e w' =>
   e = .returned (.tuple #[.int .u64 0, .int .u8 0, .nilIface]) ∧ Wb R pre gw (bs ++ bts 10 4) w' ∧ Kp B (gw :: S) w w' := by
 have H := Lib.hid (wb_bits h hB 10 4 (by omega) (by omega) hp (by omega))
 clear h
 go_enter Tryz.func76, Tryz.ntmps76
 go_wp2_with fail
 refine H.out.mono ?_
 rintro e w1 ⟨rfl, hb, hk⟩
 have X1 := Lib.hid (And.intro hb hk)
 clear hb hk
 go_wp2_with fail
 go_ret3
 exact ⟨rfl, X1.out⟩
set_option maxHeartbeats 2000000 in
set_option maxRecDepth 100000 in
theorem hdr_rate11 {R : Snk ty fn g B S St} {pre : List Int} {gw : Nat} {bs : List Nat} {w : World} (h : Wb R pre gw bs w) (hB : B ≤ w.heap.size) (hp : pre.length ≤ 30000000000000) (hl : bs.length ≤ 200000000000000) :
  Calls Tryz.prog 76 #[.pointer (some ⟨gw, 0, none⟩), .int .u32 96000] w fun e w' =>
   e = .returned (.tuple #[.int .u64 0, .int .u8 0, .nilIface]) ∧ Wb R pre gw (bs ++ bts 11 4) w' ∧ Kp B (gw :: S) w w' := by
 have H := Lib.hid (wb_bits h hB 11 4 (by omega) (by omega) hp (by omega))
 clear h
 go_enter Tryz.func76, Tryz.ntmps76
 go_wp2_with fail
 refine H.out.mono ?_
 rintro e w1 ⟨rfl, hb, hk⟩
 have X1 := Lib.hid (And.intro hb hk)
 clear hb hk
 go_wp2_with fail
 go_ret3
 exact ⟨rfl, X1.out⟩
set_option maxHeartbeats 2000000 in
set_option maxRecDepth 100000 in
theorem hdr_rate13 {R : Snk ty fn g B S St} {pre : List Int} {gw : Nat} {bs : List Nat} {w : World} (h : Wb R pre gw bs w) (hB : B ≤ w.heap.size) (hp : pre.length ≤ 30000000000000) (hl : bs.length ≤ 200000000000000) :
  Calls Tryz.prog 76 #[.pointer (some ⟨gw, 0, none⟩), .int .u32 12345] w fun e w' =>
   e = .returned (.tuple #[.int .u64 12345, .int .u8 16, .nilIface]) ∧ Wb R pre gw (bs ++ bts 13 4) w' ∧ Kp B (gw :: S) w w' := by
 have H := Lib.hid (wb_bits h hB 13 4 (by omega) (by omega) hp (by omega))
 clear h
 go_enter Tryz.func76, Tryz.ntmps76
 go_wp2_with fail
 refine H.out.mono ?_
 rintro e w1 ⟨rfl, hb, hk⟩
 have X1 := Lib.hid (And.intro hb hk)
 clear hb hk
 go_wp2_with fail
 go_ret3
 exact ⟨rfl, X1.out⟩
set_option maxHeartbeats 2000000 in
set_option maxRecDepth 100000 in
theorem hdr_rate14 {R : Snk ty fn g B S St} {pre : List Int} {gw : Nat} {bs : List Nat} {w : World} (h : Wb R pre gw bs w) (hB : B ≤ w.heap.size) (hp : pre.length ≤ 30000000000000) (hl : bs.length ≤ 200000000000000) :
  Calls Tryz.prog 76 #[.pointer (some ⟨gw, 0, none⟩), .int .u32 655350] w fun e w' =>
   e = .returned (.tuple #[.int .u64 65535, .int .u8 16, .nilIface]) ∧ Wb R pre gw (bs ++ bts 14 4) w' ∧ Kp B (gw :: S) w w' := by
 have H := Lib.hid (wb_bits h hB 14 4 (by omega) (by omega) hp (by omega))
 clear h
 go_enter Tryz.func76, Tryz.ntmps76
 go_wp2_with fail
 refine H.out.mono ?_
 rintro e w1 ⟨rfl, hb, hk⟩
 have X1 := Lib.hid (And.intro hb hk)
 clear hb hk
 go_wp2_with fail
 go_ret3
 exact ⟨rfl, X1.out⟩
end Go.Proofs.YtmcllndnjdemaaaGreatDoor.Walk
namespace Go.Proofs.YtmcllndnjdemaaaGreatDoor.Walk
set_option linter.unusedVariables false
set_option linter.unusedSimpArgs false
open Go Go.RowKit Go.Proofs.YtmcllndnjdemaaaGreatDoorW.PrintWords Go.Proofs.YtmcllndnjdemaaaGreatDoor.Num
variable {ty fn g B : Nat} {S : List Nat} {St : World → List Int → Prop}
set_option maxHeartbeats 2000000 in
set_option maxRecDepth 100000 in
theorem blk_head {R : Snk ty fn g B S St} {pre : List Int} {gw : Nat} {bs : List Nat} {w : World} (h : Wb R pre gw bs w) (hB : B ≤ w.heap.size) (gh : Nat) (b : Bool) (hp : pre.length ≤ 30000000000000) (hl : bs.length ≤ 200000000000000)
  (hg : w.heap[gh]? = some (.cells #[.int .u8 0, .int .i64 34, .bool b] 173 (0, 0))) (hn : gh ∉ gw :: S) :
  Calls Tryz.prog 63 #[.pointer (some ⟨gw, 0, none⟩), .pointer (some ⟨gh, 0, none⟩)] w fun e w' =>
   e = .returned .nilIface ∧ Wb R pre gw (((bs ++ bts b.toNat 1) ++ bts 0 7) ++ bts 34 24) w' ∧ Kp B (gw :: S) w w' := by
 have c2 : w.cell? ⟨gh, 2, none⟩ = some (.bool b) := by rw [cell_of_row w gh 2 _ _ _ hg]; rfl
 have H := Lib.hid (wb_bool h hB b hp (by omega))
 have HG := Lib.hid hg
 clear h hg
 go_enter Tryz.func63, Tryz.ntmps63
 go_wp2_with fail
 refine H.out.mono ?_
 rintro e w1 ⟨rfl, hb, hk⟩
 have hg1 := hk.keep gh _ HG.out hn (notU8 (by decide))
 have c0 : w1.cell? ⟨gh, 0, none⟩ = some (.int .u8 0) := by rw [cell_of_row w1 gh 0 _ _ _ hg1]; rfl
 have X1 := Lib.hid (And.intro hb (And.intro hk hg1))
 clear hb hk hg1
 go_wp2_with fail
 refine (wb_bits X1.out.1 (Nat.le_trans hB X1.out.2.1.bel.size) 0 7 (by omega) (by omega) hp (by simp [bts_len]; omega)).mono ?_
 rintro e w2 ⟨rfl, hb, hk⟩
 have hg2 := hk.keep gh _ X1.out.2.2 hn (notU8 (by decide))
 have c1 : w2.cell? ⟨gh, 1, none⟩ = some (.int .i64 34) := by rw [cell_of_row w2 gh 1 _ _ _ hg2]; rfl
 have X2 := Lib.hid (And.intro hb (And.intro (X1.out.2.1.trans hk) hg2))
 clear hb hk hg2
 go_wp2_with fail
 refine (wb_bits X2.out.1 (Nat.le_trans hB X2.out.2.1.bel.size) 34 24 (by omega) (by omega) hp (by simp [bts_len]; omega)).mono ?_
 rintro e w3 ⟨rfl, hb, hk⟩
 have X3 := Lib.hid (And.intro hb (X2.out.2.1.trans hk))
 clear hb hk
 go_wp2_with fail
 go_ret
 exact ⟨rfl, X3.out⟩
theorem wb_al {R : Snk ty fn g B S St} {pre : List Int} {gw : Nat} {bs : List Nat} {w : World} (h : Wb R pre gw bs w) (h8 : bs.length % 8 = 0) : ∃ out, Al R pre gw out w ∧ bytesBits out = bs ∧ 8 * out.length = bs.length := by
 obtain ⟨s, h1, h2⟩ := h
 have hlen := s.bits_len
 rw [h2] at hlen
 have hnb := h1.ok.nb
 have h0 : s.nb = 0 := by omega
 refine ⟨s.out, al_of h1 h0, ?_, by omega⟩
 rw [← h2]; unfold WS.bits; rw [h0, bts, List.append_nil]
theorem al_wb {R : Snk ty fn g B S St} {pre : List Int} {gw : Nat} {out : List Int} {w : World} (h : Al R pre gw out w) : Wb R pre gw (bytesBits out) w := by
 refine ⟨_, h, ?_⟩
 unfold WS.bits; rw [bts, List.append_nil]
set_option maxHeartbeats 8000000 in
set_option maxRecDepth 100000 in
theorem stream_info {R : Snk ty fn g B S St} {gw : Nat} {bs : List Nat} {w : World} (h : Wb R [] gw bs w) (hB : B ≤ w.heap.size) (gi : Nat) (b : Bool) (h8 : bs.length % 8 = 0) (hl : bs.length ≤ 1000000)
  (bmin bmax fmin fmax rate nch bps nsm : Nat) (md : List Int) (hmd : md.length = 16) (hmb : ∀ x ∈ md, 0 ≤ x ∧ x ≤ 255) (hbmin : bmin < 65536) (hbmax : bmax < 65536) (hfmin : fmin < 4294967296) (hfmax : fmax < 4294967296) (hrate : rate < 4294967296) (hnch : nch < 255) (hbps : bps < 255) (hnsm : nsm < 18446744073709551616)
  (hg : w.heap[gi]? = some (.cells #[.int .u16 bmin, .int .u16 bmax, .int .u32 fmin, .int .u32 fmax, .int .u32 rate, .int .u8 ((nch + 1 : Nat) : Int), .int .u8 ((bps + 1 : Nat) : Int), .int .u64 nsm, .int .u8 (md.getD 0 0), .int .u8 (md.getD 1 0), .int .u8 (md.getD 2 0), .int .u8 (md.getD 3 0), .int .u8 (md.getD 4 0), .int .u8 (md.getD 5 0), .int .u8 (md.getD 6 0), .int .u8 (md.getD 7 0), .int .u8 (md.getD 8 0), .int .u8 (md.getD 9 0), .int .u8 (md.getD 10 0), .int .u8 (md.getD 11 0), .int .u8 (md.getD 12 0), .int .u8 (md.getD 13 0), .int .u8 (md.getD 14 0), .int .u8 (md.getD 15 0)] 128 (0, 0))) (hn : gi ∉ gw :: S) :
  Calls Tryz.prog 34 #[.pointer (some ⟨gw, 0, none⟩), .pointer (some ⟨gi, 0, none⟩), .bool b] w fun e w' =>
   e = .returned .nilIface ∧ Wb R [] gw ((((((((((((bs ++ bts b.toNat 1) ++ bts 0 7) ++ bts 34 24) ++ bts bmin 16) ++ bts bmax 16) ++ bts fmin 24) ++ bts fmax 24) ++ bts rate 20) ++ bts nch 3) ++ bts bps 5) ++ bts nsm 36) ++ bytesBits md) w' ∧ Kp B (gw :: S) w w' := by
 have HG := Lib.hid hg
 have HH := Lib.hid h
 have HMB := Lib.hid hmb
 clear h hg hmb
 go_enter Tryz.func34, Tryz.ntmps34
 go_wp2_with fail
 have t0 := (Touch.refl [] w).alloc (.cells #[.int .u8 0, .int .i64 34, .bool b] 173)
 have hb0 := heap_alloc_new w (.cells #[.int .u8 0, .int .i64 34, .bool b] 173)
 have hw0 : Wb R [] gw bs _ := HH.out.move t0 (by simp)
 have hgi0 := t0.heap HG.out (by simp)
 have hk0 : Kp B (gw :: S) w (w.alloc (.cells #[.int .u8 0, .int .i64 34, .bool b] 173)) := (Kp.refl B _ w).alloc hB _
 have hnh : w.heap.size ∉ gw :: S := fun hm => by
  rcases List.mem_cons.1 hm with e | hm
  ·have := HH.out.base.2; omega
  ·obtain ⟨s, h1, _⟩ := HH.out
   have := (R.lt w _ h1.st _ hm).1; omega
 refine (blk_head hw0 (Nat.le_trans hB hk0.bel.size) _ b (by simp) (by omega) hb0 hnh).mono ?_
 rintro e w1 ⟨rfl, hb, hk⟩
 have hg1 := hk.keep gi _ hgi0 hn (notU8 (by decide))
 have c0 : w1.cell? ⟨gi, 0, none⟩ = some (.int .u16 bmin) := by rw [cell_of_row w1 gi 0 _ _ _ hg1]; rfl
 have X1 := Lib.hid (And.intro hb (And.intro (hk0.trans hk) hg1))
 clear hb hk hg1 hb0 hw0 hgi0 hk0 hnh t0
 go_wp2_with fail
 refine (wb_bits X1.out.1 (Nat.le_trans hB X1.out.2.1.bel.size) bmin 16 (by omega) (by omega) (by simp) (by simp [bts_len]; omega)).mono ?_
 rintro e w2 ⟨rfl, hb, hk⟩
 have hg2 := hk.keep gi _ X1.out.2.2 hn (notU8 (by decide))
 have c1 : w2.cell? ⟨gi, 1, none⟩ = some (.int .u16 bmax) := by rw [cell_of_row w2 gi 1 _ _ _ hg2]; rfl
 have X2 := Lib.hid (And.intro hb (And.intro (X1.out.2.1.trans hk) hg2))
 clear hb hk hg2
 go_wp2_with fail
 refine (wb_bits X2.out.1 (Nat.le_trans hB X2.out.2.1.bel.size) bmax 16 (by omega) (by omega) (by simp) (by simp [bts_len]; omega)).mono ?_
 rintro e w3 ⟨rfl, hb, hk⟩
 have hg3 := hk.keep gi _ X2.out.2.2 hn (notU8 (by decide))
 have c2 : w3.cell? ⟨gi, 2, none⟩ = some (.int .u32 fmin) := by rw [cell_of_row w3 gi 2 _ _ _ hg3]; rfl
 have X3 := Lib.hid (And.intro hb (And.intro (X2.out.2.1.trans hk) hg3))
 clear hb hk hg3
 go_wp2_with fail
 refine (wb_bits X3.out.1 (Nat.le_trans hB X3.out.2.1.bel.size) fmin 24 (by omega) (by omega) (by simp) (by simp [bts_len]; omega)).mono ?_
 rintro e w4 ⟨rfl, hb, hk⟩
 have hg4 := hk.keep gi _ X3.out.2.2 hn (notU8 (by decide))
 have c3 : w4.cell? ⟨gi, 3, none⟩ = some (.int .u32 fmax) := by rw [cell_of_row w4 gi 3 _ _ _ hg4]; rfl
 have X4 := Lib.hid (And.intro hb (And.intro (X3.out.2.1.trans hk) hg4))
 clear hb hk hg4
 go_wp2_with fail
 refine (wb_bits X4.out.1 (Nat.le_trans hB X4.out.2.1.bel.size) fmax 24 (by omega) (by omega) (by simp) (by simp [bts_len]; omega)).mono ?_
 rintro e w5 ⟨rfl, hb, hk⟩
 have hg5 := hk.keep gi _ X4.out.2.2 hn (notU8 (by decide))
 have c4 : w5.cell? ⟨gi, 4, none⟩ = some (.int .u32 rate) := by rw [cell_of_row w5 gi 4 _ _ _ hg5]; rfl
 have X5 := Lib.hid (And.intro hb (And.intro (X4.out.2.1.trans hk) hg5))
 clear hb hk hg5
 go_wp2_with fail
 refine (wb_bits X5.out.1 (Nat.le_trans hB X5.out.2.1.bel.size) rate 20 (by omega) (by omega) (by simp) (by simp [bts_len]; omega)).mono ?_
 rintro e w6 ⟨rfl, hb, hk⟩
 have hg6 := hk.keep gi _ X5.out.2.2 hn (notU8 (by decide))
 have c5 : w6.cell? ⟨gi, 5, none⟩ = some (.int .u8 ((nch + 1 : Nat) : Int)) := by rw [cell_of_row w6 gi 5 _ _ _ hg6]; rfl
 have d5 : (((nch + 1 : Nat) : Int) - 1) % 256 = (nch : Int) := by omega
 have X6 := Lib.hid (And.intro hb (And.intro (X5.out.2.1.trans hk) hg6))
 clear hb hk hg6
 go_wp2_with fail
 refine (wb_bits X6.out.1 (Nat.le_trans hB X6.out.2.1.bel.size) nch 3 (by omega) (by omega) (by simp) (by simp [bts_len]; omega)).mono ?_
 rintro e w7 ⟨rfl, hb, hk⟩
 have hg7 := hk.keep gi _ X6.out.2.2 hn (notU8 (by decide))
 have c6 : w7.cell? ⟨gi, 6, none⟩ = some (.int .u8 ((bps + 1 : Nat) : Int)) := by rw [cell_of_row w7 gi 6 _ _ _ hg7]; rfl
 have d6 : (((bps + 1 : Nat) : Int) - 1) % 256 = (bps : Int) := by omega
 have X7 := Lib.hid (And.intro hb (And.intro (X6.out.2.1.trans hk) hg7))
 clear hb hk hg7
 go_wp2_with fail
 refine (wb_bits X7.out.1 (Nat.le_trans hB X7.out.2.1.bel.size) bps 5 (by omega) (by omega) (by simp) (by simp [bts_len]; omega)).mono ?_
 rintro e w8 ⟨rfl, hb, hk⟩
 have hg8 := hk.keep gi _ X7.out.2.2 hn (notU8 (by decide))
 have c7 : w8.cell? ⟨gi, 7, none⟩ = some (.int .u64 nsm) := by rw [cell_of_row w8 gi 7 _ _ _ hg8]; rfl
 have X8 := Lib.hid (And.intro hb (And.intro (X7.out.2.1.trans hk) hg8))
 clear hb hk hg8
 go_wp2_with fail
 refine (wb_bits X8.out.1 (Nat.le_trans hB X8.out.2.1.bel.size) nsm 36 (by omega) (by omega) (by simp) (by simp [bts_len]; omega)).mono ?_
 rintro e w9 ⟨rfl, hb, hk⟩
 have hg9 := hk.keep gi _ X8.out.2.2 hn (notU8 (by decide))
 have X9 := Lib.hid (And.intro hb (And.intro (X8.out.2.1.trans hk) hg9))
 clear hb hk hg9
 go_wp2_with fail
 obtain ⟨out, ha, hbits, hlen⟩ := wb_al X9.out.1 (by simp [bts_len]; omega)
 have hlen2 : 8 * out.length = bs.length + 176 := by rw [hlen]; simp [bts_len]
 refine (al_write R gw w9 out md ⟨gi, 8, none⟩ 16 16 ha (Nat.le_trans hB X9.out.2.1.bel.size) ⟨hmd, by decide, fun _ => ⟨_, rfl, fun i hi => ?_⟩⟩ (by decide) hn HMB.out (by omega)).mono ?_
 ·have hc := X9.out.2.2
  rcases i with _ | _ | _ | _ | _ | _ | _ | _ | _ | _ | _ | _ | _ | _ | _ | _ | i
  all_goals first | (exfalso; omega) | (refine (cell_of_row w9 gi _ _ _ _ hc).trans ?_; rfl)
 ·rintro e w10 ⟨rfl, hb, hk⟩
  have hb2 := al_wb hb
  rw [bytesBits_append, hbits] at hb2
  have X10 := Lib.hid (And.intro hb2 (X9.out.2.1.trans hk))
  clear hb hk hb2 hbits hlen hlen2 ha
  go_wp2_with fail
  go_ret
  exact ⟨rfl, X10.out⟩
end Go.Proofs.YtmcllndnjdemaaaGreatDoor.Walk
namespace Go.Proofs.YtmcllndnjdemaaaGreatDoor.Walk
open Go Go.RowKit
set_option linter.unusedVariables false
set_option linter.unusedSimpArgs false
abbrev one64 : Value := .float .f64 4607182418800017408
set_option maxHeartbeats 1000000 in
set_option maxRecDepth 100000 in
theorem abs_one (w : World) : Calls Tryz.prog 135 #[one64] w fun e w' => e = .returned one64 ∧ w' = w := by
 have f1 : ∀ (w : World), Sem.run Tryz.prog (callFunc 131 #[.float .f64 4607182418800017408]) w = .ok (Next.value (.int .u64 4607182418800017408)) w := fun w => by kernel_rfl
 have f2 : ∀ (w : World), Sem.run Tryz.prog (callFunc 132 #[.int .u64 4607182418800017408]) w = .ok (Next.value (.float .f64 4607182418800017408)) w := fun w => by kernel_rfl
 have b1 : Go.bits .andNot .u64 4607182418800017408 9223372036854775808 = 4607182418800017408 := by decide
 go_enter Tryz.func135, Tryz.ntmps135
 go_wp2_with fail
 go_ret
 exact ⟨rfl, rfl⟩
set_option maxHeartbeats 1000000 in
set_option maxRecDepth 100000 in
theorem norm_one (w : World) : Calls Tryz.prog 130 #[one64] w fun e w' => e = .returned (.tuple #[one64, .int .i64 0]) ∧ w' = w := by
 have c1 : ∀ (w : World), (binOp .lss 241 (.float .f64 4607182418800017408) (.float .f64 4503599627370496)).run Tryz.prog w = .ok (.bool false) w := fun w => by kernel_rfl
 go_enter Tryz.func130, Tryz.ntmps130
 go_wp2_with fail
 refine (abs_one w).mono ?_
 rintro e w1 ⟨rfl, rfl⟩
 go_wp2_with fail
 go_ret2
 exact ⟨rfl, rfl⟩
set_option maxHeartbeats 1000000 in
set_option maxRecDepth 100000 in
theorem inf_one (w : World) : Calls Tryz.prog 128 #[one64, .int .i64 0] w fun e w' => e = .returned (.bool false) ∧ w' = w := by
 have c1 : ∀ (w : World), (binOp .gtr 241 (.float .f64 4607182418800017408) (.float .f64 9218868437227405311)).run Tryz.prog w = .ok (.bool false) w := fun w => by kernel_rfl
 go_enter Tryz.func128, Tryz.ntmps128
 go_wp2_with fail
 refine (abs_one w).mono ?_
 rintro e w1 ⟨rfl, rfl⟩
 go_wp2_with fail
 go_ret
 exact ⟨rfl, rfl⟩
set_option maxHeartbeats 1000000 in
set_option maxRecDepth 100000 in
theorem nan_one (w : World) : Calls Tryz.prog 129 #[one64] w fun e w' => e = .returned (.bool false) ∧ w' = w := by
 have c1 : ∀ (w : World), (binOp .neq 241 (.float .f64 4607182418800017408) (.float .f64 4607182418800017408)).run Tryz.prog w = .ok (.bool false) w := fun w => by kernel_rfl
 go_enter Tryz.func129, Tryz.ntmps129
 go_wp2_with fail
 go_ret
 exact ⟨rfl, rfl⟩
set_option maxHeartbeats 1000000 in
set_option maxRecDepth 100000 in
theorem frexp_one (w : World) : Calls Tryz.prog 125 #[one64] w fun e w' => e = .returned (.tuple #[.float .f64 4602678819172646912, .int .i64 1]) ∧ w' = w := by
 have f1 : ∀ (w : World), Sem.run Tryz.prog (callFunc 131 #[.float .f64 4607182418800017408]) w = .ok (Next.value (.int .u64 4607182418800017408)) w := fun w => by kernel_rfl
 have f3 : ∀ (w : World), Sem.run Tryz.prog (callFunc 132 #[.int .u64 4602678819172646912]) w = .ok (Next.value (.float .f64 4602678819172646912)) w := fun w => by kernel_rfl
 have b2 : Go.bits .andNot .u64 4607182418800017408 9218868437227405312 = 0 := by decide
 have b3 : Go.bits .or .u64 0 4602678819172646912 = 4602678819172646912 := by decide
 have b4 : Go.bits .and .u64 1023 2047 = 1023 := by decide
 have c1 : ∀ (w : World), (binOp .eql 241 (.float .f64 4607182418800017408) (.float .f64 0)).run Tryz.prog w = .ok (.bool false) w := fun w => by kernel_rfl
 go_enter Tryz.func125, Tryz.ntmps125
 go_wp2_with fail
 refine (inf_one w).mono ?_
 rintro e w1 ⟨rfl, rfl⟩
 go_wp2_with fail
 refine (nan_one w1).mono ?_
 rintro e w2 ⟨rfl, rfl⟩
 go_wp2_with fail
 refine (norm_one w2).mono ?_
 rintro e w3 ⟨rfl, rfl⟩
 go_wp2_with fail
 go_ret2
 exact ⟨rfl, rfl⟩
set_option maxHeartbeats 1000000 in
set_option maxRecDepth 100000 in
theorem frexp_one1 (w : World) : Calls Tryz.prog 121 #[one64] w fun e w' => e = .returned (.tuple #[.float .f64 4602678819172646912, .int .i64 1]) ∧ w' = w := by
 go_enter Tryz.func121, Tryz.ntmps121
 go_wp2_with fail
 refine (frexp_one w).mono ?_
 rintro e w1 ⟨rfl, rfl⟩
 go_wp2_with fail
 go_ret2
 exact ⟨rfl, rfl⟩
set_option maxHeartbeats 1000000 in
set_option maxRecDepth 100000 in
theorem log2_one1 (w : World) : Calls Tryz.prog 117 #[one64] w fun e w' => e = .returned (.float .f64 0) ∧ w' = w := by
 have c1 : ∀ (w : World), (binOp .eql 241 (.float .f64 4602678819172646912) (.float .f64 4602678819172646912)).run Tryz.prog w = .ok (.bool true) w := fun w => by kernel_rfl
 have c2 : ∀ (w : World), (convert 3 241 (.int .i64 0)).run Tryz.prog w = .ok (.float .f64 0) w := fun w => by kernel_rfl
 go_enter Tryz.func117, Tryz.ntmps117
 go_wp2_with fail
 refine (frexp_one1 w).mono ?_
 rintro e w1 ⟨rfl, rfl⟩
 go_wp2_with fail
 go_ret
 exact ⟨rfl, rfl⟩
set_option maxHeartbeats 1000000 in
set_option maxRecDepth 100000 in
theorem log2_one (w : World) : Calls Tryz.prog 102 #[one64] w fun e w' => e = .returned (.float .f64 0) ∧ w' = w := by
 go_enter Tryz.func102, Tryz.ntmps102
 go_wp2_with fail
 refine (log2_one1 w).mono ?_
 rintro e w1 ⟨rfl, rfl⟩
 go_wp2_with fail
 go_ret
 exact ⟨rfl, rfl⟩
variable {ty fn g B : Nat} {S : List Nat} {St : World → List Int → Prop}
set_option maxHeartbeats 2000000 in
set_option maxRecDepth 100000 in
theorem hdr_size8 {R : Snk ty fn g B S St} {pre : List Int} {gw : Nat} {bs : List Nat} {w : World} (h : Wb R pre gw bs w) (hB : B ≤ w.heap.size) (hp : pre.length ≤ 30000000000000) (hl : bs.length ≤ 200000000000000) :
  Calls Tryz.prog 75 #[.pointer (some ⟨gw, 0, none⟩), .int .u16 256] w fun e w' =>
   e = .returned (.tuple #[.int .u8 0, .nilIface]) ∧ Wb R pre gw (bs ++ bts 8 4) w' ∧ Kp B (gw :: S) w w' := by
 have H := Lib.hid (wb_bits h hB 8 4 (by omega) (by omega) hp (by omega))
 have c2 : ∀ (w : World), (convert 74 241 (.int .u16 1)).run Tryz.prog w = .ok (.float .f64 4607182418800017408) w := fun w => by kernel_rfl
 have c3 : ∀ (w : World), (convert 241 24 (.float .f64 0)).run Tryz.prog w = .ok (.int .u64 0) w := fun w => by kernel_rfl
 clear h
 go_enter Tryz.func75, Tryz.ntmps75
 go_wp2_with fail
 refine (log2_one w).mono ?_
 rintro e w1 ⟨rfl, rfl⟩
 go_wp2_with fail
 refine H.out.mono ?_
 rintro e w2 ⟨rfl, hb, hk⟩
 have X1 := Lib.hid (And.intro hb hk)
 clear hb hk
 go_wp2_with fail
 go_ret2
 exact ⟨rfl, X1.out⟩
def NCh (w : World) : Prop := ∀ i : Nat, i ≤ 7 → w.cell? ⟨0, i, none⟩ = some (.int .i64 ((i + 1 : Nat) : Int))
theorem NCh.below {B : Nat} {w w' : World} (h : NCh w) (b : Below B w w') (hB : 0 < B) : NCh w' := fun i hi => (b.cell (p := ⟨0, i, none⟩) hB).trans (h i hi)
set_option maxHeartbeats 1000000 in
set_option maxRecDepth 100000 in
theorem count_ch (c : Nat) (hc : c ≤ 7) (w : World) (hn : NCh w) : Calls Tryz.prog 39 #[.int .u8 c] w fun e w' => e = .returned (.int .i64 ((c + 1 : Nat) : Int)) ∧ w = w' := by
 have hg := hn c hc
 clear hn
 go_enter Tryz.func39, Tryz.ntmps39
 go_wp2_with fail
 go_ret
 exact ⟨rfl, rfl⟩
set_option maxHeartbeats 4000000 in
set_option maxRecDepth 100000 in
theorem hdr_chan {R : Snk ty fn g B S St} {pre : List Int} {gw : Nat} {bs : List Nat} {w : World} (h : Wb R pre gw bs w) (hB : B ≤ w.heap.size) (hp : pre.length ≤ 30000000000000) (hl : bs.length ≤ 200000000000000) (c : Nat) (hc : c ≤ 7) (hn : NCh w) :
  Calls Tryz.prog 77 #[.pointer (some ⟨gw, 0, none⟩), .int .u8 c] w fun e w' =>
   e = .returned .nilIface ∧ Wb R pre gw (bs ++ bts c 4) w' ∧ Kp B (gw :: S) w w' := by
 have H := Lib.hid (wb_bits h hB c 4 (by omega) (by omega) hp (by omega))
 have HN := Lib.hid hn
 clear h hn
 have hcs : c = 0 ∨ c = 1 ∨ c = 2 ∨ c = 3 ∨ c = 4 ∨ c = 5 ∨ c = 6 ∨ c = 7 := by omega
 clear hc
 rcases hcs with rfl | rfl | rfl | rfl | rfl | rfl | rfl | rfl
 all_goals
  go_enter Tryz.func77, Tryz.ntmps77
  go_wp2_with fail
  refine (count_ch _ (by decide) w HN.out).mono ?_
  rintro e w1 ⟨rfl, rfl⟩
  go_wp2_with fail
  refine H.out.mono ?_
  rintro e w2 ⟨rfl, hb, hk⟩
  have X1 := Lib.hid (And.intro hb hk)
  clear hb hk
  go_wp2_with fail
  go_ret
  exact ⟨rfl, X1.out⟩
end Go.Proofs.YtmcllndnjdemaaaGreatDoor.Walk
