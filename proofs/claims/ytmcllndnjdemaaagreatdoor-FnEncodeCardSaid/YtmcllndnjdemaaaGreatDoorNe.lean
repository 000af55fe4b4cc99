/- impl.streamInfo, flac.NewEncoder. -/
import Derived.Test.YtmcllndnjdemaaaGreatDoorEf
import Derived.Test.YtmcllndnjdemaaaGreatDoorHpAll
import Derived.Lib.SlBytesConst
namespace Go.Proofs.YtmcllndnjdemaaaGreatDoor.Walk
set_option linter.unusedVariables false
set_option linter.unusedSimpArgs false
open Go Go.RowKit Go.Proofs.YtmcllndnjdemaaaGreatDoorW.PrintWords Go.Proofs.YtmcllndnjdemaaaGreatDoorW.PrintLast Go.Proofs.YtmcllndnjdemaaaGreatDoorW.PrintMore Go.Proofs.YtmcllndnjdemaaaGreatDoor.Num Go.Proofs.YtmcllndnjdemaaaGreatDoor.Crc
def infCells (rt nc bp ns : Nat) : Array Value := #[.int .u16 16, .int .u16 4096, .int .u32 0, .int .u32 0, .int .u32 rt, .int .u8 nc, .int .u8 bp, .int .u64 ns, .int .u8 0, .int .u8 0, .int .u8 0, .int .u8 0, .int .u8 0, .int .u8 0, .int .u8 0, .int .u8 0, .int .u8 0, .int .u8 0, .int .u8 0, .int .u8 0, .int .u8 0, .int .u8 0, .int .u8 0, .int .u8 0]
set_option maxHeartbeats 2000000 in
set_option maxRecDepth 100000 in
theorem inf_make (rt nc bp ns : Nat) (w : World) (hrt : rt < 1048576) (hnc : nc ≤ 8) (hbp : bp ≤ 32) :
  Calls Tryz.prog 15 #[.agg #[.int .i64 16, .int .i64 4096, .int .i64 0, .int .i64 0, .int .i64 rt, .int .i64 nc, .int .i64 bp, .int .u64 ns, .slice none 0 0]] w fun e w' =>
   Below w.heap.size w w' ∧ ∃ gi, e = .returned (.pointer (some ⟨gi, 0, none⟩)) ∧ w.heap.size ≤ gi ∧ w'.heap[gi]? = some (.cells (infCells rt nc bp ns) 128 (0, 0)) := by
 have hcp : ∀ (a : Addr) (W : World), Sem.run Tryz.prog (Builtin.copy_ #[23, 23] 3 #[.slice (some a) 16 16, .slice none 0 0]) W = .ok (.int .i64 0) W := fun a W => by kernel_rfl
 go_enter Tryz.func15, Tryz.ntmps15
 go_wp2_with fail
 go_region
 go_wp2_with fail
 go_ret
 obtain ⟨w1, hw1⟩ : ∃ w1, w.alloc (.cells #[.int .i64 16, .int .i64 4096, .int .i64 0, .int .i64 0, .int .i64 rt, .int .i64 nc, .int .i64 bp, .int .u64 ns, .slice none 0 0] 41) = w1 := ⟨_, rfl⟩
 have hz : w1.heap.size = w.heap.size + 1 := by rw [← hw1, World.size_alloc]
 have b1 : Below w.heap.size w w1 := by rw [← hw1]; exact below_alloc (Below.refl _ _) _
 rw [hw1]
 refine ⟨(below_alloc b1 _).drew, w.heap.size + 1, rfl, by omega, ?_⟩
 rw [← hz]
 exact heap_alloc_new w1 (.cells (infCells rt nc bp ns) 128)
def infoBits (rt nc bp ns : Nat) : List Nat :=
 ((((((((((((bytesBits [102, 76, 97, 67] ++ bts 1 1) ++ bts 0 7) ++ bts 34 24) ++ bts 16 16) ++ bts 4096 16) ++ bts 0 24) ++ bts 0 24) ++ bts rt 20) ++ bts (nc - 1) 3) ++ bts (bp - 1) 5) ++ bts ns 36) ++ bytesBits (List.replicate 16 0))
theorem Wb.tyB {B b : Nat} {p : List Int} {w : World} {gw : Nat} {bs : List Nat} (h : Wb (buf_snk B b) p gw bs w) : Ty w (gw :: [b]) := by
 obtain ⟨s, h1, _⟩ := h
 obtain ⟨_, v, lr, hbk, _⟩ := h1.st
 intro k hk
 simp only [List.mem_cons, List.not_mem_nil, or_false] at hk
 rcases hk with rfl | rfl
 ·exact ⟨_, _, _, h1.blk, by decide⟩
 ·exact ⟨_, _, _, hbk, by decide⟩
set_option maxHeartbeats 8000000 in
set_option maxRecDepth 100000 in
theorem new_enc {B b gi rt nc bp ns : Nat} {w : World} (hbuf : Buf B b w []) (hB : B ≤ w.heap.size) (hi : w.heap[gi]? = some (.cells (infCells rt nc bp ns) 128 (0, 0))) (hrt : rt < 1048576) (hnc0 : 0 < nc) (hnc : nc ≤ 8) (hbp0 : 0 < bp) (hbp : bp ≤ 32) (hns : ns ≤ 1000000) :
  Calls Tryz.prog 14 #[.iface 69 (.pointer (some ⟨b, 0, none⟩)), .pointer (some ⟨gi, 0, none⟩), .slice none 0 0] w fun e w' =>
   ∃ ge gst I, e = .returned (.tuple #[.pointer (some ⟨ge, 0, none⟩), .nilIface]) ∧ w.heap.size ≤ ge ∧ bytesBits I = infoBits rt nc bp ns ∧ (∀ x ∈ I, 0 ≤ x ∧ x ≤ 255) ∧ Buf B b w' I ∧ Kp B [b] w w' ∧
    w'.heap[ge]? = some (.cells #[.pointer (some ⟨gst, 0, none⟩), .iface 69 (.pointer (some ⟨b, 0, none⟩)), .int .u16 0, .int .u16 0, .int .u32 0, .int .u32 0, .int .u64 0, .int .u64 0, .bool true] 116 (0, 0)) ∧
    (∃ v1 v2, w'.heap[gst]? = some (.cells #[.pointer (some ⟨gi, 0, none⟩), v1, v2] 114 (0, 0))) := by
 have HH := Lib.hid (And.intro hbuf hi)
 clear hbuf hi
 go_enter Tryz.func14, Tryz.ntmps14
 go_wp2_with fail
 obtain ⟨w1, hw1⟩ : ∃ w1, (w.alloc (.cells #[.pointer (some ⟨gi, 0, none⟩), .slice none 0 0, .nilIface] 114)).alloc (.cells #[.pointer (some ⟨w.heap.size, 0, none⟩), .iface 69 (.pointer (some ⟨b, 0, none⟩)), .int .u16 0, .int .u16 0, .int .u32 0, .int .u32 0, .int .u64 0, .int .u64 0, .bool true] 116) = w1 := ⟨_, rfl⟩
 obtain ⟨gst, hgst⟩ : ∃ gst, w.heap.size = gst := ⟨_, rfl⟩
 have b1 : Below w.heap.size w w1 := by rw [← hw1]; exact below_alloc (below_alloc (Below.refl _ _) _) _
 have hs1 : w1.heap[gst]? = some (.cells #[.pointer (some ⟨gi, 0, none⟩), .slice none 0 0, .nilIface] 114 (0, 0)) := by
  rw [← hw1, Below.heap_alloc _ _ _ (by rw [World.size_alloc]; omega), ← hgst]; exact heap_alloc_new _ _
 have he1 : w1.heap[gst + 1]? = some (.cells #[.pointer (some ⟨gst, 0, none⟩), .iface 69 (.pointer (some ⟨b, 0, none⟩)), .int .u16 0, .int .u16 0, .int .u32 0, .int .u32 0, .int .u64 0, .int .u64 0, .bool true] 116 (0, 0)) := by
  have h1 := heap_alloc_new (w.alloc (.cells #[.pointer (some ⟨gi, 0, none⟩), .slice none 0 0, .nilIface] 114)) (.cells #[.pointer (some ⟨w.heap.size, 0, none⟩), .iface 69 (.pointer (some ⟨b, 0, none⟩)), .int .u16 0, .int .u16 0, .int .u32 0, .int .u32 0, .int .u64 0, .int .u64 0, .bool true] 116)
  rw [World.size_alloc] at h1
  rw [← hw1, ← hgst]; exact h1
 have t1 : Touch [] w w1 := Touch.of_below b1
 have X1 := Lib.hid (And.intro (HH.out.1.move t1 (by simp)) (And.intro t1 (And.intro hs1 (And.intro he1 (t1.heap HH.out.2 (by simp))))))
 have HGS := Lib.hid hgst
 rw [hw1, hgst]
 have hB1 : B ≤ w1.heap.size := Nat.le_trans hB t1.size
 clear hw1 hgst b1 hs1 he1 t1
 refine (newWb (R := buf_snk B b) X1.out.1 hB1).mono ?_
 rintro e w2 ⟨gw, rfl, hwb, t12, hgw⟩
 have X2 := Lib.hid (And.intro hwb (And.intro (X1.out.2.1.trans t12) (And.intro (t12.heap X1.out.2.2.1 (by simp)) (And.intro (t12.heap X1.out.2.2.2.1 (by simp)) (And.intro (t12.heap X1.out.2.2.2.2 (by simp)) hgw)))))
 clear hwb t12 hgw
 have hcv := fun (w : World) (C : Array Value) (n c : Nat) => Lib.run_convert_bytes_const (P := Tryz.prog) w 23 5 C n c Tryz.underlying23 Tryz.underlying5
 go_wp2_with fail
 obtain ⟨w3, hw3⟩ : ∃ w3, w2.alloc (.cells #[.int .u8 102, .int .u8 76, .int .u8 97, .int .u8 67] 5 (4, 5)) = w3 := ⟨_, rfl⟩
 have t23 : Touch [] w2 w3 := by rw [← hw3]; exact (Touch.refl [] w2).alloc _
 have hsg : w3.heap[w2.heap.size]? = some (.cells #[.int .u8 102, .int .u8 76, .int .u8 97, .int .u8 67] 5 (4, 5)) := by rw [← hw3]; exact heap_alloc_new _ _
 rw [hw3]
 have hwb3 := X2.out.1.move t23 (by simp)
 obtain ⟨o0, ha0, hob0, hol0⟩ := wb_al hwb3 rfl
 obtain rfl : o0 = [] := List.eq_nil_of_length_eq_zero (by simp only [List.length_nil] at hol0; omega)
 have hB3 : B ≤ w3.heap.size := Nat.le_trans (Nat.le_trans hB X2.out.2.1.size) t23.size
 have hbw := X2.out.1.base.2
 have hbb := X2.out.1
 have hnb : w2.heap.size ∉ gw :: [b] := by
  obtain ⟨s, hs, _⟩ := hbb
  have h1 := ((buf_snk B b).lt w2 _ hs.st b (by simp)).1
  simp; omega
 have HAW := Lib.hid (al_write (buf_snk B b) gw w3 [] [102, 76, 97, 67] ⟨w2.heap.size, 0, none⟩ 4 4 ha0 hB3 ⟨rfl, by decide, fun _ => ⟨_, rfl, fun i hi => by
  rcases i with _ | _ | _ | _ | i
  all_goals first | (exfalso; omega) | (refine (cell_of_row w3 w2.heap.size _ _ _ _ hsg).trans ?_; rfl)⟩⟩ (by decide) hnb (by decide) (by decide))
 have X3 := Lib.hid (And.intro (X2.out.2.1.trans t23) (And.intro (t23.heap X2.out.2.2.1 (by simp)) (And.intro (t23.heap X2.out.2.2.2.1 (by simp)) (t23.heap X2.out.2.2.2.2.1 (by simp)))))
 have HTY := Lib.hid hwb3.tyB
 clear hw3 t23 hsg hwb3 ha0 hob0 hol0 hbw hbb hnb
 refine HAW.out.mono ?_
 rintro e w4 ⟨rfl, hal, hk⟩
 have hnc2 : nc - 1 + 1 = nc := by omega
 have hbp2 : bp - 1 + 1 = bp := by omega
 have hi4 := hk.keep gi _ X3.out.2.2.2 (HTY.out.ne X3.out.2.2.2 (by decide)) (notU8 (by decide))
 have hs4 := hk.keep gst _ X3.out.2.1 (HTY.out.ne X3.out.2.1 (by decide)) (notU8 (by decide))
 have he4 := hk.keep (gst + 1) _ X3.out.2.2.1 (HTY.out.ne X3.out.2.2.1 (by decide)) (notU8 (by decide))
 have hwb4 := al_wb hal
 rw [List.nil_append] at hwb4
 have hB4 : B ≤ w4.heap.size := Nat.le_trans hB3 hk.bel.size
 have HSI := Lib.hid (stream_info hwb4 hB4 gi true rfl (by decide) 16 4096 0 0 rt (nc - 1) (bp - 1) ns (List.replicate 16 0) rfl (by simp) (by decide) (by decide) (by decide) (by decide) (by omega) (by omega) (by omega) (by omega) (by rw [hnc2, hbp2]; exact hi4) (hwb4.tyB.ne hi4 (by decide)))
 have X4 := Lib.hid (And.intro hk (And.intro hs4 (And.intro he4 (And.intro hi4 hwb4.tyB))))
 clear hi4 hs4 he4 hwb4 hk hnc2 hbp2 hal
 go_wp2_with fail
 refine HSI.out.mono ?_
 rintro e w5 ⟨rfl, hwb5, hk5⟩
 have hs5 := hk5.keep gst _ X4.out.2.1 (X4.out.2.2.2.2.ne X4.out.2.1 (by decide)) (notU8 (by decide))
 have he5 := hk5.keep (gst + 1) _ X4.out.2.2.1 (X4.out.2.2.2.2.ne X4.out.2.2.1 (by decide)) (notU8 (by decide))
 obtain ⟨I, hal, hob, hol⟩ := wb_al hwb5 (by simp only [List.length_append, bts_len, bytesBits_len, List.length_replicate, List.length_cons, List.length_nil])
 have HAA := Lib.hid (al_align hal.cell)
 have X5 := Lib.hid (And.intro hal (And.intro hob (And.intro hk5 (And.intro hs5 he5))))
 clear hwb5 hk5 hs5 he5 hal hob hol
 go_wp2_with fail
 refine wp_loop_rounds 1 ?_
 rw [rounds_succ]
 go_wp2_with fail
 refine HAA.out.mono ?_
 rintro e w6 ⟨rfl, rfl⟩
 go_wp2_with fail
 go_ret2
 have hbk := X5.out.1.st
 rw [List.nil_append] at hbk
 have hgw := X2.out.2.2.2.2.2
 have hsz := X2.out.2.1.size
 have hz1 := X1.out.2.1.size
 have hbl := HH.out.1.fact.1
 have hkk : Kp B [b] w w5 := by
  refine Kp.after X3.out.1 hB (X4.out.1.trans X5.out.2.2.1) (fun k hk hlt => ?_)
  simp only [List.mem_cons, List.not_mem_nil, or_false] at hk ⊢
  omega
 exact ⟨gst + 1, gst, I, rfl, by have := HGS.out; omega, X5.out.2.1, X5.out.1.by_, hbk, hkk, X5.out.2.2.2.2, _, _, X5.out.2.2.2.1⟩
end Go.Proofs.YtmcllndnjdemaaaGreatDoor.Walk
