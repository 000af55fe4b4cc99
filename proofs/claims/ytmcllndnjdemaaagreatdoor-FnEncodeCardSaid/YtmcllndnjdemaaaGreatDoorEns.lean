/- utf8.Encode into any sink. Printed by wip/ens.py. -/
import Derived.Test.YtmcllndnjdemaaaGreatDoorSnkAll
import Derived.Test.YtmcllndnjdemaaaGreatDoorCod
import Derived.Outline
namespace Go.Proofs.YtmcllndnjdemaaaGreatDoor.Walk
set_option linter.unusedVariables false
set_option linter.unusedSimpArgs false
open Go Go.RowKit Go.Proofs.YtmcllndnjdemaaaGreatDoorW.PrintWords Go.Proofs.YtmcllndnjdemaaaGreatDoor.Num
variable {ty fn g B : Nat} {S : List Nat} {St : World → List Int → Prop}
theorem and63 (y : Nat) (h : y < 18446744073709551616) : Go.bits .and .u64 (y : Int) 63 = ((y % 64 : Nat) : Int) := by
 rw [u64_and _ _ (by omega) (by omega) (by decide) (by decide)]
 show ((y &&& (2 ^ 6 - 1) : Nat) : Int) = _
 rw [Nat.and_two_pow_sub_one_eq_mod]
theorem or128 (z : Nat) (h : z < 64) : Go.bits .or .u64 128 (z : Int) = ((128 + z : Nat) : Int) := by
 have e2 : Go.bits .or .u64 (1 * 2 ^ 7) (z : Int) = 1 * 2 ^ 7 + (z : Int) := or_u64_add 1 _ 7 (by omega) (by omega) (by omega) (by omega)
 rw [show ((128 : Int)) = 1 * 2 ^ 7 from rfl, e2]
 omega
set_option maxHeartbeats 4000000 in
set_option maxRecDepth 100000 in
theorem enc1 (R : Snk ty fn g B S St) (v : Nat) (xs : List Int) (w : World) (h : St w xs) (hB : B ≤ w.heap.size) (hlim : xs.length ≤ 60000000000000) (hlo : 128 ≤ v) (hhi : v < 2048) :
  Calls Tryz.prog 79 #[.iface ty (.pointer (some ⟨g, 0, none⟩)), .int .u64 v] w fun e w' =>
   e = .returned .nilIface ∧ St w' (xs ++ (((192 + v / 64 ^ 1 : Nat) : Int) :: tail v 1)) ∧ Kp B S w w' := by
 have HH := Lib.hid h
 clear h
 obtain ⟨f, hf⟩ : ∃ f, 192 + v / 64 ^ 1 = f := ⟨_, rfl⟩
 have hfb : f < 256 := by omega
 obtain ⟨y, hy⟩ : ∃ y, v / 64 ^ 1 = y := ⟨_, rfl⟩
 have hyb : y ≤ 31 := by omega
 have hq : (v : Int) / 64 = (y : Int) := by omega
 have hand : Go.bits .and .u64 (y : Int) 31 = (y : Int) := by
  rw [u64_and _ _ (by omega) (by omega) (by decide) (by decide)]
  show ((y &&& (2 ^ 5 - 1) : Nat) : Int) = _
  rw [Nat.and_two_pow_sub_one_eq_mod]; omega
 have hor : Go.bits .or .u64 192 (y : Int) = (f : Int) := by
  have e2 : Go.bits .or .u64 (6 * 2 ^ 5) (y : Int) = 6 * 2 ^ 5 + (y : Int) := or_u64_add 6 _ 5 (by omega) (by omega) (by omega) (by omega)
  rw [show ((192 : Int)) = 6 * 2 ^ 5 from rfl, e2]
  omega
 rw [hf]
 have ht127 : decide ((v : Int) ≤ 127) = false := by simp; omega
 have ht2047 : decide ((v : Int) ≤ 2047) = true := by simp; omega
 clear hf hy
 obtain ⟨y0, hy0⟩ : ∃ y, v / 64 ^ 0 = y := ⟨_, rfl⟩
 have hq0 : (v : Int) / 1 = (y0 : Int) := by omega
 have hn0 := and63 y0 (by omega)
 obtain ⟨z0, hz0⟩ : ∃ z, y0 % 64 = z := ⟨_, rfl⟩
 rw [hz0] at hn0
 have hr0 := or128 z0 (by omega)
 obtain ⟨t0, hT0⟩ : ∃ t, 128 + z0 = t := ⟨_, rfl⟩
 rw [hT0] at hr0
 have hb0 : t0 < 256 := by omega
 have HT0 := Lib.hid (show 128 + v / 64 ^ 0 % 64 = t0 by rw [hy0, hz0, hT0])
 clear hy0 hz0 hT0
 go_enter Tryz.func79, Tryz.ntmps79
 go_wp2_with fail
 refine (snk_byte R f xs w HH.out hB (by omega) (by omega)).mono ?_
 rintro e w1 ⟨rfl, hb1, hbe1⟩
 have X1 := Lib.hid (And.intro hb1 hbe1)
 clear hb1 hbe1
 go_wp2_with fail
 refine wp_loop_rounds 2 ?_
 rw [rounds_succ]
 go_wp2_with fail
 refine (snk_byte R t0 (xs ++ [(f : Int)]) w1 X1.out.1 (Nat.le_trans hB X1.out.2.bel.size) (by omega) (by simp; omega)).mono ?_
 rintro e v0 ⟨rfl, hb, hbe⟩
 have Y0 := Lib.hid (And.intro hb (X1.out.2.trans hbe))
 clear hb hbe
 go_wp2_with fail
 rw [rounds_succ]
 go_wp2_with fail
 go_ret
 refine ⟨rfl, ?_, Y0.out.2⟩
 have h := Y0.out.1
 simp only [tail, HT0.out]
 simpa [List.append_assoc] using h
set_option maxHeartbeats 4000000 in
set_option maxRecDepth 100000 in
theorem enc2 (R : Snk ty fn g B S St) (v : Nat) (xs : List Int) (w : World) (h : St w xs) (hB : B ≤ w.heap.size) (hlim : xs.length ≤ 60000000000000) (hlo : 2048 ≤ v) (hhi : v < 65536) :
  Calls Tryz.prog 79 #[.iface ty (.pointer (some ⟨g, 0, none⟩)), .int .u64 v] w fun e w' =>
   e = .returned .nilIface ∧ St w' (xs ++ (((224 + v / 64 ^ 2 : Nat) : Int) :: tail v 2)) ∧ Kp B S w w' := by
 have HH := Lib.hid h
 clear h
 obtain ⟨f, hf⟩ : ∃ f, 224 + v / 64 ^ 2 = f := ⟨_, rfl⟩
 have hfb : f < 256 := by omega
 obtain ⟨y, hy⟩ : ∃ y, v / 64 ^ 2 = y := ⟨_, rfl⟩
 have hyb : y ≤ 15 := by omega
 have hq : (v : Int) / 4096 = (y : Int) := by omega
 have hand : Go.bits .and .u64 (y : Int) 15 = (y : Int) := by
  rw [u64_and _ _ (by omega) (by omega) (by decide) (by decide)]
  show ((y &&& (2 ^ 4 - 1) : Nat) : Int) = _
  rw [Nat.and_two_pow_sub_one_eq_mod]; omega
 have hor : Go.bits .or .u64 224 (y : Int) = (f : Int) := by
  have e2 : Go.bits .or .u64 (14 * 2 ^ 4) (y : Int) = 14 * 2 ^ 4 + (y : Int) := or_u64_add 14 _ 4 (by omega) (by omega) (by omega) (by omega)
  rw [show ((224 : Int)) = 14 * 2 ^ 4 from rfl, e2]
  omega
 rw [hf]
 have ht127 : decide ((v : Int) ≤ 127) = false := by simp; omega
 have ht2047 : decide ((v : Int) ≤ 2047) = false := by simp; omega
 have ht65535 : decide ((v : Int) ≤ 65535) = true := by simp; omega
 clear hf hy
 obtain ⟨y0, hy0⟩ : ∃ y, v / 64 ^ 0 = y := ⟨_, rfl⟩
 have hq0 : (v : Int) / 1 = (y0 : Int) := by omega
 have hn0 := and63 y0 (by omega)
 obtain ⟨z0, hz0⟩ : ∃ z, y0 % 64 = z := ⟨_, rfl⟩
 rw [hz0] at hn0
 have hr0 := or128 z0 (by omega)
 obtain ⟨t0, hT0⟩ : ∃ t, 128 + z0 = t := ⟨_, rfl⟩
 rw [hT0] at hr0
 have hb0 : t0 < 256 := by omega
 have HT0 := Lib.hid (show 128 + v / 64 ^ 0 % 64 = t0 by rw [hy0, hz0, hT0])
 clear hy0 hz0 hT0
 obtain ⟨y1, hy1⟩ : ∃ y, v / 64 ^ 1 = y := ⟨_, rfl⟩
 have hq1 : (v : Int) / 64 = (y1 : Int) := by omega
 have hn1 := and63 y1 (by omega)
 obtain ⟨z1, hz1⟩ : ∃ z, y1 % 64 = z := ⟨_, rfl⟩
 rw [hz1] at hn1
 have hr1 := or128 z1 (by omega)
 obtain ⟨t1, hT1⟩ : ∃ t, 128 + z1 = t := ⟨_, rfl⟩
 rw [hT1] at hr1
 have hb1 : t1 < 256 := by omega
 have HT1 := Lib.hid (show 128 + v / 64 ^ 1 % 64 = t1 by rw [hy1, hz1, hT1])
 clear hy1 hz1 hT1
 go_enter Tryz.func79, Tryz.ntmps79
 go_wp2_with fail
 refine (snk_byte R f xs w HH.out hB (by omega) (by omega)).mono ?_
 rintro e w1 ⟨rfl, hb1, hbe1⟩
 have X1 := Lib.hid (And.intro hb1 hbe1)
 clear hb1 hbe1
 go_wp2_with fail
 refine wp_loop_rounds 3 ?_
 rw [rounds_succ]
 go_wp2_with fail
 refine (snk_byte R t1 (xs ++ [(f : Int)]) w1 X1.out.1 (Nat.le_trans hB X1.out.2.bel.size) (by omega) (by simp; omega)).mono ?_
 rintro e v1 ⟨rfl, hb, hbe⟩
 have Y1 := Lib.hid (And.intro hb (X1.out.2.trans hbe))
 clear hb hbe
 go_wp2_with fail
 rw [rounds_succ]
 go_wp2_with fail
 refine (snk_byte R t0 ((xs ++ [(f : Int)]) ++ [(t1 : Int)]) v1 Y1.out.1 (Nat.le_trans hB Y1.out.2.bel.size) (by omega) (by simp; omega)).mono ?_
 rintro e v0 ⟨rfl, hb, hbe⟩
 have Y0 := Lib.hid (And.intro hb (Y1.out.2.trans hbe))
 clear hb hbe
 go_wp2_with fail
 rw [rounds_succ]
 go_wp2_with fail
 go_ret
 refine ⟨rfl, ?_, Y0.out.2⟩
 have h := Y0.out.1
 simp only [tail, HT0.out, HT1.out]
 simpa [List.append_assoc] using h
set_option maxHeartbeats 4000000 in
set_option maxRecDepth 100000 in
theorem enc3 (R : Snk ty fn g B S St) (v : Nat) (xs : List Int) (w : World) (h : St w xs) (hB : B ≤ w.heap.size) (hlim : xs.length ≤ 60000000000000) (hlo : 65536 ≤ v) (hhi : v < 2097152) :
  Calls Tryz.prog 79 #[.iface ty (.pointer (some ⟨g, 0, none⟩)), .int .u64 v] w fun e w' =>
   e = .returned .nilIface ∧ St w' (xs ++ (((240 + v / 64 ^ 3 : Nat) : Int) :: tail v 3)) ∧ Kp B S w w' := by
 have HH := Lib.hid h
 clear h
 obtain ⟨f, hf⟩ : ∃ f, 240 + v / 64 ^ 3 = f := ⟨_, rfl⟩
 have hfb : f < 256 := by omega
 obtain ⟨y, hy⟩ : ∃ y, v / 64 ^ 3 = y := ⟨_, rfl⟩
 have hyb : y ≤ 7 := by omega
 have hq : (v : Int) / 262144 = (y : Int) := by omega
 have hand : Go.bits .and .u64 (y : Int) 7 = (y : Int) := by
  rw [u64_and _ _ (by omega) (by omega) (by decide) (by decide)]
  show ((y &&& (2 ^ 3 - 1) : Nat) : Int) = _
  rw [Nat.and_two_pow_sub_one_eq_mod]; omega
 have hor : Go.bits .or .u64 240 (y : Int) = (f : Int) := by
  have e2 : Go.bits .or .u64 (30 * 2 ^ 3) (y : Int) = 30 * 2 ^ 3 + (y : Int) := or_u64_add 30 _ 3 (by omega) (by omega) (by omega) (by omega)
  rw [show ((240 : Int)) = 30 * 2 ^ 3 from rfl, e2]
  omega
 rw [hf]
 have ht127 : decide ((v : Int) ≤ 127) = false := by simp; omega
 have ht2047 : decide ((v : Int) ≤ 2047) = false := by simp; omega
 have ht65535 : decide ((v : Int) ≤ 65535) = false := by simp; omega
 have ht2097151 : decide ((v : Int) ≤ 2097151) = true := by simp; omega
 clear hf hy
 obtain ⟨y0, hy0⟩ : ∃ y, v / 64 ^ 0 = y := ⟨_, rfl⟩
 have hq0 : (v : Int) / 1 = (y0 : Int) := by omega
 have hn0 := and63 y0 (by omega)
 obtain ⟨z0, hz0⟩ : ∃ z, y0 % 64 = z := ⟨_, rfl⟩
 rw [hz0] at hn0
 have hr0 := or128 z0 (by omega)
 obtain ⟨t0, hT0⟩ : ∃ t, 128 + z0 = t := ⟨_, rfl⟩
 rw [hT0] at hr0
 have hb0 : t0 < 256 := by omega
 have HT0 := Lib.hid (show 128 + v / 64 ^ 0 % 64 = t0 by rw [hy0, hz0, hT0])
 clear hy0 hz0 hT0
 obtain ⟨y1, hy1⟩ : ∃ y, v / 64 ^ 1 = y := ⟨_, rfl⟩
 have hq1 : (v : Int) / 64 = (y1 : Int) := by omega
 have hn1 := and63 y1 (by omega)
 obtain ⟨z1, hz1⟩ : ∃ z, y1 % 64 = z := ⟨_, rfl⟩
 rw [hz1] at hn1
 have hr1 := or128 z1 (by omega)
 obtain ⟨t1, hT1⟩ : ∃ t, 128 + z1 = t := ⟨_, rfl⟩
 rw [hT1] at hr1
 have hb1 : t1 < 256 := by omega
 have HT1 := Lib.hid (show 128 + v / 64 ^ 1 % 64 = t1 by rw [hy1, hz1, hT1])
 clear hy1 hz1 hT1
 obtain ⟨y2, hy2⟩ : ∃ y, v / 64 ^ 2 = y := ⟨_, rfl⟩
 have hq2 : (v : Int) / 4096 = (y2 : Int) := by omega
 have hn2 := and63 y2 (by omega)
 obtain ⟨z2, hz2⟩ : ∃ z, y2 % 64 = z := ⟨_, rfl⟩
 rw [hz2] at hn2
 have hr2 := or128 z2 (by omega)
 obtain ⟨t2, hT2⟩ : ∃ t, 128 + z2 = t := ⟨_, rfl⟩
 rw [hT2] at hr2
 have hb2 : t2 < 256 := by omega
 have HT2 := Lib.hid (show 128 + v / 64 ^ 2 % 64 = t2 by rw [hy2, hz2, hT2])
 clear hy2 hz2 hT2
 go_enter Tryz.func79, Tryz.ntmps79
 go_wp2_with fail
 refine (snk_byte R f xs w HH.out hB (by omega) (by omega)).mono ?_
 rintro e w1 ⟨rfl, hb1, hbe1⟩
 have X1 := Lib.hid (And.intro hb1 hbe1)
 clear hb1 hbe1
 go_wp2_with fail
 refine wp_loop_rounds 4 ?_
 rw [rounds_succ]
 go_wp2_with fail
 refine (snk_byte R t2 (xs ++ [(f : Int)]) w1 X1.out.1 (Nat.le_trans hB X1.out.2.bel.size) (by omega) (by simp; omega)).mono ?_
 rintro e v2 ⟨rfl, hb, hbe⟩
 have Y2 := Lib.hid (And.intro hb (X1.out.2.trans hbe))
 clear hb hbe
 go_wp2_with fail
 rw [rounds_succ]
 go_wp2_with fail
 refine (snk_byte R t1 ((xs ++ [(f : Int)]) ++ [(t2 : Int)]) v2 Y2.out.1 (Nat.le_trans hB Y2.out.2.bel.size) (by omega) (by simp; omega)).mono ?_
 rintro e v1 ⟨rfl, hb, hbe⟩
 have Y1 := Lib.hid (And.intro hb (Y2.out.2.trans hbe))
 clear hb hbe
 go_wp2_with fail
 rw [rounds_succ]
 go_wp2_with fail
 refine (snk_byte R t0 (((xs ++ [(f : Int)]) ++ [(t2 : Int)]) ++ [(t1 : Int)]) v1 Y1.out.1 (Nat.le_trans hB Y1.out.2.bel.size) (by omega) (by simp; omega)).mono ?_
 rintro e v0 ⟨rfl, hb, hbe⟩
 have Y0 := Lib.hid (And.intro hb (Y1.out.2.trans hbe))
 clear hb hbe
 go_wp2_with fail
 rw [rounds_succ]
 go_wp2_with fail
 go_ret
 refine ⟨rfl, ?_, Y0.out.2⟩
 have h := Y0.out.1
 simp only [tail, HT0.out, HT1.out, HT2.out]
 simpa [List.append_assoc] using h
set_option maxHeartbeats 4000000 in
set_option maxRecDepth 100000 in
theorem enc4 (R : Snk ty fn g B S St) (v : Nat) (xs : List Int) (w : World) (h : St w xs) (hB : B ≤ w.heap.size) (hlim : xs.length ≤ 60000000000000) (hlo : 2097152 ≤ v) (hhi : v < 67108864) :
  Calls Tryz.prog 79 #[.iface ty (.pointer (some ⟨g, 0, none⟩)), .int .u64 v] w fun e w' =>
   e = .returned .nilIface ∧ St w' (xs ++ (((248 + v / 64 ^ 4 : Nat) : Int) :: tail v 4)) ∧ Kp B S w w' := by
 have HH := Lib.hid h
 clear h
 obtain ⟨f, hf⟩ : ∃ f, 248 + v / 64 ^ 4 = f := ⟨_, rfl⟩
 have hfb : f < 256 := by omega
 obtain ⟨y, hy⟩ : ∃ y, v / 64 ^ 4 = y := ⟨_, rfl⟩
 have hyb : y ≤ 3 := by omega
 have hq : (v : Int) / 16777216 = (y : Int) := by omega
 have hand : Go.bits .and .u64 (y : Int) 3 = (y : Int) := by
  rw [u64_and _ _ (by omega) (by omega) (by decide) (by decide)]
  show ((y &&& (2 ^ 2 - 1) : Nat) : Int) = _
  rw [Nat.and_two_pow_sub_one_eq_mod]; omega
 have hor : Go.bits .or .u64 248 (y : Int) = (f : Int) := by
  have e2 : Go.bits .or .u64 (62 * 2 ^ 2) (y : Int) = 62 * 2 ^ 2 + (y : Int) := or_u64_add 62 _ 2 (by omega) (by omega) (by omega) (by omega)
  rw [show ((248 : Int)) = 62 * 2 ^ 2 from rfl, e2]
  omega
 rw [hf]
 have ht127 : decide ((v : Int) ≤ 127) = false := by simp; omega
 have ht2047 : decide ((v : Int) ≤ 2047) = false := by simp; omega
 have ht65535 : decide ((v : Int) ≤ 65535) = false := by simp; omega
 have ht2097151 : decide ((v : Int) ≤ 2097151) = false := by simp; omega
 have ht67108863 : decide ((v : Int) ≤ 67108863) = true := by simp; omega
 clear hf hy
 obtain ⟨y0, hy0⟩ : ∃ y, v / 64 ^ 0 = y := ⟨_, rfl⟩
 have hq0 : (v : Int) / 1 = (y0 : Int) := by omega
 have hn0 := and63 y0 (by omega)
 obtain ⟨z0, hz0⟩ : ∃ z, y0 % 64 = z := ⟨_, rfl⟩
 rw [hz0] at hn0
 have hr0 := or128 z0 (by omega)
 obtain ⟨t0, hT0⟩ : ∃ t, 128 + z0 = t := ⟨_, rfl⟩
 rw [hT0] at hr0
 have hb0 : t0 < 256 := by omega
 have HT0 := Lib.hid (show 128 + v / 64 ^ 0 % 64 = t0 by rw [hy0, hz0, hT0])
 clear hy0 hz0 hT0
 obtain ⟨y1, hy1⟩ : ∃ y, v / 64 ^ 1 = y := ⟨_, rfl⟩
 have hq1 : (v : Int) / 64 = (y1 : Int) := by omega
 have hn1 := and63 y1 (by omega)
 obtain ⟨z1, hz1⟩ : ∃ z, y1 % 64 = z := ⟨_, rfl⟩
 rw [hz1] at hn1
 have hr1 := or128 z1 (by omega)
 obtain ⟨t1, hT1⟩ : ∃ t, 128 + z1 = t := ⟨_, rfl⟩
 rw [hT1] at hr1
 have hb1 : t1 < 256 := by omega
 have HT1 := Lib.hid (show 128 + v / 64 ^ 1 % 64 = t1 by rw [hy1, hz1, hT1])
 clear hy1 hz1 hT1
 obtain ⟨y2, hy2⟩ : ∃ y, v / 64 ^ 2 = y := ⟨_, rfl⟩
 have hq2 : (v : Int) / 4096 = (y2 : Int) := by omega
 have hn2 := and63 y2 (by omega)
 obtain ⟨z2, hz2⟩ : ∃ z, y2 % 64 = z := ⟨_, rfl⟩
 rw [hz2] at hn2
 have hr2 := or128 z2 (by omega)
 obtain ⟨t2, hT2⟩ : ∃ t, 128 + z2 = t := ⟨_, rfl⟩
 rw [hT2] at hr2
 have hb2 : t2 < 256 := by omega
 have HT2 := Lib.hid (show 128 + v / 64 ^ 2 % 64 = t2 by rw [hy2, hz2, hT2])
 clear hy2 hz2 hT2
 obtain ⟨y3, hy3⟩ : ∃ y, v / 64 ^ 3 = y := ⟨_, rfl⟩
 have hq3 : (v : Int) / 262144 = (y3 : Int) := by omega
 have hn3 := and63 y3 (by omega)
 obtain ⟨z3, hz3⟩ : ∃ z, y3 % 64 = z := ⟨_, rfl⟩
 rw [hz3] at hn3
 have hr3 := or128 z3 (by omega)
 obtain ⟨t3, hT3⟩ : ∃ t, 128 + z3 = t := ⟨_, rfl⟩
 rw [hT3] at hr3
 have hb3 : t3 < 256 := by omega
 have HT3 := Lib.hid (show 128 + v / 64 ^ 3 % 64 = t3 by rw [hy3, hz3, hT3])
 clear hy3 hz3 hT3
 go_enter Tryz.func79, Tryz.ntmps79
 go_wp2_with fail
 refine (snk_byte R f xs w HH.out hB (by omega) (by omega)).mono ?_
 rintro e w1 ⟨rfl, hb1, hbe1⟩
 have X1 := Lib.hid (And.intro hb1 hbe1)
 clear hb1 hbe1
 go_wp2_with fail
 refine wp_loop_rounds 5 ?_
 rw [rounds_succ]
 go_wp2_with fail
 refine (snk_byte R t3 (xs ++ [(f : Int)]) w1 X1.out.1 (Nat.le_trans hB X1.out.2.bel.size) (by omega) (by simp; omega)).mono ?_
 rintro e v3 ⟨rfl, hb, hbe⟩
 have Y3 := Lib.hid (And.intro hb (X1.out.2.trans hbe))
 clear hb hbe
 go_wp2_with fail
 rw [rounds_succ]
 go_wp2_with fail
 refine (snk_byte R t2 ((xs ++ [(f : Int)]) ++ [(t3 : Int)]) v3 Y3.out.1 (Nat.le_trans hB Y3.out.2.bel.size) (by omega) (by simp; omega)).mono ?_
 rintro e v2 ⟨rfl, hb, hbe⟩
 have Y2 := Lib.hid (And.intro hb (Y3.out.2.trans hbe))
 clear hb hbe
 go_wp2_with fail
 rw [rounds_succ]
 go_wp2_with fail
 refine (snk_byte R t1 (((xs ++ [(f : Int)]) ++ [(t3 : Int)]) ++ [(t2 : Int)]) v2 Y2.out.1 (Nat.le_trans hB Y2.out.2.bel.size) (by omega) (by simp; omega)).mono ?_
 rintro e v1 ⟨rfl, hb, hbe⟩
 have Y1 := Lib.hid (And.intro hb (Y2.out.2.trans hbe))
 clear hb hbe
 go_wp2_with fail
 rw [rounds_succ]
 go_wp2_with fail
 refine (snk_byte R t0 ((((xs ++ [(f : Int)]) ++ [(t3 : Int)]) ++ [(t2 : Int)]) ++ [(t1 : Int)]) v1 Y1.out.1 (Nat.le_trans hB Y1.out.2.bel.size) (by omega) (by simp; omega)).mono ?_
 rintro e v0 ⟨rfl, hb, hbe⟩
 have Y0 := Lib.hid (And.intro hb (Y1.out.2.trans hbe))
 clear hb hbe
 go_wp2_with fail
 rw [rounds_succ]
 go_wp2_with fail
 go_ret
 refine ⟨rfl, ?_, Y0.out.2⟩
 have h := Y0.out.1
 simp only [tail, HT0.out, HT1.out, HT2.out, HT3.out]
 simpa [List.append_assoc] using h
set_option maxHeartbeats 4000000 in
set_option maxRecDepth 100000 in
theorem enc5 (R : Snk ty fn g B S St) (v : Nat) (xs : List Int) (w : World) (h : St w xs) (hB : B ≤ w.heap.size) (hlim : xs.length ≤ 60000000000000) (hlo : 67108864 ≤ v) (hhi : v < 2147483648) :
  Calls Tryz.prog 79 #[.iface ty (.pointer (some ⟨g, 0, none⟩)), .int .u64 v] w fun e w' =>
   e = .returned .nilIface ∧ St w' (xs ++ (((252 + v / 64 ^ 5 : Nat) : Int) :: tail v 5)) ∧ Kp B S w w' := by
 have HH := Lib.hid h
 clear h
 obtain ⟨f, hf⟩ : ∃ f, 252 + v / 64 ^ 5 = f := ⟨_, rfl⟩
 have hfb : f < 256 := by omega
 obtain ⟨y, hy⟩ : ∃ y, v / 64 ^ 5 = y := ⟨_, rfl⟩
 have hyb : y ≤ 1 := by omega
 have hq : (v : Int) / 1073741824 = (y : Int) := by omega
 have hand : Go.bits .and .u64 (y : Int) 1 = (y : Int) := by
  rw [u64_and _ _ (by omega) (by omega) (by decide) (by decide)]
  show ((y &&& (2 ^ 1 - 1) : Nat) : Int) = _
  rw [Nat.and_two_pow_sub_one_eq_mod]; omega
 have hor : Go.bits .or .u64 252 (y : Int) = (f : Int) := by
  have e2 : Go.bits .or .u64 (126 * 2 ^ 1) (y : Int) = 126 * 2 ^ 1 + (y : Int) := or_u64_add 126 _ 1 (by omega) (by omega) (by omega) (by omega)
  rw [show ((252 : Int)) = 126 * 2 ^ 1 from rfl, e2]
  omega
 rw [hf]
 have ht127 : decide ((v : Int) ≤ 127) = false := by simp; omega
 have ht2047 : decide ((v : Int) ≤ 2047) = false := by simp; omega
 have ht65535 : decide ((v : Int) ≤ 65535) = false := by simp; omega
 have ht2097151 : decide ((v : Int) ≤ 2097151) = false := by simp; omega
 have ht67108863 : decide ((v : Int) ≤ 67108863) = false := by simp; omega
 have ht2147483647 : decide ((v : Int) ≤ 2147483647) = true := by simp; omega
 clear hf hy
 obtain ⟨y0, hy0⟩ : ∃ y, v / 64 ^ 0 = y := ⟨_, rfl⟩
 have hq0 : (v : Int) / 1 = (y0 : Int) := by omega
 have hn0 := and63 y0 (by omega)
 obtain ⟨z0, hz0⟩ : ∃ z, y0 % 64 = z := ⟨_, rfl⟩
 rw [hz0] at hn0
 have hr0 := or128 z0 (by omega)
 obtain ⟨t0, hT0⟩ : ∃ t, 128 + z0 = t := ⟨_, rfl⟩
 rw [hT0] at hr0
 have hb0 : t0 < 256 := by omega
 have HT0 := Lib.hid (show 128 + v / 64 ^ 0 % 64 = t0 by rw [hy0, hz0, hT0])
 clear hy0 hz0 hT0
 obtain ⟨y1, hy1⟩ : ∃ y, v / 64 ^ 1 = y := ⟨_, rfl⟩
 have hq1 : (v : Int) / 64 = (y1 : Int) := by omega
 have hn1 := and63 y1 (by omega)
 obtain ⟨z1, hz1⟩ : ∃ z, y1 % 64 = z := ⟨_, rfl⟩
 rw [hz1] at hn1
 have hr1 := or128 z1 (by omega)
 obtain ⟨t1, hT1⟩ : ∃ t, 128 + z1 = t := ⟨_, rfl⟩
 rw [hT1] at hr1
 have hb1 : t1 < 256 := by omega
 have HT1 := Lib.hid (show 128 + v / 64 ^ 1 % 64 = t1 by rw [hy1, hz1, hT1])
 clear hy1 hz1 hT1
 obtain ⟨y2, hy2⟩ : ∃ y, v / 64 ^ 2 = y := ⟨_, rfl⟩
 have hq2 : (v : Int) / 4096 = (y2 : Int) := by omega
 have hn2 := and63 y2 (by omega)
 obtain ⟨z2, hz2⟩ : ∃ z, y2 % 64 = z := ⟨_, rfl⟩
 rw [hz2] at hn2
 have hr2 := or128 z2 (by omega)
 obtain ⟨t2, hT2⟩ : ∃ t, 128 + z2 = t := ⟨_, rfl⟩
 rw [hT2] at hr2
 have hb2 : t2 < 256 := by omega
 have HT2 := Lib.hid (show 128 + v / 64 ^ 2 % 64 = t2 by rw [hy2, hz2, hT2])
 clear hy2 hz2 hT2
 obtain ⟨y3, hy3⟩ : ∃ y, v / 64 ^ 3 = y := ⟨_, rfl⟩
 have hq3 : (v : Int) / 262144 = (y3 : Int) := by omega
 have hn3 := and63 y3 (by omega)
 obtain ⟨z3, hz3⟩ : ∃ z, y3 % 64 = z := ⟨_, rfl⟩
 rw [hz3] at hn3
 have hr3 := or128 z3 (by omega)
 obtain ⟨t3, hT3⟩ : ∃ t, 128 + z3 = t := ⟨_, rfl⟩
 rw [hT3] at hr3
 have hb3 : t3 < 256 := by omega
 have HT3 := Lib.hid (show 128 + v / 64 ^ 3 % 64 = t3 by rw [hy3, hz3, hT3])
 clear hy3 hz3 hT3
 obtain ⟨y4, hy4⟩ : ∃ y, v / 64 ^ 4 = y := ⟨_, rfl⟩
 have hq4 : (v : Int) / 16777216 = (y4 : Int) := by omega
 have hn4 := and63 y4 (by omega)
 obtain ⟨z4, hz4⟩ : ∃ z, y4 % 64 = z := ⟨_, rfl⟩
 rw [hz4] at hn4
 have hr4 := or128 z4 (by omega)
 obtain ⟨t4, hT4⟩ : ∃ t, 128 + z4 = t := ⟨_, rfl⟩
 rw [hT4] at hr4
 have hb4 : t4 < 256 := by omega
 have HT4 := Lib.hid (show 128 + v / 64 ^ 4 % 64 = t4 by rw [hy4, hz4, hT4])
 clear hy4 hz4 hT4
 go_enter Tryz.func79, Tryz.ntmps79
 go_wp2_with fail
 refine (snk_byte R f xs w HH.out hB (by omega) (by omega)).mono ?_
 rintro e w1 ⟨rfl, hb1, hbe1⟩
 have X1 := Lib.hid (And.intro hb1 hbe1)
 clear hb1 hbe1
 go_wp2_with fail
 refine wp_loop_rounds 6 ?_
 rw [rounds_succ]
 go_wp2_with fail
 refine (snk_byte R t4 (xs ++ [(f : Int)]) w1 X1.out.1 (Nat.le_trans hB X1.out.2.bel.size) (by omega) (by simp; omega)).mono ?_
 rintro e v4 ⟨rfl, hb, hbe⟩
 have Y4 := Lib.hid (And.intro hb (X1.out.2.trans hbe))
 clear hb hbe
 go_wp2_with fail
 rw [rounds_succ]
 go_wp2_with fail
 refine (snk_byte R t3 ((xs ++ [(f : Int)]) ++ [(t4 : Int)]) v4 Y4.out.1 (Nat.le_trans hB Y4.out.2.bel.size) (by omega) (by simp; omega)).mono ?_
 rintro e v3 ⟨rfl, hb, hbe⟩
 have Y3 := Lib.hid (And.intro hb (Y4.out.2.trans hbe))
 clear hb hbe
 go_wp2_with fail
 rw [rounds_succ]
 go_wp2_with fail
 refine (snk_byte R t2 (((xs ++ [(f : Int)]) ++ [(t4 : Int)]) ++ [(t3 : Int)]) v3 Y3.out.1 (Nat.le_trans hB Y3.out.2.bel.size) (by omega) (by simp; omega)).mono ?_
 rintro e v2 ⟨rfl, hb, hbe⟩
 have Y2 := Lib.hid (And.intro hb (Y3.out.2.trans hbe))
 clear hb hbe
 go_wp2_with fail
 rw [rounds_succ]
 go_wp2_with fail
 refine (snk_byte R t1 ((((xs ++ [(f : Int)]) ++ [(t4 : Int)]) ++ [(t3 : Int)]) ++ [(t2 : Int)]) v2 Y2.out.1 (Nat.le_trans hB Y2.out.2.bel.size) (by omega) (by simp; omega)).mono ?_
 rintro e v1 ⟨rfl, hb, hbe⟩
 have Y1 := Lib.hid (And.intro hb (Y2.out.2.trans hbe))
 clear hb hbe
 go_wp2_with fail
 rw [rounds_succ]
 go_wp2_with fail
 refine (snk_byte R t0 (((((xs ++ [(f : Int)]) ++ [(t4 : Int)]) ++ [(t3 : Int)]) ++ [(t2 : Int)]) ++ [(t1 : Int)]) v1 Y1.out.1 (Nat.le_trans hB Y1.out.2.bel.size) (by omega) (by simp; omega)).mono ?_
 rintro e v0 ⟨rfl, hb, hbe⟩
 have Y0 := Lib.hid (And.intro hb (Y1.out.2.trans hbe))
 clear hb hbe
 go_wp2_with fail
 rw [rounds_succ]
 go_wp2_with fail
 go_ret
 refine ⟨rfl, ?_, Y0.out.2⟩
 have h := Y0.out.1
 simp only [tail, HT0.out, HT1.out, HT2.out, HT3.out, HT4.out]
 simpa [List.append_assoc] using h
set_option maxHeartbeats 1000000 in
set_option maxRecDepth 100000 in
theorem enc0 (R : Snk ty fn g B S St) (v : Nat) (xs : List Int) (w : World) (h : St w xs) (hB : B ≤ w.heap.size) (hlim : xs.length ≤ 60000000000000) (hhi : v < 128) :
  Calls Tryz.prog 79 #[.iface ty (.pointer (some ⟨g, 0, none⟩)), .int .u64 v] w fun e w' =>
   e = .returned .nilIface ∧ St w' (xs ++ [(v : Int)]) ∧ Kp B S w w' := by
 have HH := Lib.hid h
 have ht : decide ((v : Int) ≤ 127) = true := by simp; omega
 have hm : (v : Int) % 256 = (v : Int) := by omega
 clear h
 go_enter Tryz.func79, Tryz.ntmps79
 go_wp2_with fail
 refine (snk_byte R v xs w HH.out hB (by omega) (by omega)).mono ?_
 rintro e w1 ⟨rfl, hb1, hbe1⟩
 have X1 := Lib.hid (And.intro hb1 hbe1)
 clear hb1 hbe1
 go_wp2_with fail
 go_ret
 exact ⟨rfl, X1.out⟩
end Go.Proofs.YtmcllndnjdemaaaGreatDoor.Walk
