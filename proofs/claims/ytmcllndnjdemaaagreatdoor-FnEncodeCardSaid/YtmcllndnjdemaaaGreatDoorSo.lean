/- laws.sound: so many samples of so many bits. -/
import Derived.Test.YtmcllndnjdemaaaGreatDoorRa
namespace Go.Proofs.YtmcllndnjdemaaaGreatDoor.Walk
set_option linter.unusedVariables false
set_option linter.unusedSimpArgs false
open Go Go.RowKit Go.Proofs.YtmcllndnjdemaaaGreatDoorW.PrintWords Go.Proofs.YtmcllndnjdemaaaGreatDoorW.PrintLast Go.Proofs.YtmcllndnjdemaaaGreatDoorW.PrintMore Go.Proofs.YtmcllndnjdemaaaGreatDoor.Num Go.Proofs.YtmcllndnjdemaaaGreatDoor.Crc Go.Proofs.YtmcllndnjdemaaaGreatDoor.PFnEncode
theorem tmod_b (a m : Int) (hm : 0 < m) : -m < a.tmod m ∧ a.tmod m < m := by
 have h1 := Int.lt_tmod_of_pos a hm
 have h2 := Int.tmod_lt_of_pos a hm
 exact ⟨h1, h2⟩
theorem tdiv8 (a : Int) (h1 : -70000000 ≤ a) (h2 : a ≤ 70000000) : -70000000 ≤ a.tdiv 8 ∧ a.tdiv 8 ≤ 70000000 := by
 by_cases h : 0 ≤ a
 ·rw [Int.tdiv_eq_ediv_of_nonneg h]; omega
 ·have e : a.tdiv 8 = -((-a).tdiv 8) := by rw [Int.neg_tdiv, Int.neg_neg]
  rw [e, Int.tdiv_eq_ediv_of_nonneg (by omega)]; omega
theorem tmod_n (a m : Int) (ha : 0 ≤ a) (hm : 0 < m) : 0 ≤ a.tmod m ∧ a.tmod m < m := ⟨Int.tmod_nonneg _ ha, Int.tmod_lt_of_pos a hm⟩
set_option maxHeartbeats 16000000 in
set_option maxRecDepth 100000 in
theorem sound_call {A : Option Addr} {n c kind sz bp : Nat} {data : List Int} {w : World} (hd : ReadsInt w .u8 A n data) (hby : ∀ x ∈ data, 0 ≤ x ∧ x ≤ 255) (hn : n ≤ 1000) (hsz : sz ≤ 256) (hbp : BpOk bp) :
  Calls Tryz.prog 10 #[.int .u8 kind, .int .i64 sz, .int .i64 bp, .slice A n c] w fun e w' => Below w.heap.size w w' ∧ ∃ v xs, e = .returned v ∧ w'.ownsRow w.heap.size 3 1 v sz (nums .i64 xs) ∧ xs.length = sz ∧ ∀ x ∈ xs, -(2 ^ (bp - 1) : Nat) ≤ x ∧ x < (2 ^ (bp - 1) : Nat) := by
 obtain ⟨N, hN⟩ : ∃ N, w.heap.size = N := ⟨_, rfl⟩
 obtain ⟨top, htop⟩ : ∃ top, 2 ^ (bp - 1) = top := ⟨_, rfl⟩
 have htb : 128 ≤ top ∧ top ≤ 8388608 := by rcases hbp with h | h | h | h | h <;> (subst h; subst htop; decide)
 have ht1 := htb.1
 have ht2 := htb.2
 have hbb : 8 ≤ bp ∧ bp ≤ 24 := by rcases hbp with h | h | h | h | h <;> omega
 have hb1 := hbb.1
 have hb2 := hbb.2
 have hshl : IntKind.i64.wrap ((1 : Int) * 2 ^ (bp - 1)) = (top : Int) := by
  rw [← htop, IntKind.wrap_i64]
  have e : ((1 : Int) * 2 ^ (bp - 1)) = ((2 ^ (bp - 1) : Nat) : Int) := by simp
  rw [e, htop]; omega
 have hshl2 : ((1 : Int) * 2 ^ (bp - 1)) = (top : Int) := by rw [← htop]; simp
 have hbm : ((bp : Int) - 1).toNat = bp - 1 := by omega
 rw [htop, hN]
 have HD := Lib.hid (And.intro hd hby)
 clear hd hby htop htb hbb hbp
 go_enter Tryz.func10, Tryz.ntmps10
 go_wp2_with fail
 obtain ⟨wa, hwa⟩ : ∃ wa, w.alloc (.cells #[] 3) = wa := ⟨_, rfl⟩
 have hba : Below N w wa := by rw [← hwa, ← hN]; exact below_alloc (Below.refl _ _) _
 have hoa : wa.ownsRow N 3 1 (.slice (some ⟨N, 0, none⟩) 0 0) 0 (nums .i64 []) := by
  have h := World.ownsRow_made (base := N) (e := 3) (size := 1) w #[] 0 (by omega) (by decide) rfl
  rw [hN, hwa] at h; exact h
 rw [hwa]
 have X0 := Lib.hid (And.intro hba hoa)
 clear hwa hba hoa hshl hshl2 hbm
 go_loopw [9, 10, 19] (fun ov vv iv wx => ∃ (k : Nat) (v : Int) (xs : List Int), iv = .int .i64 k ∧ k ≤ sz ∧ vv = .int .i64 v ∧ (-(top : Int) ≤ v ∧ v < (top : Int)) ∧ wx.ownsRow N 3 1 ov k (nums .i64 xs) ∧ xs.length = k ∧ (∀ x ∈ xs, -(top : Int) ≤ x ∧ x < (top : Int)) ∧ Below N w wx) (fun _ _ iv _ => sz - (intOf iv).toNat)
 case atStart => exact ⟨0, 0, [], rfl, by omega, rfl, by omega, X0.out.2, rfl, by simp, X0.out.1⟩
 case round =>
  obtain ⟨k, v, xs, rfl, hk, rfl, hv, ho, hxl, hxs, hb⟩ := hrel
  have X := Lib.hid (And.intro ho (And.intro hxl (And.intro hxs hb)))
  clear ho hxl hxs hb
  have hv1 := hv.1
  have hv2 := hv.2
  clear hv
  by_cases hlt : k < sz
  ·obtain ⟨t2, ht2e⟩ : ∃ t2, 2 * top = t2 := ⟨_, rfl⟩
   have et2 : (2 : Int) * (top : Int) = (t2 : Int) := by omega
   have ht2a : 256 ≤ t2 := by omega
   have ht2b : t2 ≤ 16777216 := by omega
   have et2z : ((t2 : Int) == 0) = false := by simp; omega
   have HT2 := Lib.hid ht2e
   clear ht2e
   go_upto_if 27 with fail
   go_cut [13] (fun y wx => ∃ b : Int, 0 ≤ b ∧ b ≤ 600 ∧ y = .int .i64 b ∧ Touch [] wr wx)
   case first =>
    by_cases hn0 : 0 < n
    ·obtain ⟨ad, rfl, hcell⟩ := (HD.out.1.below (by rw [hN]; exact X.out.2.2.2)).2.2 hn0
     obtain ⟨q, hq⟩ : ∃ q, k % n = q := ⟨_, rfl⟩
     obtain ⟨p, hp⟩ : ∃ p, k / n = p := ⟨_, rfl⟩
     have hqn : q < n := by rw [← hq]; exact Nat.mod_lt _ hn0
     have hpk : p ≤ k := by rw [← hp]; exact Nat.div_le_self _ _
     have eq1 : (k : Int) % (n : Int) = (q : Int) := by rw [← hq]; simp
     have ep1 : (k : Int) / (n : Int) = (p : Int) := by rw [← hp]; simp
     have eq2 : Int.tmod (k : Int) (n : Int) = (q : Int) := by rw [← hq]; simp [Int.tmod]
     have ep2 : Int.tdiv (k : Int) (n : Int) = (p : Int) := by rw [← hp]; simp
     obtain ⟨y, hy⟩ : ∃ y, data.getD q 0 = y := ⟨_, rfl⟩
     have hyb : 0 ≤ y ∧ y ≤ 255 := by
      rw [← hy, List.getD_eq_getElem?_getD, List.getElem?_eq_getElem (by rw [HD.out.1.1]; exact hqn)]
      exact HD.out.2 _ (List.getElem_mem _)
     have hy1 := hyb.1
     have hy2 := hyb.2
     have c1 := hcell q hqn
     rw [hy] at c1
     have ewy : IntKind.i64.wrap y = y := by rw [IntKind.wrap_i64]; omega
     have ez : ((n : Int) == 0) = false := by simp; omega
     clear hq hp hy hyb hcell
     obtain ⟨r, hr⟩ : ∃ r, p * 7 % 256 = r := ⟨_, rfl⟩
     have hr2 : r < 256 := by omega
     have er : (p : Int) * 7 % 256 = (r : Int) := by omega
     have er2 : Int.tmod ((p : Int) * 7) 256 = (r : Int) := by rw [Int.tmod_eq_emod_of_nonneg (by omega)]; omega
     have ewp : IntKind.i64.wrap ((p : Int) * 7) = (p : Int) * 7 := by rw [IntKind.wrap_i64]; omega
     have eyr : IntKind.i64.wrap (y + (r : Int)) = y + (r : Int) := by rw [IntKind.wrap_i64]; omega
     clear hr
     go_upto_region 9 with fail
     go_quiet (fail)
     go_wp2_with fail
     go_meet
     exact ⟨_, by omega, by omega, rfl, (Touch.refl _ _).drewN _⟩
    ·have en : ((n : Int) == 0) = true := by simp; omega
     have en2 : decide ((0 : Int) < (n : Int)) = false := by simp; omega
     go_wp2_with fail
     go_meet
     exact ⟨_, by omega, by omega, rfl, Touch.refl _ _⟩
   case rest =>
    obtain ⟨b, hb1', hb2', rfl, tw⟩ := hcut
    obtain ⟨m, hm⟩ : ∃ m, kind % 4 = m := ⟨_, rfl⟩
    have hm4 : m < 4 := by omega
    have em : (kind : Int) % 4 = (m : Int) := by omega
    have X2 := Lib.hid (And.intro (own_touch X.out.1 tw (by simp)) (And.intro X.out.2.1 (And.intro X.out.2.2.1 (tw.below (w0 := w) (by rw [hN]; exact X.out.2.2.2) (by simp)))))
    clear hm tw X
    go_upto_block 2 with fail
    go_cut [10] (fun y wx => ∃ v2 : Int, -1000000000000 ≤ v2 ∧ v2 ≤ 1000000000000 ∧ y = .int .i64 v2 ∧ wx = wc)
    case first =>
     by_cases m0 : m = 0
     ·have d0 : ((m : Int) == 0) = true := by simp; omega
      obtain ⟨r, hr⟩ : ∃ r, b % 17 = r := ⟨_, rfl⟩
      have hr1 : 0 ≤ r ∧ r < 17 := by omega
      have hr1a := hr1.1
      have hr1b := hr1.2
      have er2 : Int.tmod b 17 = r := by rw [Int.tmod_eq_emod_of_nonneg hb1']; exact hr
      clear m0 hr1
      go_wp2_with fail
      go_meet
      exact ⟨_, by omega, by omega, rfl, rfl⟩
     ·have d0 : ((m : Int) == 0) = false := by simp; omega
      by_cases m1 : m = 1
      ·have d1 : ((m : Int) == 1) = true := by simp; omega
       obtain ⟨q1, hq1⟩ : ∃ q1, b * b = q1 := ⟨_, rfl⟩
       have hq1b : 0 ≤ q1 ∧ q1 ≤ 360000 := by
        rw [← hq1]
        exact ⟨Int.mul_nonneg hb1' hb1', Int.le_trans (Int.mul_le_mul hb2' hb2' hb1' (by decide)) (by decide)⟩
       have hq1a := hq1b.1
       have hq1c := hq1b.2
       obtain ⟨s1, hs1⟩ : ∃ s1, q1 * 7919 + b * 31 + (k : Int) = s1 := ⟨_, rfl⟩
       have hs1a : 0 ≤ s1 := by omega
       have hs1b : s1 ≤ 3000000000 := by omega
       obtain ⟨r, hr⟩ : ∃ r, s1 % (t2 : Int) = r := ⟨_, rfl⟩
       have hz1 : (t2 : Int) ≠ 0 := by omega
       have hz2 : (0 : Int) < (t2 : Int) := by omega
       have hr1 : 0 ≤ r ∧ r < (t2 : Int) := by rw [← hr]; exact ⟨Int.emod_nonneg _ hz1, Int.emod_lt_of_pos _ hz2⟩
       clear hz1 hz2
       have hr1a := hr1.1
       have hr1b := hr1.2
       have er2 : Int.tmod s1 (t2 : Int) = r := by rw [Int.tmod_eq_emod_of_nonneg hs1a]; exact hr
       clear m0 m1 hr1 hq1b
       go_wp2_with fail
       go_meet
       exact ⟨_, by omega, by omega, rfl, rfl⟩
      ·have d1 : ((m : Int) == 1) = false := by simp; omega
       by_cases m2 : m = 2
       ·have d2 : ((m : Int) == 2) = true := by simp; omega
        clear m0 m1 m2
        go_wp2_with fail
        go_meet
        exact ⟨_, by omega, by omega, rfl, rfl⟩
       ·have d2 : ((m : Int) == 2) = false := by simp; omega
        obtain ⟨q1, hq1⟩ : ∃ q1, Int.tdiv (v * 7) 8 = q1 := ⟨_, rfl⟩
        have hq1a : -70000000 ≤ q1 := by rw [← hq1]; exact (tdiv8 (v * 7) (by omega) (by omega)).1
        have hq1b : q1 ≤ 70000000 := by rw [← hq1]; exact (tdiv8 (v * 7) (by omega) (by omega)).2
        obtain ⟨r, hr⟩ : ∃ r, b % 64 = r := ⟨_, rfl⟩
        have hr1a : 0 ≤ r := by omega
        have hr1b : r < 64 := by omega
        have er2 : Int.tmod b 64 = r := by rw [Int.tmod_eq_emod_of_nonneg hb1']; exact hr
        clear m0 m1 m2
        go_wp2_with fail
        go_meet
        exact ⟨_, by omega, by omega, rfl, rfl⟩
    case rest =>
     obtain ⟨v2, hva, hvb, rfl, rfl⟩ := hcut
     have ht2e := HT2.out
     go_upto_region 18 with fail
     go_cut [87] (fun y wx => ∃ z : Bool, y = .bool z ∧ (z = false → -(top : Int) ≤ v2 ∧ v2 < (top : Int)) ∧ wx = wc)
     case first =>
      by_cases hge : (top : Int) ≤ v2
      ·have d1 : decide ((top : Int) ≤ v2) = true := by simp; omega
       clear hge
       go_wp2_with fail
       go_meet
       exact ⟨true, rfl, by simp, rfl⟩
      ·have d1 : decide ((top : Int) ≤ v2) = false := by simp; omega
       by_cases hlo : v2 < -(top : Int)
       ·have d2 : decide (v2 < -(top : Int)) = true := by simp; omega
        clear hge hlo
        go_wp2_with fail
        go_meet
        exact ⟨true, rfl, by simp, rfl⟩
       ·have d2 : decide (v2 < -(top : Int)) = false := by simp; omega
        have hr : -(top : Int) ≤ v2 ∧ v2 < (top : Int) := by omega
        clear hge hlo
        go_wp2_with fail
        go_meet
        exact ⟨false, rfl, fun _ => hr, rfl⟩
     case rest =>
     obtain ⟨z, rfl, hz, rfl⟩ := hcut
     go_upto_if 87 with fail
     go_cut [10] (fun y wx => ∃ v3 : Int, -(top : Int) ≤ v3 ∧ v3 < (top : Int) ∧ y = .int .i64 v3 ∧ wx = wc)
     case first =>
      cases z
      ·have hin := hz rfl
       clear hz
       go_wp2_with fail
       go_meet
       exact ⟨v2, hin.1, hin.2, rfl, rfl⟩
      ·clear hz
       obtain ⟨r1, hr1⟩ : ∃ r1, Int.tmod (v2 + (top : Int)) (t2 : Int) = r1 := ⟨_, rfl⟩
       have hr1b := tmod_b (v2 + (top : Int)) (t2 : Int) (by omega)
       rw [hr1] at hr1b
       have hr1a := hr1b.1
       have hr1c := hr1b.2
       obtain ⟨r2, hr2⟩ : ∃ r2, (r1 + (t2 : Int)) % (t2 : Int) = r2 := ⟨_, rfl⟩
       have hr2c : Int.tmod (r1 + (t2 : Int)) (t2 : Int) = r2 := by rw [Int.tmod_eq_emod_of_nonneg (by omega)]; exact hr2
       have hr2b := tmod_n (r1 + (t2 : Int)) (t2 : Int) (by omega) (by omega)
       rw [hr2c] at hr2b
       have hr2a := hr2b.1
       have hr2d := hr2b.2
       clear hr1b hr2b
       go_wp2_with fail
       go_meet
       exact ⟨_, by omega, by omega, rfl, rfl⟩
     case rest =>
      obtain ⟨v3, hv3a, hv3b, rfl, rfl⟩ := hcut
      clear hz hva hvb ht2e et2 et2z ht2a ht2b
      go_wp2_with (with_reducible refine stop_dst (N := 105) rfl ?_)
      refine unstop ?_
      refine print_append_num (w0 := w) N rfl (.tmp 102) (.tmp 104) 44 3 .i64 8 rfl Tryz.underlying44 infoInt (by decide) _ xs v3 rfl rfl ?aO ?aB ?aS ?aL ?_
      case aO => rw [X2.out.2.1]; exact X2.out.1
      case aB => rw [← hN]; exact X2.out.2.2.2
      case aS => rw [← hN]; exact X2.out.2.2.2.size
      case aL => have := X2.out.2.1; omega
      intro v9 w9 hO9 hB9 _ _
      have X9 := Lib.hid (And.intro hO9 hB9)
      clear hO9 hB9
      go_wp2_with fail
      go_roundw
      case rel =>
       have hl := X2.out.2.1
       refine ⟨k + 1, v3, xs ++ [v3], by go_num, by omega, rfl, ⟨hv3a, hv3b⟩, ?_, by simp [hl], ?_, X9.out.2⟩
       ·have h := X9.out.1
        rw [List.length_append, hl] at h; exact h
       ·intro x hx
        rcases List.mem_append.1 hx with hx | hx
        ·exact X2.out.2.2.1 x hx
        ·rw [List.mem_singleton.1 hx]; exact ⟨hv3a, hv3b⟩
      case measure => simp [intOf]; omega
  ·obtain rfl : k = sz := by omega
   go_wp2_with fail
   go_ret
   exact ⟨X.out.2.2.2, _, xs, rfl, X.out.1, X.out.2.1, X.out.2.2.1⟩
end Go.Proofs.YtmcllndnjdemaaaGreatDoor.Walk
