/- utf8.Decode over whatever source. Printed by wip/dec.py. -/
import Derived.Test.YtcdfbcanebjmfaaDoorByte
import Derived.Outline
namespace Go.Proofs.YtcdfbcanebjmfaaDoor.Walk
set_option linter.unusedVariables false
set_option linter.unusedSimpArgs false
open Go Go.RowKit Go.Proofs.YtcdfbcanebjmfaaDoorW.PrintWords Go.Proofs.YtcdfbcanebjmfaaDoor.Num

/-- The number behind k following bytes, from byte q on. -/
def vals (l : List Int) (q x0 : Nat) : Nat → Nat
  | 0 => x0
  | k + 1 => vals l q x0 k * 64 + byteAt l (q + k) % 64
/-- Whether k following bytes are there. -/
def Follows (l : List Int) (q k : Nat) : Prop := q + k ≤ l.length ∧ ∀ i, i < k → 128 ≤ byteAt l (q + i) ∧ byteAt l (q + i) < 192
/-- How Decode ends: 'good', and the number v in n bytes; or an error. -/
def DecEnds (S : List Nat) (St : World → Nat → Prop) (w : World) (good : Prop) (v n : Nat) (e : Ending) (w' : World) : Prop :=
  Touch S w w' ∧ ((good ∧ e = .returned (.tuple #[.int .u64 v, .nilIface]) ∧ St w' n) ∨
    (¬ good ∧ (∃ a, ErrAt w' a ∧ e = .returned (.tuple #[.int .u64 0, .iface 130 (.pointer (some a))])) ∧ ∃ q, St w' q))
theorem vals_lt (l : List Int) (q x0 b : Nat) (h : x0 < 2 ^ b) : ∀ k, vals l q x0 k < 2 ^ (b + 6 * k)
  | 0 => by simpa [vals] using h
  | k + 1 => by
    have ih := vals_lt l q x0 b h k
    have e : 2 ^ (b + 6 * (k + 1)) = 2 ^ (b + 6 * k) * 64 := by rw [show b + 6 * (k + 1) = b + 6 * k + 6 by omega, Nat.pow_add]
    unfold vals
    omega
theorem or_six (x c : Nat) (hx : x * 64 + 64 ≤ 18446744073709551616) : Go.bits .or .u64 ((x : Int) * 64) ((c % 64 : Nat) : Int) = ((x * 64 + c % 64 : Nat) : Int) := by
  have e2 : (x : Int) * 64 = (x : Int) * 2 ^ 6 := by omega
  rw [e2, or_u64_add (x : Int) _ 6 (by omega) (by omega) (by omega) (by omega)]
  omega
theorem and_63 (c : Nat) (hc : c < 256) : Go.bits .and .u8 (c : Int) 63 = ((c % 64 : Nat) : Int) := by
  rw [u8_and _ _ (by omega) (by omega) (by decide) (by decide)]
  show ((c &&& (2 ^ 6 - 1) : Nat) : Int) = _
  rw [Nat.and_two_pow_sub_one_eq_mod]
theorem u64_small (c : Nat) (hc : c < 18446744073709551616) : IntKind.u64.wrap (c : Int) = (c : Int) := by rw [IntKind.wrap_u64]; omega


set_option maxHeartbeats 4000000 in
set_option maxRecDepth 100000 in
theorem dec1 {ty fn g : Nat} {S D : List Nat} {l : List Int} {St : World → Nat → Prop} (R : Src ty fn g S D l St) (hbytes : ∀ i, l.getD i 0 = (byteAt l i : Int) ∧ byteAt l i < 256) (w : World) (p c0 : Nat) (ea eb : Addr)
    (hs : St w p) (hp : p < l.length) (hc0 : l.getD p 0 = (c0 : Int)) (hlo : 192 ≤ c0) (hhi : c0 < 224) (hD : ∀ k ∈ D, k < w.heap.size) (hG : Glob w ea eb) (hsafe : ∀ k ∈ S, Safe ea eb k) :
    Calls Tryd.prog 32 #[.iface ty (.pointer (some ⟨g, 0, none⟩))] w
      (DecEnds S St w (Follows l (p + 1) 1 ∧ 127 < vals l (p + 1) (c0 % 32) 1) (vals l (p + 1) (c0 % 32) 1) (p + 1 + 1)) := by
  have HR := Lib.hid R
  have HBY := Lib.hid hbytes
  have HS := Lib.hid hs
  have HD := Lib.hid hD
  have HG := Lib.hid hG
  have HSF := Lib.hid hsafe
  have HC := Lib.hid hc0
  clear R hbytes hs hD hG hsafe hc0
  obtain ⟨x0, hx0⟩ : ∃ x0, c0 % 32 = x0 := ⟨_, rfl⟩
  rw [hx0]
  have hx0b : x0 < 2 ^ 5 := by rw [← hx0]; exact Nat.mod_lt _ (by decide)
  have hand : Go.bits .and .u8 (c0 : Int) 31 = (x0 : Int) := by
    rw [u8_and _ _ (by omega) (by omega) (by decide) (by decide), ← hx0]
    show ((c0 &&& (2 ^ 5 - 1) : Nat) : Int) = _
    rw [Nat.and_two_pow_sub_one_eq_mod]
  have hxs : x0 < 64 := by omega
  have HV := Lib.hid (vals_lt l (p + 1) x0 5 hx0b)
  clear hx0b hx0
  have ht128 : decide ((c0 : Int) < 128) = false := by simp; omega
  have ht192 : decide ((c0 : Int) < 192) = false := by simp; omega
  have ht224 : decide ((c0 : Int) < 224) = true := by simp; omega
  go_enter Tryd.func32, Tryd.ntmps32
  go_wp2_with fail
  refine (byte_ok HR.out w p HS.out hp HD.out).mono ?_
  rw [HC.out]
  rintro e w1 ⟨rfl, ht1, hs1⟩
  have HT1 := Lib.hid ht1
  have HS1 := Lib.hid hs1
  clear ht1 hs1
  go_wp2_with fail
  go_loopw [2, 6] (fun xv iv wr => ∃ k : Nat, k ≤ 1 ∧ iv = .int .i64 k ∧ xv = .int .u64 (vals l (p + 1) x0 k) ∧ Follows l (p + 1) k ∧ Touch S w wr ∧ St wr (p + 1 + k)) (fun _ iv _ => 1 - (intOf iv).toNat)
  case atStart => exact ⟨0, by omega, rfl, rfl, ⟨by omega, by omega⟩, HT1.out, HS1.out⟩
  case round =>
    obtain ⟨k, hk, rfl, rfl, hf, ht, hst⟩ := hrel
    obtain ⟨x, hx⟩ : ∃ x, vals l (p + 1) x0 k = x := ⟨_, rfl⟩
    rw [hx]
    have HX := Lib.hid hx
    have HF := Lib.hid hf
    have HT := Lib.hid ht
    have HST := Lib.hid hst
    clear hf ht hst hx
    by_cases hkL : k < 1
    · have hxb : x < 1073741824 := by
        have := HV.out k
        rw [HX.out] at this
        have h3 : 2 ^ (5 + 6 * k) ≤ 2 ^ 30 := Nat.pow_le_pow_right (by decide) (by omega)
        omega
      by_cases hin : p + 1 + k < l.length
      · obtain ⟨c, hc⟩ : ∃ c, byteAt l (p + 1 + k) = c := ⟨_, rfl⟩
        have hcd := HBY.out (p + 1 + k)
        rw [hc] at hcd
        have hc256 := hcd.2
        have HCD := Lib.hid hcd.1
        have HCC := Lib.hid hc
        clear hcd hc
        by_cases hok : 128 ≤ c ∧ c < 192
        · have hok1 := hok.1
          have hok2 := hok.2
          have h63 : Go.bits .and .u8 (c : Int) 63 = ((c % 64 : Nat) : Int) := and_63 c hc256
          obtain ⟨d, hd⟩ : ∃ d, c % 64 = d := ⟨_, rfl⟩
          have hor := or_six x c (by omega)
          rw [hd] at h63 hor
          have hdb : d < 64 := by omega
          have HDD := Lib.hid hd
          obtain ⟨y, hy⟩ : ∃ y, x * 64 + d = y := ⟨_, rfl⟩
          rw [hy] at hor
          have HY := Lib.hid hy
          clear hd hy hok
          go_wp2_with fail
          refine (byte_ok HR.out wr (p + 1 + k) HST.out hin (fun k' hk' => Nat.lt_of_lt_of_le (HD.out k' hk') HT.out.size)).mono ?_
          rw [HCD.out]
          rintro e w2 ⟨rfl, ht2, hs2⟩
          have HT2 := Lib.hid (HT.out.trans ht2)
          have HS2 := Lib.hid hs2
          clear ht2 hs2
          go_wp2_with fail
          go_roundw
          case rel =>
            refine ⟨k + 1, by omega, by go_num, ?_, ⟨by omega, fun i hi => ?_⟩, HT2.out, HS2.out⟩
            · rw [vals, HX.out, HCC.out, HDD.out, HY.out]
            · rcases Nat.lt_or_ge i k with h | h
              · exact HF.out.2 i h
              · obtain rfl : i = k := by omega
                rw [HCC.out]; exact ⟨hok1, hok2⟩
          case measure => simp [intOf]; omega
        · have hbad : ¬ (Follows l (p + 1) 1 ∧ 127 < vals l (p + 1) x0 1) := fun h => hok (by have := h.1.2 k hkL; rw [HCC.out] at this; exact this)
          have HBAD := Lib.hid hbad
          clear hbad
          by_cases hlow : c < 128
          · clear hok
            go_wp2_with fail
            refine (byte_ok HR.out wr (p + 1 + k) HST.out hin (fun k' hk' => Nat.lt_of_lt_of_le (HD.out k' hk') HT.out.size)).mono ?_
            rw [HCD.out]
            rintro e w2 ⟨rfl, ht2, hs2⟩
            have HT2 := Lib.hid (HT.out.trans ht2)
            have HS2 := Lib.hid hs2
            clear ht2 hs2
            go_wp2_with fail
            refine (err_new _ w2).mono ?_
            rintro e w3 ⟨a, rfl, hb3, hat3⟩
            have HB3 := Lib.hid hb3
            have HA3 := Lib.hid hat3
            clear hb3 hat3
            go_wp2_with fail
            go_ret2
            exact ⟨HT2.out.trans (Touch.of_below HB3.out), .inr ⟨HBAD.out, ⟨_, HA3.out, rfl⟩, _, HR.out.move [] w2 _ _ HS2.out (by simp) (Touch.of_below HB3.out)⟩⟩
          · have hhigh : 192 ≤ c := by omega
            clear hok
            go_wp2_with fail
            refine (byte_ok HR.out wr (p + 1 + k) HST.out hin (fun k' hk' => Nat.lt_of_lt_of_le (HD.out k' hk') HT.out.size)).mono ?_
            rw [HCD.out]
            rintro e w2 ⟨rfl, ht2, hs2⟩
            have HT2 := Lib.hid (HT.out.trans ht2)
            have HS2 := Lib.hid hs2
            clear ht2 hs2
            go_wp2_with fail
            refine (err_new _ w2).mono ?_
            rintro e w3 ⟨a, rfl, hb3, hat3⟩
            have HB3 := Lib.hid hb3
            have HA3 := Lib.hid hat3
            clear hb3 hat3
            go_wp2_with fail
            go_ret2
            exact ⟨HT2.out.trans (Touch.of_below HB3.out), .inr ⟨HBAD.out, ⟨_, HA3.out, rfl⟩, _, HR.out.move [] w2 _ _ HS2.out (by simp) (Touch.of_below HB3.out)⟩⟩
      · have hbad : ¬ (Follows l (p + 1) 1 ∧ 127 < vals l (p + 1) x0 1) := fun h => by have := h.1.1; omega
        have HBAD := Lib.hid hbad
        have hG2 := HG.out.touch HT.out HSF.out
        have HG2 := Lib.hid hG2
        have hend : p + 1 + k = l.length := by have := HF.out.1; omega
        have heql := eqlErr ea
        clear hbad hG2
        go_wp2_with fail
        refine (byte_end HR.out wr (p + 1 + k) ea eb HST.out hend HG2.out).mono ?_
        rintro e w2 ⟨rfl, ht2, hs2⟩
        have hG3 := HG2.out.touch ht2 HSF.out
        have e1 := hG3.eof
        have e2 := hG3.uef
        have HEB := Lib.hid hG3.atb
        have HT2 := Lib.hid (HT.out.trans ht2)
        have HS2 := Lib.hid hs2
        clear ht2 hs2 hG3
        go_wp2_with fail
        go_quiet (fail)
        go_wp2_with fail
        go_ret2
        exact ⟨HT2.out.drewN nq, .inr ⟨HBAD.out, ⟨_, HEB.out, rfl⟩, _, HR.out.move [] w2 _ _ HS2.out (by simp) ((Touch.refl _ _).drewN nq)⟩⟩
    · obtain rfl : k = 1 := by omega
      have hxb : x < 68719476736 := by
        have := HV.out 1
        rw [HX.out] at this
        exact Nat.lt_of_lt_of_le this (by decide)
      by_cases hbig : x ≤ 127
      · have hbad : ¬ (Follows l (p + 1) 1 ∧ 127 < vals l (p + 1) x0 1) := fun h => by have := h.2; rw [HX.out] at this; omega
        have HBAD := Lib.hid hbad
        clear hbad
        go_wp2_with fail
        refine (err_new _ wr).mono ?_
        rintro e w3 ⟨a, rfl, hb3, hat3⟩
        have HB3 := Lib.hid hb3
        have HA3 := Lib.hid hat3
        clear hb3 hat3
        go_wp2_with fail
        go_ret2
        exact ⟨HT.out.trans (Touch.of_below HB3.out), .inr ⟨HBAD.out, ⟨_, HA3.out, rfl⟩, _, HR.out.move [] wr _ _ HST.out (by simp) (Touch.of_below HB3.out)⟩⟩
      · go_wp2_with fail
        go_ret2
        exact ⟨HT.out, .inl ⟨⟨HF.out, by rw [HX.out]; omega⟩, by rw [HX.out]; rfl, HST.out⟩⟩

set_option maxHeartbeats 4000000 in
set_option maxRecDepth 100000 in
theorem dec2 {ty fn g : Nat} {S D : List Nat} {l : List Int} {St : World → Nat → Prop} (R : Src ty fn g S D l St) (hbytes : ∀ i, l.getD i 0 = (byteAt l i : Int) ∧ byteAt l i < 256) (w : World) (p c0 : Nat) (ea eb : Addr)
    (hs : St w p) (hp : p < l.length) (hc0 : l.getD p 0 = (c0 : Int)) (hlo : 224 ≤ c0) (hhi : c0 < 240) (hD : ∀ k ∈ D, k < w.heap.size) (hG : Glob w ea eb) (hsafe : ∀ k ∈ S, Safe ea eb k) :
    Calls Tryd.prog 32 #[.iface ty (.pointer (some ⟨g, 0, none⟩))] w
      (DecEnds S St w (Follows l (p + 1) 2 ∧ 2047 < vals l (p + 1) (c0 % 16) 2) (vals l (p + 1) (c0 % 16) 2) (p + 1 + 2)) := by
  have HR := Lib.hid R
  have HBY := Lib.hid hbytes
  have HS := Lib.hid hs
  have HD := Lib.hid hD
  have HG := Lib.hid hG
  have HSF := Lib.hid hsafe
  have HC := Lib.hid hc0
  clear R hbytes hs hD hG hsafe hc0
  obtain ⟨x0, hx0⟩ : ∃ x0, c0 % 16 = x0 := ⟨_, rfl⟩
  rw [hx0]
  have hx0b : x0 < 2 ^ 4 := by rw [← hx0]; exact Nat.mod_lt _ (by decide)
  have hand : Go.bits .and .u8 (c0 : Int) 15 = (x0 : Int) := by
    rw [u8_and _ _ (by omega) (by omega) (by decide) (by decide), ← hx0]
    show ((c0 &&& (2 ^ 4 - 1) : Nat) : Int) = _
    rw [Nat.and_two_pow_sub_one_eq_mod]
  have hxs : x0 < 64 := by omega
  have HV := Lib.hid (vals_lt l (p + 1) x0 4 hx0b)
  clear hx0b hx0
  have ht128 : decide ((c0 : Int) < 128) = false := by simp; omega
  have ht192 : decide ((c0 : Int) < 192) = false := by simp; omega
  have ht224 : decide ((c0 : Int) < 224) = false := by simp; omega
  have ht240 : decide ((c0 : Int) < 240) = true := by simp; omega
  go_enter Tryd.func32, Tryd.ntmps32
  go_wp2_with fail
  refine (byte_ok HR.out w p HS.out hp HD.out).mono ?_
  rw [HC.out]
  rintro e w1 ⟨rfl, ht1, hs1⟩
  have HT1 := Lib.hid ht1
  have HS1 := Lib.hid hs1
  clear ht1 hs1
  go_wp2_with fail
  go_loopw [2, 6] (fun xv iv wr => ∃ k : Nat, k ≤ 2 ∧ iv = .int .i64 k ∧ xv = .int .u64 (vals l (p + 1) x0 k) ∧ Follows l (p + 1) k ∧ Touch S w wr ∧ St wr (p + 1 + k)) (fun _ iv _ => 2 - (intOf iv).toNat)
  case atStart => exact ⟨0, by omega, rfl, rfl, ⟨by omega, by omega⟩, HT1.out, HS1.out⟩
  case round =>
    obtain ⟨k, hk, rfl, rfl, hf, ht, hst⟩ := hrel
    obtain ⟨x, hx⟩ : ∃ x, vals l (p + 1) x0 k = x := ⟨_, rfl⟩
    rw [hx]
    have HX := Lib.hid hx
    have HF := Lib.hid hf
    have HT := Lib.hid ht
    have HST := Lib.hid hst
    clear hf ht hst hx
    by_cases hkL : k < 2
    · have hxb : x < 1073741824 := by
        have := HV.out k
        rw [HX.out] at this
        have h3 : 2 ^ (4 + 6 * k) ≤ 2 ^ 30 := Nat.pow_le_pow_right (by decide) (by omega)
        omega
      by_cases hin : p + 1 + k < l.length
      · obtain ⟨c, hc⟩ : ∃ c, byteAt l (p + 1 + k) = c := ⟨_, rfl⟩
        have hcd := HBY.out (p + 1 + k)
        rw [hc] at hcd
        have hc256 := hcd.2
        have HCD := Lib.hid hcd.1
        have HCC := Lib.hid hc
        clear hcd hc
        by_cases hok : 128 ≤ c ∧ c < 192
        · have hok1 := hok.1
          have hok2 := hok.2
          have h63 : Go.bits .and .u8 (c : Int) 63 = ((c % 64 : Nat) : Int) := and_63 c hc256
          obtain ⟨d, hd⟩ : ∃ d, c % 64 = d := ⟨_, rfl⟩
          have hor := or_six x c (by omega)
          rw [hd] at h63 hor
          have hdb : d < 64 := by omega
          have HDD := Lib.hid hd
          obtain ⟨y, hy⟩ : ∃ y, x * 64 + d = y := ⟨_, rfl⟩
          rw [hy] at hor
          have HY := Lib.hid hy
          clear hd hy hok
          go_wp2_with fail
          refine (byte_ok HR.out wr (p + 1 + k) HST.out hin (fun k' hk' => Nat.lt_of_lt_of_le (HD.out k' hk') HT.out.size)).mono ?_
          rw [HCD.out]
          rintro e w2 ⟨rfl, ht2, hs2⟩
          have HT2 := Lib.hid (HT.out.trans ht2)
          have HS2 := Lib.hid hs2
          clear ht2 hs2
          go_wp2_with fail
          go_roundw
          case rel =>
            refine ⟨k + 1, by omega, by go_num, ?_, ⟨by omega, fun i hi => ?_⟩, HT2.out, HS2.out⟩
            · rw [vals, HX.out, HCC.out, HDD.out, HY.out]
            · rcases Nat.lt_or_ge i k with h | h
              · exact HF.out.2 i h
              · obtain rfl : i = k := by omega
                rw [HCC.out]; exact ⟨hok1, hok2⟩
          case measure => simp [intOf]; omega
        · have hbad : ¬ (Follows l (p + 1) 2 ∧ 2047 < vals l (p + 1) x0 2) := fun h => hok (by have := h.1.2 k hkL; rw [HCC.out] at this; exact this)
          have HBAD := Lib.hid hbad
          clear hbad
          by_cases hlow : c < 128
          · clear hok
            go_wp2_with fail
            refine (byte_ok HR.out wr (p + 1 + k) HST.out hin (fun k' hk' => Nat.lt_of_lt_of_le (HD.out k' hk') HT.out.size)).mono ?_
            rw [HCD.out]
            rintro e w2 ⟨rfl, ht2, hs2⟩
            have HT2 := Lib.hid (HT.out.trans ht2)
            have HS2 := Lib.hid hs2
            clear ht2 hs2
            go_wp2_with fail
            refine (err_new _ w2).mono ?_
            rintro e w3 ⟨a, rfl, hb3, hat3⟩
            have HB3 := Lib.hid hb3
            have HA3 := Lib.hid hat3
            clear hb3 hat3
            go_wp2_with fail
            go_ret2
            exact ⟨HT2.out.trans (Touch.of_below HB3.out), .inr ⟨HBAD.out, ⟨_, HA3.out, rfl⟩, _, HR.out.move [] w2 _ _ HS2.out (by simp) (Touch.of_below HB3.out)⟩⟩
          · have hhigh : 192 ≤ c := by omega
            clear hok
            go_wp2_with fail
            refine (byte_ok HR.out wr (p + 1 + k) HST.out hin (fun k' hk' => Nat.lt_of_lt_of_le (HD.out k' hk') HT.out.size)).mono ?_
            rw [HCD.out]
            rintro e w2 ⟨rfl, ht2, hs2⟩
            have HT2 := Lib.hid (HT.out.trans ht2)
            have HS2 := Lib.hid hs2
            clear ht2 hs2
            go_wp2_with fail
            refine (err_new _ w2).mono ?_
            rintro e w3 ⟨a, rfl, hb3, hat3⟩
            have HB3 := Lib.hid hb3
            have HA3 := Lib.hid hat3
            clear hb3 hat3
            go_wp2_with fail
            go_ret2
            exact ⟨HT2.out.trans (Touch.of_below HB3.out), .inr ⟨HBAD.out, ⟨_, HA3.out, rfl⟩, _, HR.out.move [] w2 _ _ HS2.out (by simp) (Touch.of_below HB3.out)⟩⟩
      · have hbad : ¬ (Follows l (p + 1) 2 ∧ 2047 < vals l (p + 1) x0 2) := fun h => by have := h.1.1; omega
        have HBAD := Lib.hid hbad
        have hG2 := HG.out.touch HT.out HSF.out
        have HG2 := Lib.hid hG2
        have hend : p + 1 + k = l.length := by have := HF.out.1; omega
        have heql := eqlErr ea
        clear hbad hG2
        go_wp2_with fail
        refine (byte_end HR.out wr (p + 1 + k) ea eb HST.out hend HG2.out).mono ?_
        rintro e w2 ⟨rfl, ht2, hs2⟩
        have hG3 := HG2.out.touch ht2 HSF.out
        have e1 := hG3.eof
        have e2 := hG3.uef
        have HEB := Lib.hid hG3.atb
        have HT2 := Lib.hid (HT.out.trans ht2)
        have HS2 := Lib.hid hs2
        clear ht2 hs2 hG3
        go_wp2_with fail
        go_quiet (fail)
        go_wp2_with fail
        go_ret2
        exact ⟨HT2.out.drewN nq, .inr ⟨HBAD.out, ⟨_, HEB.out, rfl⟩, _, HR.out.move [] w2 _ _ HS2.out (by simp) ((Touch.refl _ _).drewN nq)⟩⟩
    · obtain rfl : k = 2 := by omega
      have hxb : x < 68719476736 := by
        have := HV.out 2
        rw [HX.out] at this
        exact Nat.lt_of_lt_of_le this (by decide)
      by_cases hbig : x ≤ 2047
      · have hbad : ¬ (Follows l (p + 1) 2 ∧ 2047 < vals l (p + 1) x0 2) := fun h => by have := h.2; rw [HX.out] at this; omega
        have HBAD := Lib.hid hbad
        clear hbad
        go_wp2_with fail
        refine (err_new _ wr).mono ?_
        rintro e w3 ⟨a, rfl, hb3, hat3⟩
        have HB3 := Lib.hid hb3
        have HA3 := Lib.hid hat3
        clear hb3 hat3
        go_wp2_with fail
        go_ret2
        exact ⟨HT.out.trans (Touch.of_below HB3.out), .inr ⟨HBAD.out, ⟨_, HA3.out, rfl⟩, _, HR.out.move [] wr _ _ HST.out (by simp) (Touch.of_below HB3.out)⟩⟩
      · go_wp2_with fail
        go_ret2
        exact ⟨HT.out, .inl ⟨⟨HF.out, by rw [HX.out]; omega⟩, by rw [HX.out]; rfl, HST.out⟩⟩

set_option maxHeartbeats 4000000 in
set_option maxRecDepth 100000 in
theorem dec3 {ty fn g : Nat} {S D : List Nat} {l : List Int} {St : World → Nat → Prop} (R : Src ty fn g S D l St) (hbytes : ∀ i, l.getD i 0 = (byteAt l i : Int) ∧ byteAt l i < 256) (w : World) (p c0 : Nat) (ea eb : Addr)
    (hs : St w p) (hp : p < l.length) (hc0 : l.getD p 0 = (c0 : Int)) (hlo : 240 ≤ c0) (hhi : c0 < 248) (hD : ∀ k ∈ D, k < w.heap.size) (hG : Glob w ea eb) (hsafe : ∀ k ∈ S, Safe ea eb k) :
    Calls Tryd.prog 32 #[.iface ty (.pointer (some ⟨g, 0, none⟩))] w
      (DecEnds S St w (Follows l (p + 1) 3 ∧ 65535 < vals l (p + 1) (c0 % 8) 3) (vals l (p + 1) (c0 % 8) 3) (p + 1 + 3)) := by
  have HR := Lib.hid R
  have HBY := Lib.hid hbytes
  have HS := Lib.hid hs
  have HD := Lib.hid hD
  have HG := Lib.hid hG
  have HSF := Lib.hid hsafe
  have HC := Lib.hid hc0
  clear R hbytes hs hD hG hsafe hc0
  obtain ⟨x0, hx0⟩ : ∃ x0, c0 % 8 = x0 := ⟨_, rfl⟩
  rw [hx0]
  have hx0b : x0 < 2 ^ 3 := by rw [← hx0]; exact Nat.mod_lt _ (by decide)
  have hand : Go.bits .and .u8 (c0 : Int) 7 = (x0 : Int) := by
    rw [u8_and _ _ (by omega) (by omega) (by decide) (by decide), ← hx0]
    show ((c0 &&& (2 ^ 3 - 1) : Nat) : Int) = _
    rw [Nat.and_two_pow_sub_one_eq_mod]
  have hxs : x0 < 64 := by omega
  have HV := Lib.hid (vals_lt l (p + 1) x0 3 hx0b)
  clear hx0b hx0
  have ht128 : decide ((c0 : Int) < 128) = false := by simp; omega
  have ht192 : decide ((c0 : Int) < 192) = false := by simp; omega
  have ht224 : decide ((c0 : Int) < 224) = false := by simp; omega
  have ht240 : decide ((c0 : Int) < 240) = false := by simp; omega
  have ht248 : decide ((c0 : Int) < 248) = true := by simp; omega
  go_enter Tryd.func32, Tryd.ntmps32
  go_wp2_with fail
  refine (byte_ok HR.out w p HS.out hp HD.out).mono ?_
  rw [HC.out]
  rintro e w1 ⟨rfl, ht1, hs1⟩
  have HT1 := Lib.hid ht1
  have HS1 := Lib.hid hs1
  clear ht1 hs1
  go_wp2_with fail
  go_loopw [2, 6] (fun xv iv wr => ∃ k : Nat, k ≤ 3 ∧ iv = .int .i64 k ∧ xv = .int .u64 (vals l (p + 1) x0 k) ∧ Follows l (p + 1) k ∧ Touch S w wr ∧ St wr (p + 1 + k)) (fun _ iv _ => 3 - (intOf iv).toNat)
  case atStart => exact ⟨0, by omega, rfl, rfl, ⟨by omega, by omega⟩, HT1.out, HS1.out⟩
  case round =>
    obtain ⟨k, hk, rfl, rfl, hf, ht, hst⟩ := hrel
    obtain ⟨x, hx⟩ : ∃ x, vals l (p + 1) x0 k = x := ⟨_, rfl⟩
    rw [hx]
    have HX := Lib.hid hx
    have HF := Lib.hid hf
    have HT := Lib.hid ht
    have HST := Lib.hid hst
    clear hf ht hst hx
    by_cases hkL : k < 3
    · have hxb : x < 1073741824 := by
        have := HV.out k
        rw [HX.out] at this
        have h3 : 2 ^ (3 + 6 * k) ≤ 2 ^ 30 := Nat.pow_le_pow_right (by decide) (by omega)
        omega
      by_cases hin : p + 1 + k < l.length
      · obtain ⟨c, hc⟩ : ∃ c, byteAt l (p + 1 + k) = c := ⟨_, rfl⟩
        have hcd := HBY.out (p + 1 + k)
        rw [hc] at hcd
        have hc256 := hcd.2
        have HCD := Lib.hid hcd.1
        have HCC := Lib.hid hc
        clear hcd hc
        by_cases hok : 128 ≤ c ∧ c < 192
        · have hok1 := hok.1
          have hok2 := hok.2
          have h63 : Go.bits .and .u8 (c : Int) 63 = ((c % 64 : Nat) : Int) := and_63 c hc256
          obtain ⟨d, hd⟩ : ∃ d, c % 64 = d := ⟨_, rfl⟩
          have hor := or_six x c (by omega)
          rw [hd] at h63 hor
          have hdb : d < 64 := by omega
          have HDD := Lib.hid hd
          obtain ⟨y, hy⟩ : ∃ y, x * 64 + d = y := ⟨_, rfl⟩
          rw [hy] at hor
          have HY := Lib.hid hy
          clear hd hy hok
          go_wp2_with fail
          refine (byte_ok HR.out wr (p + 1 + k) HST.out hin (fun k' hk' => Nat.lt_of_lt_of_le (HD.out k' hk') HT.out.size)).mono ?_
          rw [HCD.out]
          rintro e w2 ⟨rfl, ht2, hs2⟩
          have HT2 := Lib.hid (HT.out.trans ht2)
          have HS2 := Lib.hid hs2
          clear ht2 hs2
          go_wp2_with fail
          go_roundw
          case rel =>
            refine ⟨k + 1, by omega, by go_num, ?_, ⟨by omega, fun i hi => ?_⟩, HT2.out, HS2.out⟩
            · rw [vals, HX.out, HCC.out, HDD.out, HY.out]
            · rcases Nat.lt_or_ge i k with h | h
              · exact HF.out.2 i h
              · obtain rfl : i = k := by omega
                rw [HCC.out]; exact ⟨hok1, hok2⟩
          case measure => simp [intOf]; omega
        · have hbad : ¬ (Follows l (p + 1) 3 ∧ 65535 < vals l (p + 1) x0 3) := fun h => hok (by have := h.1.2 k hkL; rw [HCC.out] at this; exact this)
          have HBAD := Lib.hid hbad
          clear hbad
          by_cases hlow : c < 128
          · clear hok
            go_wp2_with fail
            refine (byte_ok HR.out wr (p + 1 + k) HST.out hin (fun k' hk' => Nat.lt_of_lt_of_le (HD.out k' hk') HT.out.size)).mono ?_
            rw [HCD.out]
            rintro e w2 ⟨rfl, ht2, hs2⟩
            have HT2 := Lib.hid (HT.out.trans ht2)
            have HS2 := Lib.hid hs2
            clear ht2 hs2
            go_wp2_with fail
            refine (err_new _ w2).mono ?_
            rintro e w3 ⟨a, rfl, hb3, hat3⟩
            have HB3 := Lib.hid hb3
            have HA3 := Lib.hid hat3
            clear hb3 hat3
            go_wp2_with fail
            go_ret2
            exact ⟨HT2.out.trans (Touch.of_below HB3.out), .inr ⟨HBAD.out, ⟨_, HA3.out, rfl⟩, _, HR.out.move [] w2 _ _ HS2.out (by simp) (Touch.of_below HB3.out)⟩⟩
          · have hhigh : 192 ≤ c := by omega
            clear hok
            go_wp2_with fail
            refine (byte_ok HR.out wr (p + 1 + k) HST.out hin (fun k' hk' => Nat.lt_of_lt_of_le (HD.out k' hk') HT.out.size)).mono ?_
            rw [HCD.out]
            rintro e w2 ⟨rfl, ht2, hs2⟩
            have HT2 := Lib.hid (HT.out.trans ht2)
            have HS2 := Lib.hid hs2
            clear ht2 hs2
            go_wp2_with fail
            refine (err_new _ w2).mono ?_
            rintro e w3 ⟨a, rfl, hb3, hat3⟩
            have HB3 := Lib.hid hb3
            have HA3 := Lib.hid hat3
            clear hb3 hat3
            go_wp2_with fail
            go_ret2
            exact ⟨HT2.out.trans (Touch.of_below HB3.out), .inr ⟨HBAD.out, ⟨_, HA3.out, rfl⟩, _, HR.out.move [] w2 _ _ HS2.out (by simp) (Touch.of_below HB3.out)⟩⟩
      · have hbad : ¬ (Follows l (p + 1) 3 ∧ 65535 < vals l (p + 1) x0 3) := fun h => by have := h.1.1; omega
        have HBAD := Lib.hid hbad
        have hG2 := HG.out.touch HT.out HSF.out
        have HG2 := Lib.hid hG2
        have hend : p + 1 + k = l.length := by have := HF.out.1; omega
        have heql := eqlErr ea
        clear hbad hG2
        go_wp2_with fail
        refine (byte_end HR.out wr (p + 1 + k) ea eb HST.out hend HG2.out).mono ?_
        rintro e w2 ⟨rfl, ht2, hs2⟩
        have hG3 := HG2.out.touch ht2 HSF.out
        have e1 := hG3.eof
        have e2 := hG3.uef
        have HEB := Lib.hid hG3.atb
        have HT2 := Lib.hid (HT.out.trans ht2)
        have HS2 := Lib.hid hs2
        clear ht2 hs2 hG3
        go_wp2_with fail
        go_quiet (fail)
        go_wp2_with fail
        go_ret2
        exact ⟨HT2.out.drewN nq, .inr ⟨HBAD.out, ⟨_, HEB.out, rfl⟩, _, HR.out.move [] w2 _ _ HS2.out (by simp) ((Touch.refl _ _).drewN nq)⟩⟩
    · obtain rfl : k = 3 := by omega
      have hxb : x < 68719476736 := by
        have := HV.out 3
        rw [HX.out] at this
        exact Nat.lt_of_lt_of_le this (by decide)
      by_cases hbig : x ≤ 65535
      · have hbad : ¬ (Follows l (p + 1) 3 ∧ 65535 < vals l (p + 1) x0 3) := fun h => by have := h.2; rw [HX.out] at this; omega
        have HBAD := Lib.hid hbad
        clear hbad
        go_wp2_with fail
        refine (err_new _ wr).mono ?_
        rintro e w3 ⟨a, rfl, hb3, hat3⟩
        have HB3 := Lib.hid hb3
        have HA3 := Lib.hid hat3
        clear hb3 hat3
        go_wp2_with fail
        go_ret2
        exact ⟨HT.out.trans (Touch.of_below HB3.out), .inr ⟨HBAD.out, ⟨_, HA3.out, rfl⟩, _, HR.out.move [] wr _ _ HST.out (by simp) (Touch.of_below HB3.out)⟩⟩
      · go_wp2_with fail
        go_ret2
        exact ⟨HT.out, .inl ⟨⟨HF.out, by rw [HX.out]; omega⟩, by rw [HX.out]; rfl, HST.out⟩⟩

set_option maxHeartbeats 4000000 in
set_option maxRecDepth 100000 in
theorem dec4 {ty fn g : Nat} {S D : List Nat} {l : List Int} {St : World → Nat → Prop} (R : Src ty fn g S D l St) (hbytes : ∀ i, l.getD i 0 = (byteAt l i : Int) ∧ byteAt l i < 256) (w : World) (p c0 : Nat) (ea eb : Addr)
    (hs : St w p) (hp : p < l.length) (hc0 : l.getD p 0 = (c0 : Int)) (hlo : 248 ≤ c0) (hhi : c0 < 252) (hD : ∀ k ∈ D, k < w.heap.size) (hG : Glob w ea eb) (hsafe : ∀ k ∈ S, Safe ea eb k) :
    Calls Tryd.prog 32 #[.iface ty (.pointer (some ⟨g, 0, none⟩))] w
      (DecEnds S St w (Follows l (p + 1) 4 ∧ 2097151 < vals l (p + 1) (c0 % 4) 4) (vals l (p + 1) (c0 % 4) 4) (p + 1 + 4)) := by
  have HR := Lib.hid R
  have HBY := Lib.hid hbytes
  have HS := Lib.hid hs
  have HD := Lib.hid hD
  have HG := Lib.hid hG
  have HSF := Lib.hid hsafe
  have HC := Lib.hid hc0
  clear R hbytes hs hD hG hsafe hc0
  obtain ⟨x0, hx0⟩ : ∃ x0, c0 % 4 = x0 := ⟨_, rfl⟩
  rw [hx0]
  have hx0b : x0 < 2 ^ 2 := by rw [← hx0]; exact Nat.mod_lt _ (by decide)
  have hand : Go.bits .and .u8 (c0 : Int) 3 = (x0 : Int) := by
    rw [u8_and _ _ (by omega) (by omega) (by decide) (by decide), ← hx0]
    show ((c0 &&& (2 ^ 2 - 1) : Nat) : Int) = _
    rw [Nat.and_two_pow_sub_one_eq_mod]
  have hxs : x0 < 64 := by omega
  have HV := Lib.hid (vals_lt l (p + 1) x0 2 hx0b)
  clear hx0b hx0
  have ht128 : decide ((c0 : Int) < 128) = false := by simp; omega
  have ht192 : decide ((c0 : Int) < 192) = false := by simp; omega
  have ht224 : decide ((c0 : Int) < 224) = false := by simp; omega
  have ht240 : decide ((c0 : Int) < 240) = false := by simp; omega
  have ht248 : decide ((c0 : Int) < 248) = false := by simp; omega
  have ht252 : decide ((c0 : Int) < 252) = true := by simp; omega
  go_enter Tryd.func32, Tryd.ntmps32
  go_wp2_with fail
  refine (byte_ok HR.out w p HS.out hp HD.out).mono ?_
  rw [HC.out]
  rintro e w1 ⟨rfl, ht1, hs1⟩
  have HT1 := Lib.hid ht1
  have HS1 := Lib.hid hs1
  clear ht1 hs1
  go_wp2_with fail
  go_loopw [2, 6] (fun xv iv wr => ∃ k : Nat, k ≤ 4 ∧ iv = .int .i64 k ∧ xv = .int .u64 (vals l (p + 1) x0 k) ∧ Follows l (p + 1) k ∧ Touch S w wr ∧ St wr (p + 1 + k)) (fun _ iv _ => 4 - (intOf iv).toNat)
  case atStart => exact ⟨0, by omega, rfl, rfl, ⟨by omega, by omega⟩, HT1.out, HS1.out⟩
  case round =>
    obtain ⟨k, hk, rfl, rfl, hf, ht, hst⟩ := hrel
    obtain ⟨x, hx⟩ : ∃ x, vals l (p + 1) x0 k = x := ⟨_, rfl⟩
    rw [hx]
    have HX := Lib.hid hx
    have HF := Lib.hid hf
    have HT := Lib.hid ht
    have HST := Lib.hid hst
    clear hf ht hst hx
    by_cases hkL : k < 4
    · have hxb : x < 1073741824 := by
        have := HV.out k
        rw [HX.out] at this
        have h3 : 2 ^ (2 + 6 * k) ≤ 2 ^ 30 := Nat.pow_le_pow_right (by decide) (by omega)
        omega
      by_cases hin : p + 1 + k < l.length
      · obtain ⟨c, hc⟩ : ∃ c, byteAt l (p + 1 + k) = c := ⟨_, rfl⟩
        have hcd := HBY.out (p + 1 + k)
        rw [hc] at hcd
        have hc256 := hcd.2
        have HCD := Lib.hid hcd.1
        have HCC := Lib.hid hc
        clear hcd hc
        by_cases hok : 128 ≤ c ∧ c < 192
        · have hok1 := hok.1
          have hok2 := hok.2
          have h63 : Go.bits .and .u8 (c : Int) 63 = ((c % 64 : Nat) : Int) := and_63 c hc256
          obtain ⟨d, hd⟩ : ∃ d, c % 64 = d := ⟨_, rfl⟩
          have hor := or_six x c (by omega)
          rw [hd] at h63 hor
          have hdb : d < 64 := by omega
          have HDD := Lib.hid hd
          obtain ⟨y, hy⟩ : ∃ y, x * 64 + d = y := ⟨_, rfl⟩
          rw [hy] at hor
          have HY := Lib.hid hy
          clear hd hy hok
          go_wp2_with fail
          refine (byte_ok HR.out wr (p + 1 + k) HST.out hin (fun k' hk' => Nat.lt_of_lt_of_le (HD.out k' hk') HT.out.size)).mono ?_
          rw [HCD.out]
          rintro e w2 ⟨rfl, ht2, hs2⟩
          have HT2 := Lib.hid (HT.out.trans ht2)
          have HS2 := Lib.hid hs2
          clear ht2 hs2
          go_wp2_with fail
          go_roundw
          case rel =>
            refine ⟨k + 1, by omega, by go_num, ?_, ⟨by omega, fun i hi => ?_⟩, HT2.out, HS2.out⟩
            · rw [vals, HX.out, HCC.out, HDD.out, HY.out]
            · rcases Nat.lt_or_ge i k with h | h
              · exact HF.out.2 i h
              · obtain rfl : i = k := by omega
                rw [HCC.out]; exact ⟨hok1, hok2⟩
          case measure => simp [intOf]; omega
        · have hbad : ¬ (Follows l (p + 1) 4 ∧ 2097151 < vals l (p + 1) x0 4) := fun h => hok (by have := h.1.2 k hkL; rw [HCC.out] at this; exact this)
          have HBAD := Lib.hid hbad
          clear hbad
          by_cases hlow : c < 128
          · clear hok
            go_wp2_with fail
            refine (byte_ok HR.out wr (p + 1 + k) HST.out hin (fun k' hk' => Nat.lt_of_lt_of_le (HD.out k' hk') HT.out.size)).mono ?_
            rw [HCD.out]
            rintro e w2 ⟨rfl, ht2, hs2⟩
            have HT2 := Lib.hid (HT.out.trans ht2)
            have HS2 := Lib.hid hs2
            clear ht2 hs2
            go_wp2_with fail
            refine (err_new _ w2).mono ?_
            rintro e w3 ⟨a, rfl, hb3, hat3⟩
            have HB3 := Lib.hid hb3
            have HA3 := Lib.hid hat3
            clear hb3 hat3
            go_wp2_with fail
            go_ret2
            exact ⟨HT2.out.trans (Touch.of_below HB3.out), .inr ⟨HBAD.out, ⟨_, HA3.out, rfl⟩, _, HR.out.move [] w2 _ _ HS2.out (by simp) (Touch.of_below HB3.out)⟩⟩
          · have hhigh : 192 ≤ c := by omega
            clear hok
            go_wp2_with fail
            refine (byte_ok HR.out wr (p + 1 + k) HST.out hin (fun k' hk' => Nat.lt_of_lt_of_le (HD.out k' hk') HT.out.size)).mono ?_
            rw [HCD.out]
            rintro e w2 ⟨rfl, ht2, hs2⟩
            have HT2 := Lib.hid (HT.out.trans ht2)
            have HS2 := Lib.hid hs2
            clear ht2 hs2
            go_wp2_with fail
            refine (err_new _ w2).mono ?_
            rintro e w3 ⟨a, rfl, hb3, hat3⟩
            have HB3 := Lib.hid hb3
            have HA3 := Lib.hid hat3
            clear hb3 hat3
            go_wp2_with fail
            go_ret2
            exact ⟨HT2.out.trans (Touch.of_below HB3.out), .inr ⟨HBAD.out, ⟨_, HA3.out, rfl⟩, _, HR.out.move [] w2 _ _ HS2.out (by simp) (Touch.of_below HB3.out)⟩⟩
      · have hbad : ¬ (Follows l (p + 1) 4 ∧ 2097151 < vals l (p + 1) x0 4) := fun h => by have := h.1.1; omega
        have HBAD := Lib.hid hbad
        have hG2 := HG.out.touch HT.out HSF.out
        have HG2 := Lib.hid hG2
        have hend : p + 1 + k = l.length := by have := HF.out.1; omega
        have heql := eqlErr ea
        clear hbad hG2
        go_wp2_with fail
        refine (byte_end HR.out wr (p + 1 + k) ea eb HST.out hend HG2.out).mono ?_
        rintro e w2 ⟨rfl, ht2, hs2⟩
        have hG3 := HG2.out.touch ht2 HSF.out
        have e1 := hG3.eof
        have e2 := hG3.uef
        have HEB := Lib.hid hG3.atb
        have HT2 := Lib.hid (HT.out.trans ht2)
        have HS2 := Lib.hid hs2
        clear ht2 hs2 hG3
        go_wp2_with fail
        go_quiet (fail)
        go_wp2_with fail
        go_ret2
        exact ⟨HT2.out.drewN nq, .inr ⟨HBAD.out, ⟨_, HEB.out, rfl⟩, _, HR.out.move [] w2 _ _ HS2.out (by simp) ((Touch.refl _ _).drewN nq)⟩⟩
    · obtain rfl : k = 4 := by omega
      have hxb : x < 68719476736 := by
        have := HV.out 4
        rw [HX.out] at this
        exact Nat.lt_of_lt_of_le this (by decide)
      by_cases hbig : x ≤ 2097151
      · have hbad : ¬ (Follows l (p + 1) 4 ∧ 2097151 < vals l (p + 1) x0 4) := fun h => by have := h.2; rw [HX.out] at this; omega
        have HBAD := Lib.hid hbad
        clear hbad
        go_wp2_with fail
        refine (err_new _ wr).mono ?_
        rintro e w3 ⟨a, rfl, hb3, hat3⟩
        have HB3 := Lib.hid hb3
        have HA3 := Lib.hid hat3
        clear hb3 hat3
        go_wp2_with fail
        go_ret2
        exact ⟨HT.out.trans (Touch.of_below HB3.out), .inr ⟨HBAD.out, ⟨_, HA3.out, rfl⟩, _, HR.out.move [] wr _ _ HST.out (by simp) (Touch.of_below HB3.out)⟩⟩
      · go_wp2_with fail
        go_ret2
        exact ⟨HT.out, .inl ⟨⟨HF.out, by rw [HX.out]; omega⟩, by rw [HX.out]; rfl, HST.out⟩⟩

set_option maxHeartbeats 4000000 in
set_option maxRecDepth 100000 in
theorem dec5 {ty fn g : Nat} {S D : List Nat} {l : List Int} {St : World → Nat → Prop} (R : Src ty fn g S D l St) (hbytes : ∀ i, l.getD i 0 = (byteAt l i : Int) ∧ byteAt l i < 256) (w : World) (p c0 : Nat) (ea eb : Addr)
    (hs : St w p) (hp : p < l.length) (hc0 : l.getD p 0 = (c0 : Int)) (hlo : 252 ≤ c0) (hhi : c0 < 254) (hD : ∀ k ∈ D, k < w.heap.size) (hG : Glob w ea eb) (hsafe : ∀ k ∈ S, Safe ea eb k) :
    Calls Tryd.prog 32 #[.iface ty (.pointer (some ⟨g, 0, none⟩))] w
      (DecEnds S St w (Follows l (p + 1) 5 ∧ 67108863 < vals l (p + 1) (c0 % 2) 5) (vals l (p + 1) (c0 % 2) 5) (p + 1 + 5)) := by
  have HR := Lib.hid R
  have HBY := Lib.hid hbytes
  have HS := Lib.hid hs
  have HD := Lib.hid hD
  have HG := Lib.hid hG
  have HSF := Lib.hid hsafe
  have HC := Lib.hid hc0
  clear R hbytes hs hD hG hsafe hc0
  obtain ⟨x0, hx0⟩ : ∃ x0, c0 % 2 = x0 := ⟨_, rfl⟩
  rw [hx0]
  have hx0b : x0 < 2 ^ 1 := by rw [← hx0]; exact Nat.mod_lt _ (by decide)
  have hand : Go.bits .and .u8 (c0 : Int) 1 = (x0 : Int) := by
    rw [u8_and _ _ (by omega) (by omega) (by decide) (by decide), ← hx0]
    show ((c0 &&& (2 ^ 1 - 1) : Nat) : Int) = _
    rw [Nat.and_two_pow_sub_one_eq_mod]
  have hxs : x0 < 64 := by omega
  have HV := Lib.hid (vals_lt l (p + 1) x0 1 hx0b)
  clear hx0b hx0
  have ht128 : decide ((c0 : Int) < 128) = false := by simp; omega
  have ht192 : decide ((c0 : Int) < 192) = false := by simp; omega
  have ht224 : decide ((c0 : Int) < 224) = false := by simp; omega
  have ht240 : decide ((c0 : Int) < 240) = false := by simp; omega
  have ht248 : decide ((c0 : Int) < 248) = false := by simp; omega
  have ht252 : decide ((c0 : Int) < 252) = false := by simp; omega
  have ht254 : decide ((c0 : Int) < 254) = true := by simp; omega
  go_enter Tryd.func32, Tryd.ntmps32
  go_wp2_with fail
  refine (byte_ok HR.out w p HS.out hp HD.out).mono ?_
  rw [HC.out]
  rintro e w1 ⟨rfl, ht1, hs1⟩
  have HT1 := Lib.hid ht1
  have HS1 := Lib.hid hs1
  clear ht1 hs1
  go_wp2_with fail
  go_loopw [2, 6] (fun xv iv wr => ∃ k : Nat, k ≤ 5 ∧ iv = .int .i64 k ∧ xv = .int .u64 (vals l (p + 1) x0 k) ∧ Follows l (p + 1) k ∧ Touch S w wr ∧ St wr (p + 1 + k)) (fun _ iv _ => 5 - (intOf iv).toNat)
  case atStart => exact ⟨0, by omega, rfl, rfl, ⟨by omega, by omega⟩, HT1.out, HS1.out⟩
  case round =>
    obtain ⟨k, hk, rfl, rfl, hf, ht, hst⟩ := hrel
    obtain ⟨x, hx⟩ : ∃ x, vals l (p + 1) x0 k = x := ⟨_, rfl⟩
    rw [hx]
    have HX := Lib.hid hx
    have HF := Lib.hid hf
    have HT := Lib.hid ht
    have HST := Lib.hid hst
    clear hf ht hst hx
    by_cases hkL : k < 5
    · have hxb : x < 1073741824 := by
        have := HV.out k
        rw [HX.out] at this
        have h3 : 2 ^ (1 + 6 * k) ≤ 2 ^ 30 := Nat.pow_le_pow_right (by decide) (by omega)
        omega
      by_cases hin : p + 1 + k < l.length
      · obtain ⟨c, hc⟩ : ∃ c, byteAt l (p + 1 + k) = c := ⟨_, rfl⟩
        have hcd := HBY.out (p + 1 + k)
        rw [hc] at hcd
        have hc256 := hcd.2
        have HCD := Lib.hid hcd.1
        have HCC := Lib.hid hc
        clear hcd hc
        by_cases hok : 128 ≤ c ∧ c < 192
        · have hok1 := hok.1
          have hok2 := hok.2
          have h63 : Go.bits .and .u8 (c : Int) 63 = ((c % 64 : Nat) : Int) := and_63 c hc256
          obtain ⟨d, hd⟩ : ∃ d, c % 64 = d := ⟨_, rfl⟩
          have hor := or_six x c (by omega)
          rw [hd] at h63 hor
          have hdb : d < 64 := by omega
          have HDD := Lib.hid hd
          obtain ⟨y, hy⟩ : ∃ y, x * 64 + d = y := ⟨_, rfl⟩
          rw [hy] at hor
          have HY := Lib.hid hy
          clear hd hy hok
          go_wp2_with fail
          refine (byte_ok HR.out wr (p + 1 + k) HST.out hin (fun k' hk' => Nat.lt_of_lt_of_le (HD.out k' hk') HT.out.size)).mono ?_
          rw [HCD.out]
          rintro e w2 ⟨rfl, ht2, hs2⟩
          have HT2 := Lib.hid (HT.out.trans ht2)
          have HS2 := Lib.hid hs2
          clear ht2 hs2
          go_wp2_with fail
          go_roundw
          case rel =>
            refine ⟨k + 1, by omega, by go_num, ?_, ⟨by omega, fun i hi => ?_⟩, HT2.out, HS2.out⟩
            · rw [vals, HX.out, HCC.out, HDD.out, HY.out]
            · rcases Nat.lt_or_ge i k with h | h
              · exact HF.out.2 i h
              · obtain rfl : i = k := by omega
                rw [HCC.out]; exact ⟨hok1, hok2⟩
          case measure => simp [intOf]; omega
        · have hbad : ¬ (Follows l (p + 1) 5 ∧ 67108863 < vals l (p + 1) x0 5) := fun h => hok (by have := h.1.2 k hkL; rw [HCC.out] at this; exact this)
          have HBAD := Lib.hid hbad
          clear hbad
          by_cases hlow : c < 128
          · clear hok
            go_wp2_with fail
            refine (byte_ok HR.out wr (p + 1 + k) HST.out hin (fun k' hk' => Nat.lt_of_lt_of_le (HD.out k' hk') HT.out.size)).mono ?_
            rw [HCD.out]
            rintro e w2 ⟨rfl, ht2, hs2⟩
            have HT2 := Lib.hid (HT.out.trans ht2)
            have HS2 := Lib.hid hs2
            clear ht2 hs2
            go_wp2_with fail
            refine (err_new _ w2).mono ?_
            rintro e w3 ⟨a, rfl, hb3, hat3⟩
            have HB3 := Lib.hid hb3
            have HA3 := Lib.hid hat3
            clear hb3 hat3
            go_wp2_with fail
            go_ret2
            exact ⟨HT2.out.trans (Touch.of_below HB3.out), .inr ⟨HBAD.out, ⟨_, HA3.out, rfl⟩, _, HR.out.move [] w2 _ _ HS2.out (by simp) (Touch.of_below HB3.out)⟩⟩
          · have hhigh : 192 ≤ c := by omega
            clear hok
            go_wp2_with fail
            refine (byte_ok HR.out wr (p + 1 + k) HST.out hin (fun k' hk' => Nat.lt_of_lt_of_le (HD.out k' hk') HT.out.size)).mono ?_
            rw [HCD.out]
            rintro e w2 ⟨rfl, ht2, hs2⟩
            have HT2 := Lib.hid (HT.out.trans ht2)
            have HS2 := Lib.hid hs2
            clear ht2 hs2
            go_wp2_with fail
            refine (err_new _ w2).mono ?_
            rintro e w3 ⟨a, rfl, hb3, hat3⟩
            have HB3 := Lib.hid hb3
            have HA3 := Lib.hid hat3
            clear hb3 hat3
            go_wp2_with fail
            go_ret2
            exact ⟨HT2.out.trans (Touch.of_below HB3.out), .inr ⟨HBAD.out, ⟨_, HA3.out, rfl⟩, _, HR.out.move [] w2 _ _ HS2.out (by simp) (Touch.of_below HB3.out)⟩⟩
      · have hbad : ¬ (Follows l (p + 1) 5 ∧ 67108863 < vals l (p + 1) x0 5) := fun h => by have := h.1.1; omega
        have HBAD := Lib.hid hbad
        have hG2 := HG.out.touch HT.out HSF.out
        have HG2 := Lib.hid hG2
        have hend : p + 1 + k = l.length := by have := HF.out.1; omega
        have heql := eqlErr ea
        clear hbad hG2
        go_wp2_with fail
        refine (byte_end HR.out wr (p + 1 + k) ea eb HST.out hend HG2.out).mono ?_
        rintro e w2 ⟨rfl, ht2, hs2⟩
        have hG3 := HG2.out.touch ht2 HSF.out
        have e1 := hG3.eof
        have e2 := hG3.uef
        have HEB := Lib.hid hG3.atb
        have HT2 := Lib.hid (HT.out.trans ht2)
        have HS2 := Lib.hid hs2
        clear ht2 hs2 hG3
        go_wp2_with fail
        go_quiet (fail)
        go_wp2_with fail
        go_ret2
        exact ⟨HT2.out.drewN nq, .inr ⟨HBAD.out, ⟨_, HEB.out, rfl⟩, _, HR.out.move [] w2 _ _ HS2.out (by simp) ((Touch.refl _ _).drewN nq)⟩⟩
    · obtain rfl : k = 5 := by omega
      have hxb : x < 68719476736 := by
        have := HV.out 5
        rw [HX.out] at this
        exact Nat.lt_of_lt_of_le this (by decide)
      by_cases hbig : x ≤ 67108863
      · have hbad : ¬ (Follows l (p + 1) 5 ∧ 67108863 < vals l (p + 1) x0 5) := fun h => by have := h.2; rw [HX.out] at this; omega
        have HBAD := Lib.hid hbad
        clear hbad
        go_wp2_with fail
        refine (err_new _ wr).mono ?_
        rintro e w3 ⟨a, rfl, hb3, hat3⟩
        have HB3 := Lib.hid hb3
        have HA3 := Lib.hid hat3
        clear hb3 hat3
        go_wp2_with fail
        go_ret2
        exact ⟨HT.out.trans (Touch.of_below HB3.out), .inr ⟨HBAD.out, ⟨_, HA3.out, rfl⟩, _, HR.out.move [] wr _ _ HST.out (by simp) (Touch.of_below HB3.out)⟩⟩
      · go_wp2_with fail
        go_ret2
        exact ⟨HT.out, .inl ⟨⟨HF.out, by rw [HX.out]; omega⟩, by rw [HX.out]; rfl, HST.out⟩⟩

set_option maxHeartbeats 4000000 in
set_option maxRecDepth 100000 in
theorem dec6 {ty fn g : Nat} {S D : List Nat} {l : List Int} {St : World → Nat → Prop} (R : Src ty fn g S D l St) (hbytes : ∀ i, l.getD i 0 = (byteAt l i : Int) ∧ byteAt l i < 256) (w : World) (p c0 : Nat) (ea eb : Addr)
    (hs : St w p) (hp : p < l.length) (hc0 : l.getD p 0 = (c0 : Int)) (hlo : 254 ≤ c0) (hhi : c0 < 255) (hD : ∀ k ∈ D, k < w.heap.size) (hG : Glob w ea eb) (hsafe : ∀ k ∈ S, Safe ea eb k) :
    Calls Tryd.prog 32 #[.iface ty (.pointer (some ⟨g, 0, none⟩))] w
      (DecEnds S St w (Follows l (p + 1) 6 ∧ 2147483647 < vals l (p + 1) (c0 % 1) 6) (vals l (p + 1) (c0 % 1) 6) (p + 1 + 6)) := by
  have HR := Lib.hid R
  have HBY := Lib.hid hbytes
  have HS := Lib.hid hs
  have HD := Lib.hid hD
  have HG := Lib.hid hG
  have HSF := Lib.hid hsafe
  have HC := Lib.hid hc0
  clear R hbytes hs hD hG hsafe hc0
  obtain ⟨x0, hx0⟩ : ∃ x0, c0 % 1 = x0 := ⟨_, rfl⟩
  rw [hx0]
  have hx0b : x0 < 2 ^ 0 := by rw [← hx0]; exact Nat.mod_lt _ (by decide)
  have hand : Go.bits .and .u8 (c0 : Int) 0 = (x0 : Int) := by
    rw [u8_and _ _ (by omega) (by omega) (by decide) (by decide), ← hx0]
    show ((c0 &&& (2 ^ 0 - 1) : Nat) : Int) = _
    rw [Nat.and_two_pow_sub_one_eq_mod]
  have hxs : x0 < 64 := by omega
  have HV := Lib.hid (vals_lt l (p + 1) x0 0 hx0b)
  have hz : x0 = 0 := by omega
  have HZ := Lib.hid hz
  clear hz
  clear hx0b hx0
  have ht128 : decide ((c0 : Int) < 128) = false := by simp; omega
  have ht192 : decide ((c0 : Int) < 192) = false := by simp; omega
  have ht224 : decide ((c0 : Int) < 224) = false := by simp; omega
  have ht240 : decide ((c0 : Int) < 240) = false := by simp; omega
  have ht248 : decide ((c0 : Int) < 248) = false := by simp; omega
  have ht252 : decide ((c0 : Int) < 252) = false := by simp; omega
  have ht254 : decide ((c0 : Int) < 254) = false := by simp; omega
  have ht255 : decide ((c0 : Int) < 255) = true := by simp; omega
  go_enter Tryd.func32, Tryd.ntmps32
  go_wp2_with fail
  refine (byte_ok HR.out w p HS.out hp HD.out).mono ?_
  rw [HC.out]
  rintro e w1 ⟨rfl, ht1, hs1⟩
  have HT1 := Lib.hid ht1
  have HS1 := Lib.hid hs1
  clear ht1 hs1
  go_wp2_with fail
  go_loopw [2, 6] (fun xv iv wr => ∃ k : Nat, k ≤ 6 ∧ iv = .int .i64 k ∧ xv = .int .u64 (vals l (p + 1) x0 k) ∧ Follows l (p + 1) k ∧ Touch S w wr ∧ St wr (p + 1 + k)) (fun _ iv _ => 6 - (intOf iv).toNat)
  case atStart => exact ⟨0, by omega, rfl, by rw [vals, HZ.out]; rfl, ⟨by omega, by omega⟩, HT1.out, HS1.out⟩
  case round =>
    obtain ⟨k, hk, rfl, rfl, hf, ht, hst⟩ := hrel
    obtain ⟨x, hx⟩ : ∃ x, vals l (p + 1) x0 k = x := ⟨_, rfl⟩
    rw [hx]
    have HX := Lib.hid hx
    have HF := Lib.hid hf
    have HT := Lib.hid ht
    have HST := Lib.hid hst
    clear hf ht hst hx
    by_cases hkL : k < 6
    · have hxb : x < 1073741824 := by
        have := HV.out k
        rw [HX.out] at this
        have h3 : 2 ^ (0 + 6 * k) ≤ 2 ^ 30 := Nat.pow_le_pow_right (by decide) (by omega)
        omega
      by_cases hin : p + 1 + k < l.length
      · obtain ⟨c, hc⟩ : ∃ c, byteAt l (p + 1 + k) = c := ⟨_, rfl⟩
        have hcd := HBY.out (p + 1 + k)
        rw [hc] at hcd
        have hc256 := hcd.2
        have HCD := Lib.hid hcd.1
        have HCC := Lib.hid hc
        clear hcd hc
        by_cases hok : 128 ≤ c ∧ c < 192
        · have hok1 := hok.1
          have hok2 := hok.2
          have h63 : Go.bits .and .u8 (c : Int) 63 = ((c % 64 : Nat) : Int) := and_63 c hc256
          obtain ⟨d, hd⟩ : ∃ d, c % 64 = d := ⟨_, rfl⟩
          have hor := or_six x c (by omega)
          rw [hd] at h63 hor
          have hdb : d < 64 := by omega
          have HDD := Lib.hid hd
          obtain ⟨y, hy⟩ : ∃ y, x * 64 + d = y := ⟨_, rfl⟩
          rw [hy] at hor
          have HY := Lib.hid hy
          clear hd hy hok
          go_wp2_with fail
          refine (byte_ok HR.out wr (p + 1 + k) HST.out hin (fun k' hk' => Nat.lt_of_lt_of_le (HD.out k' hk') HT.out.size)).mono ?_
          rw [HCD.out]
          rintro e w2 ⟨rfl, ht2, hs2⟩
          have HT2 := Lib.hid (HT.out.trans ht2)
          have HS2 := Lib.hid hs2
          clear ht2 hs2
          go_wp2_with fail
          go_roundw
          case rel =>
            refine ⟨k + 1, by omega, by go_num, ?_, ⟨by omega, fun i hi => ?_⟩, HT2.out, HS2.out⟩
            · rw [vals, HX.out, HCC.out, HDD.out, HY.out]
            · rcases Nat.lt_or_ge i k with h | h
              · exact HF.out.2 i h
              · obtain rfl : i = k := by omega
                rw [HCC.out]; exact ⟨hok1, hok2⟩
          case measure => simp [intOf]; omega
        · have hbad : ¬ (Follows l (p + 1) 6 ∧ 2147483647 < vals l (p + 1) x0 6) := fun h => hok (by have := h.1.2 k hkL; rw [HCC.out] at this; exact this)
          have HBAD := Lib.hid hbad
          clear hbad
          by_cases hlow : c < 128
          · clear hok
            go_wp2_with fail
            refine (byte_ok HR.out wr (p + 1 + k) HST.out hin (fun k' hk' => Nat.lt_of_lt_of_le (HD.out k' hk') HT.out.size)).mono ?_
            rw [HCD.out]
            rintro e w2 ⟨rfl, ht2, hs2⟩
            have HT2 := Lib.hid (HT.out.trans ht2)
            have HS2 := Lib.hid hs2
            clear ht2 hs2
            go_wp2_with fail
            refine (err_new _ w2).mono ?_
            rintro e w3 ⟨a, rfl, hb3, hat3⟩
            have HB3 := Lib.hid hb3
            have HA3 := Lib.hid hat3
            clear hb3 hat3
            go_wp2_with fail
            go_ret2
            exact ⟨HT2.out.trans (Touch.of_below HB3.out), .inr ⟨HBAD.out, ⟨_, HA3.out, rfl⟩, _, HR.out.move [] w2 _ _ HS2.out (by simp) (Touch.of_below HB3.out)⟩⟩
          · have hhigh : 192 ≤ c := by omega
            clear hok
            go_wp2_with fail
            refine (byte_ok HR.out wr (p + 1 + k) HST.out hin (fun k' hk' => Nat.lt_of_lt_of_le (HD.out k' hk') HT.out.size)).mono ?_
            rw [HCD.out]
            rintro e w2 ⟨rfl, ht2, hs2⟩
            have HT2 := Lib.hid (HT.out.trans ht2)
            have HS2 := Lib.hid hs2
            clear ht2 hs2
            go_wp2_with fail
            refine (err_new _ w2).mono ?_
            rintro e w3 ⟨a, rfl, hb3, hat3⟩
            have HB3 := Lib.hid hb3
            have HA3 := Lib.hid hat3
            clear hb3 hat3
            go_wp2_with fail
            go_ret2
            exact ⟨HT2.out.trans (Touch.of_below HB3.out), .inr ⟨HBAD.out, ⟨_, HA3.out, rfl⟩, _, HR.out.move [] w2 _ _ HS2.out (by simp) (Touch.of_below HB3.out)⟩⟩
      · have hbad : ¬ (Follows l (p + 1) 6 ∧ 2147483647 < vals l (p + 1) x0 6) := fun h => by have := h.1.1; omega
        have HBAD := Lib.hid hbad
        have hG2 := HG.out.touch HT.out HSF.out
        have HG2 := Lib.hid hG2
        have hend : p + 1 + k = l.length := by have := HF.out.1; omega
        have heql := eqlErr ea
        clear hbad hG2
        go_wp2_with fail
        refine (byte_end HR.out wr (p + 1 + k) ea eb HST.out hend HG2.out).mono ?_
        rintro e w2 ⟨rfl, ht2, hs2⟩
        have hG3 := HG2.out.touch ht2 HSF.out
        have e1 := hG3.eof
        have e2 := hG3.uef
        have HEB := Lib.hid hG3.atb
        have HT2 := Lib.hid (HT.out.trans ht2)
        have HS2 := Lib.hid hs2
        clear ht2 hs2 hG3
        go_wp2_with fail
        go_quiet (fail)
        go_wp2_with fail
        go_ret2
        exact ⟨HT2.out.drewN nq, .inr ⟨HBAD.out, ⟨_, HEB.out, rfl⟩, _, HR.out.move [] w2 _ _ HS2.out (by simp) ((Touch.refl _ _).drewN nq)⟩⟩
    · obtain rfl : k = 6 := by omega
      have hxb : x < 68719476736 := by
        have := HV.out 6
        rw [HX.out] at this
        exact Nat.lt_of_lt_of_le this (by decide)
      by_cases hbig : x ≤ 2147483647
      · have hbad : ¬ (Follows l (p + 1) 6 ∧ 2147483647 < vals l (p + 1) x0 6) := fun h => by have := h.2; rw [HX.out] at this; omega
        have HBAD := Lib.hid hbad
        clear hbad
        go_wp2_with fail
        refine (err_new _ wr).mono ?_
        rintro e w3 ⟨a, rfl, hb3, hat3⟩
        have HB3 := Lib.hid hb3
        have HA3 := Lib.hid hat3
        clear hb3 hat3
        go_wp2_with fail
        go_ret2
        exact ⟨HT.out.trans (Touch.of_below HB3.out), .inr ⟨HBAD.out, ⟨_, HA3.out, rfl⟩, _, HR.out.move [] wr _ _ HST.out (by simp) (Touch.of_below HB3.out)⟩⟩
      · go_wp2_with fail
        go_ret2
        exact ⟨HT.out, .inl ⟨⟨HF.out, by rw [HX.out]; omega⟩, by rw [HX.out]; rfl, HST.out⟩⟩
end Go.Proofs.YtcdfbcanebjmfaaDoor.Walk
