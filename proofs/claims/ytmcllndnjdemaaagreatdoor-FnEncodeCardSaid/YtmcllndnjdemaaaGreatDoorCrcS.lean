/- The plain law of the sums: eight turns of the table's making over (sum xor byte) are eight steps of the reference over the byte's bits. No program in sight but the reference's printed function. -/
import Derived.Laws.Bits64
import Derived.Laws.BitsLemmas
import Derived.Laws.BitsAllLaws
import Derived.RowKit
import Derived.Test.YtmcllndnjdemaaaGreatDoorPFnEncodex2
import Derived.Test.YtmcllndnjdemaaaGreatDoorCrcAll
namespace Go.Proofs.YtmcllndnjdemaaaGreatDoor.CrcP
open Go Go.RowKit Go.Proofs.YtmcllndnjdemaaaGreatDoorW.PrintWords Go.Proofs.YtmcllndnjdemaaaGreatDoorW.PrintMore
open Go.Proofs.YtmcllndnjdemaaaGreatDoor.Crc
section
variable {W : Nat}
def stT (P c : BitVec W) : BitVec W := if c.msb then (c <<< 1) ^^^ P else c <<< 1
def stS (P c : BitVec W) (b : Bool) : BitVec W := if (c.msb ^^ b) then (c <<< 1) ^^^ P else c <<< 1
def stTs (P : BitVec W) : Nat → BitVec W → BitVec W
 | 0, c => c
 | n + 1, c => stT P (stTs P n c)
def stSs (P d : BitVec W) : Nat → BitVec W → BitVec W
 | 0, c => c
 | n + 1, c => stS P (stSs P d n c) (d <<< n).msb
theorem shl_xor (c d : BitVec W) (n : Nat) : (c ^^^ d) <<< n = (c <<< n) ^^^ (d <<< n) := by
 apply BitVec.eq_of_getLsbD_eq
 intro i hi
 simp [BitVec.getLsbD_shiftLeft, BitVec.getLsbD_xor]
 by_cases h : i < n <;> simp [h, hi]
theorem stT_xor (P c d : BitVec W) : stT P (c ^^^ d) = stS P c d.msb ^^^ (d <<< 1) := by
 unfold stT stS
 rw [BitVec.msb_xor, shl_xor]
 by_cases h : (c.msb ^^ d.msb) = true
 ·rw [if_pos h, if_pos h, BitVec.xor_assoc, BitVec.xor_assoc, BitVec.xor_comm P]
 ·rw [if_neg h, if_neg h]
theorem stTs_xor (P d : BitVec W) (n : Nat) (c : BitVec W) : stTs P n (c ^^^ d) = stSs P d n c ^^^ (d <<< n) := by
 induction n with
 | zero => simp [stTs, stSs]
 | succ n ih => rw [stTs, ih, stT_xor, stSs]; rw [← BitVec.shiftLeft_add]
theorem stTs_low (P d : BitVec W) (n : Nat) (h : ∀ k < n, (d <<< k).msb = false) (c : BitVec W) : stTs P n (c ^^^ d) = stTs P n c ^^^ (d <<< n) := by
 induction n with
 | zero => simp [stTs]
 | succ n ih =>
  rw [stTs, ih (fun k hk => h k (by omega)), stT_xor, stTs, h n (by omega), ← BitVec.shiftLeft_add]
  congr 1
  simp [stS, stT]
end
theorem ofInt_nat (n : Nat) (x : BitVec n) : BitVec.ofInt n (x.toNat : Int) = x := by
 rw [BitVec.ofInt_natCast, BitVec.ofNat_toNat, BitVec.setWidth_eq]
theorem xor_u8 (x y : BitVec 8) : Go.bits .xor .u8 (x.toNat : Int) (y.toNat : Int) = ((x ^^^ y).toNat : Int) := by
 have h : Go.bits .xor .u8 (x.toNat : Int) (y.toNat : Int) = IntKind.u8.wrap ((BitVec.ofInt 8 (x.toNat : Int) ^^^ BitVec.ofInt 8 (y.toNat : Int)).toNat : Int) := rfl
 rw [h, ofInt_nat, ofInt_nat, IntKind.wrap_u8']
 have := (x ^^^ y).isLt
 omega
theorem xor_u16 (x y : BitVec 16) : Go.bits .xor .u16 (x.toNat : Int) (y.toNat : Int) = ((x ^^^ y).toNat : Int) := by
 have h : Go.bits .xor .u16 (x.toNat : Int) (y.toNat : Int) = IntKind.u16.wrap ((BitVec.ofInt 16 (x.toNat : Int) ^^^ BitVec.ofInt 16 (y.toNat : Int)).toNat : Int) := rfl
 rw [h, ofInt_nat, ofInt_nat, IntKind.wrap_u16]
 have := (x ^^^ y).isLt
 omega
theorem and_msb8 (x : BitVec 8) : (Go.bits .and .u8 (x.toNat : Int) 128 != 0) = x.msb := by
 have h : Go.bits .and .u8 (x.toNat : Int) 128 = IntKind.u8.wrap ((BitVec.ofInt 8 (x.toNat : Int) &&& BitVec.ofInt 8 128).toNat : Int) := rfl
 rw [h, ofInt_nat]
 have : ∀ x : BitVec 8, (IntKind.u8.wrap ((x &&& BitVec.ofInt 8 128).toNat : Int) != 0) = x.msb := by decide +kernel
 exact this x
theorem and_bit (a m : Nat) : a &&& 2 ^ m = if a.testBit m then 2 ^ m else 0 := by
 apply Nat.eq_of_testBit_eq
 intro i
 rw [Nat.testBit_and, Nat.testBit_two_pow]
 by_cases hi : m = i
 ·subst hi; by_cases hb : a.testBit m <;> simp [hb]
 ·by_cases hb : a.testBit m <;> simp [hb, hi]
theorem and_msb16 (x : BitVec 16) : (Go.bits .and .u16 (x.toNat : Int) 32768 != 0) = x.msb := by
 have hx := x.isLt
 rw [u16_and _ _ (by omega) (by omega) (by decide) (by decide), BitVec.msb_eq_decide]
 have e : ((x.toNat : Int).toNat &&& (32768 : Int).toNat) = if x.toNat < 32768 then 0 else 32768 := by
  show x.toNat &&& 2 ^ 15 = _
  rw [and_bit]
  by_cases h : x.toNat < 32768
  ·rw [if_pos h, Nat.testBit_lt_two_pow h]; rfl
  ·rw [if_neg h]
   have : x.toNat.testBit 15 = true := by
    rw [Nat.testBit_eq_decide_div_mod_eq]
    have : x.toNat / 2 ^ 15 = 1 := by omega
    rw [this]; rfl
   rw [this]; rfl
 rw [e]
 by_cases h : x.toNat < 32768
 ·rw [if_pos h]; simp; omega
 ·rw [if_neg h]; simp; omega
theorem st8_bv (x : BitVec 8) : st8 7 (x.toNat : Int) = ((stT 7#8 x).toNat : Int) := by
 unfold st8 stT
 rw [and_msb8]
 have e : (x.toNat : Int) * (2 : Int) % (256 : Int) = ((x <<< 1).toNat : Int) := by
  rw [BitVec.toNat_shiftLeft, Nat.shiftLeft_eq]; omega
 have p : (7 : Int) = ((7#8).toNat : Int) := rfl
 rw [e, p, xor_u8]
 by_cases h : x.msb = true
 ·rw [if_pos h, if_pos h]
 ·rw [if_neg h, if_neg h]
theorem st16_bv (x : BitVec 16) : st16 32773 (x.toNat : Int) = ((stT 32773#16 x).toNat : Int) := by
 unfold st16 stT
 rw [and_msb16]
 have e : IntKind.u16.wrap ((x.toNat : Int) * 2) = ((x <<< 1).toNat : Int) := by
  rw [BitVec.toNat_shiftLeft, Nat.shiftLeft_eq, IntKind.wrap_u16]; omega
 have p : (32773 : Int) = ((32773#16).toNat : Int) := rfl
 rw [e, p, xor_u16]
 by_cases h : x.msb = true
 ·rw [if_pos h, if_pos h]
 ·rw [if_neg h, if_neg h]
theorem sts8_bv (n : Nat) (x : BitVec 8) : sts8 7 n (x.toNat : Int) = ((stTs 7#8 n x).toNat : Int) := by
 induction n with
 | zero => rfl
 | succ n ih => rw [sts8, ih, st8_bv]; rfl
theorem sts16_bv (n : Nat) (x : BitVec 16) : sts16 32773 n (x.toNat : Int) = ((stTs 32773#16 n x).toNat : Int) := by
 induction n with
 | zero => rfl
 | succ n ih => rw [sts16, ih, st16_bv]; rfl
theorem f8_bv (x : BitVec 8) : f8 7 x.toNat = ((stTs 7#8 8 x).toNat : Int) := sts8_bv 8 x
theorem f16_bv (j : Nat) (h : j < 256) : f16 32773 j = ((stTs 32773#16 8 (BitVec.ofNat 16 (j * 256))).toNat : Int) := by
 rw [← sts16_bv]
 unfold f16
 congr 1
 rw [BitVec.toNat_ofNat, Nat.mod_eq_of_lt (by omega)]
 simp
def b8 (c : BitVec 8) (v : Int) : BitVec 8 := stSs 7#8 (BitVec.ofInt 8 v) 8 c
def b16 (c : BitVec 16) (v : Int) : BitVec 16 := stSs 32773#16 (BitVec.ofInt 16 (v * 256)) 8 c
theorem byte8 (v : Int) (h : Byte v) : v = ((BitVec.ofInt 8 v).toNat : Int) := by
 obtain ⟨h0, h1⟩ := h
 obtain ⟨n, rfl⟩ := Int.eq_ofNat_of_zero_le h0
 rw [BitVec.ofInt_natCast, BitVec.toNat_ofNat, Nat.mod_eq_of_lt (by omega)]
theorem shl8 (d : BitVec 8) : d <<< 8 = 0#8 := by
 apply BitVec.eq_of_toNat_eq; rw [BitVec.toNat_shiftLeft, Nat.shiftLeft_eq]; simp
theorem step8 (c : BitVec 8) (v : Int) (h : Byte v) : f8 7 (Go.bits .xor .u8 (c.toNat : Int) v).toNat = ((b8 c v).toNat : Int) := by
 have e := byte8 v h
 rw [e, xor_u8, Int.toNat_natCast, f8_bv, stTs_xor, shl8, BitVec.xor_zero, ← e]
 rfl
theorem step16 (c : BitVec 16) (v : Int) (h : Byte v) : s16 (f16 32773) (c.toNat : Int) v = ((b16 c v).toNat : Int) := by
 obtain ⟨h0, h1⟩ := h
 obtain ⟨n, rfl⟩ := Int.eq_ofNat_of_zero_le h0
 have hn : n < 256 := by omega
 have hc := c.isLt
 unfold s16 b16
 have e1 : Go.bits .xor .u16 ((c.toNat : Int) / 256) (n : Int) = ((c.toNat / 256 ^^^ n : Nat) : Int) := by
  rw [u16_xor _ _ (by omega) (by omega) (by omega) (by omega)]
  have : ((c.toNat : Int) / 256).toNat = c.toNat / 256 := by omega
  rw [this]; rfl
 have hj : c.toNat / 256 ^^^ n < 256 := Nat.xor_lt_two_pow (n := 8) (by omega) hn
 rw [e1, Int.toNat_natCast, f16_bv _ hj]
 have hd : BitVec.ofInt 16 ((n : Int) * 256) = BitVec.ofNat 16 (n * 256) := by
  have : (n : Int) * 256 = ((n * 256 : Nat) : Int) := by simp
  rw [this, BitVec.ofInt_natCast]
 have hlow : BitVec.ofNat 16 ((c.toNat / 256 ^^^ n) * 256) ^^^ BitVec.ofNat 16 (c.toNat % 256) = c ^^^ BitVec.ofNat 16 (n * 256) := by
  apply BitVec.eq_of_getLsbD_eq
  intro i hi
  simp only [BitVec.getLsbD_xor, BitVec.getLsbD_ofNat, hi, decide_true, Bool.true_and]
  have m256 : ∀ a : Nat, a * 256 = a * 2 ^ 8 := fun a => rfl
  have d256 : c.toNat / 256 = c.toNat >>> 8 := by rw [Nat.shiftRight_eq_div_pow]
  have o256 : c.toNat % 256 = c.toNat % 2 ^ 8 := rfl
  rw [m256 (c.toNat / 256 ^^^ n), m256 n, Nat.testBit_mul_two_pow, Nat.testBit_mul_two_pow, o256, Nat.testBit_mod_two_pow, Nat.testBit_xor, d256, Nat.testBit_shiftRight]
  by_cases h8 : 8 ≤ i
  ·have : ¬ i < 8 := by omega
   have e8 : 8 + (i - 8) = i := by omega
   simp [h8, this, e8, BitVec.testBit_toNat]
  ·have : i < 8 := by omega
   simp [h8, this, BitVec.testBit_toNat]
 have hmsb : ∀ k < 8, (BitVec.ofNat 16 (c.toNat % 256) <<< k).msb = false := by
  intro k hk
  rw [BitVec.msb_eq_getLsbD_last, BitVec.getLsbD_shiftLeft, BitVec.getLsbD_ofNat]
  have : (c.toNat % 256).testBit (16 - 1 - k) = false := Nat.testBit_lt_two_pow (Nat.lt_of_lt_of_le (Nat.mod_lt _ (by decide)) (Nat.pow_le_pow_right (n := 2) (by decide) (show 8 ≤ 16 - 1 - k by omega)))
  simp only [this, Bool.and_false]
 have t := stTs_low 32773#16 (BitVec.ofNat 16 (c.toNat % 256)) 8 hmsb (BitVec.ofNat 16 ((c.toNat / 256 ^^^ n) * 256))
 rw [hlow, stTs_xor] at t
 have z : BitVec.ofNat 16 (n * 256) <<< 8 = 0#16 := by
  apply BitVec.eq_of_toNat_eq; rw [BitVec.toNat_shiftLeft, Nat.shiftLeft_eq, BitVec.toNat_ofNat]; simp; omega
 have y : BitVec.ofNat 16 (c.toNat % 256) <<< 8 = c <<< 8 := by
  apply BitVec.eq_of_toNat_eq; rw [BitVec.toNat_shiftLeft, Nat.shiftLeft_eq, BitVec.toNat_shiftLeft, Nat.shiftLeft_eq, BitVec.toNat_ofNat]; omega
 rw [z, BitVec.xor_zero, y] at t
 have e2 : IntKind.u16.wrap ((c.toNat : Int) * 256) = ((c <<< 8).toNat : Int) := by
  rw [BitVec.toNat_shiftLeft, Nat.shiftLeft_eq, IntKind.wrap_u16]; omega
 rw [hd, t, e2, xor_u16, BitVec.xor_comm]
theorem crc8_from (l : List Int) (h : ∀ x ∈ l, Byte x) (c : BitVec 8) : up8 (f8 7) (c.toNat : Int) l = ((l.foldl b8 c).toNat : Int) := by
 induction l generalizing c with
 | nil => rfl
 | cons v l ih =>
  show up8 (f8 7) (f8 7 (Go.bits .xor .u8 (c.toNat : Int) v).toNat) l = _
  rw [step8 c v (h v (by simp)), ih (fun x hx => h x (by simp [hx]))]
  rfl
theorem crc16_from (l : List Int) (h : ∀ x ∈ l, Byte x) (c : BitVec 16) : up16 (f16 32773) (c.toNat : Int) l = ((l.foldl b16 c).toNat : Int) := by
 induction l generalizing c with
 | nil => rfl
 | cons v l ih =>
  show up16 (f16 32773) (s16 (f16 32773) (c.toNat : Int) v) l = _
  rw [step16 c v (h v (by simp)), ih (fun x hx => h x (by simp [hx]))]
  rfl
theorem crc8_is (l : List Int) (h : ∀ x ∈ l, Byte x) : crc8 l = ((l.foldl b8 0#8).toNat : Int) := crc8_from l h 0#8
theorem crc16_is (l : List Int) (h : ∀ x ∈ l, Byte x) : crc16 l = ((l.foldl b16 0#16).toNat : Int) := crc16_from l h 0#16
end Go.Proofs.YtmcllndnjdemaaaGreatDoor.CrcP
namespace Go.Proofs.YtmcllndnjdemaaaGreatDoor.CrcS
open Go Go.RowKit Go.Proofs.YtmcllndnjdemaaaGreatDoorW.PrintWords Go.Proofs.YtmcllndnjdemaaaGreatDoorW.PrintMore
open Go.Proofs.YtmcllndnjdemaaaGreatDoor.Crc Go.Proofs.YtmcllndnjdemaaaGreatDoor.CrcP Go.Proofs.YtmcllndnjdemaaaGreatDoor.PFnEncode
theorem xor_i64_nat (a b : Nat) (ha : a < 2 ^ 62) (hb : b < 2 ^ 62) : Go.bits .xor .i64 (a : Int) (b : Int) = ((a ^^^ b : Nat) : Int) := by
 have h : Go.bits .xor .i64 (a : Int) (b : Int) = IntKind.i64.wrap ((BitVec.ofInt 64 (a : Int) ^^^ BitVec.ofInt 64 (b : Int)).toNat : Int) := rfl
 have hx : a ^^^ b < 2 ^ 62 := Nat.xor_lt_two_pow ha hb
 rw [h, BitVec.ofInt_natCast, BitVec.ofInt_natCast, BitVec.toNat_xor, BitVec.toNat_ofNat, BitVec.toNat_ofNat, Nat.mod_eq_of_lt (by omega), Nat.mod_eq_of_lt (by omega), IntKind.wrap_i64]
 omega
theorem and_i64_nat (a b : Nat) (ha : a < 2 ^ 62) (hb : b < 2 ^ 62) : Go.bits .and .i64 (a : Int) (b : Int) = ((a &&& b : Nat) : Int) := by
 have h : Go.bits .and .i64 (a : Int) (b : Int) = IntKind.i64.wrap ((BitVec.ofInt 64 (a : Int) &&& BitVec.ofInt 64 (b : Int)).toNat : Int) := rfl
 have hx : a &&& b < 2 ^ 62 := Nat.and_lt_two_pow _ hb
 rw [h, BitVec.ofInt_natCast, BitVec.ofInt_natCast, BitVec.toNat_and, BitVec.toNat_ofNat, BitVec.toNat_ofNat, Nat.mod_eq_of_lt (by omega), Nat.mod_eq_of_lt (by omega), IntKind.wrap_i64]
 omega
theorem bit_of (a n : Nat) : (a >>> n &&& 1) = (a.testBit n).toNat := by
 rw [Nat.testBit]
 rcases Nat.mod_two_eq_zero_or_one (a >>> n) with h | h <;> simp [h, Nat.and_comm 1, Nat.and_one_is_mod]
theorem bit_i64 (a n : Nat) (ha : a < 2 ^ 62) (hn : n ≤ 64) : Go.bits .and .i64 (shr .i64 (a : Int) (n : Int)) 1 = ((a.testBit n).toNat : Int) := by
 have e : shr .i64 (a : Int) (n : Int) = ((a >>> n : Nat) : Int) := by
  unfold shr
  have : min (n : Int).toNat IntKind.i64.bits = n := by show min n 64 = n; omega
  rw [this, Nat.shiftRight_eq_div_pow]
  simp
 have l : a >>> n < 2 ^ 62 := by rw [Nat.shiftRight_eq_div_pow]; exact Nat.lt_of_le_of_lt (Nat.div_le_self _ _) ha
 rw [e, show (1 : Int) = ((1 : Nat) : Int) from rfl, and_i64_nat _ _ l (by decide), bit_of]
theorem xor_bits (p q : Bool) : (Go.bits .xor .i64 (p.toNat : Int) (q.toNat : Int) = 1) ↔ (p ^^ q) = true := by
 rw [xor_i64_nat _ _ (by cases p <;> decide) (by cases q <;> decide)]
 cases p <;> cases q <;> decide
theorem mask_i64 (W : Nat) (hW : W ≤ 16) (a : Nat) (ha : a < 2 ^ 17) : Go.bits .and .i64 (a : Int) (wrap64 (shl .i64 1 (W : Int) - 1)) = ((a % 2 ^ W : Nat) : Int) := by
 have hp : (2 : Nat) ^ W ≤ 2 ^ 16 := Nat.pow_le_pow_right (by decide) hW
 have hp0 : 0 < (2 : Nat) ^ W := Nat.two_pow_pos W
 have e : wrap64 (shl .i64 1 (W : Int) - 1) = ((2 ^ W - 1 : Nat) : Int) := by
  unfold shl
  have : min (W : Int).toNat IntKind.i64.bits = W := by show min W 64 = W; omega
  rw [this, Int.one_mul, show ((2 : Int) ^ W) = ((2 ^ W : Nat) : Int) by simp, IntKind.wrap_i64]
  unfold wrap64; omega
 rw [e, and_i64_nat _ _ (by omega) (by omega), Nat.and_two_pow_sub_one_eq_mod]
variable {W : Nat}
theorem msb_bit (c : BitVec W) : c.toNat.testBit (W - 1) = c.msb := by
 rw [BitVec.msb_eq_getLsbD_last, BitVec.testBit_toNat]
theorem top_bit (hW : 8 ≤ W) (v n : Nat) (hn : n < 8) : (BitVec.ofNat W (v * 2 ^ (W - 8)) <<< n).msb = v.testBit (7 - n) := by
 rw [BitVec.msb_eq_getLsbD_last, BitVec.getLsbD_shiftLeft, BitVec.getLsbD_ofNat, Nat.testBit_mul_two_pow]
 have h1 : ¬ W - 1 < n := by omega
 have h2 : W - 1 < W := by omega
 have h3 : W - 1 - n < W := by omega
 have h4 : W - 8 ≤ W - 1 - n := by omega
 have h5 : W - 1 - n - (W - 8) = 7 - n := by omega
 simp [h1, h2, h3, h4, h5]
theorem inner (hW : 8 ≤ W) (hW16 : W ≤ 16) (P : BitVec W) (v : Nat) (hv : v < 256) (K : Nat) (ls : List Int) (len i : Int) (c0 : BitVec W) :
  ∀ m : Nat, m ≤ 8 → spec_Crc.l1 (K + m + 1) W P.toNat ((stSs P (BitVec.ofNat W (v * 2 ^ (W - 8))) (8 - m) c0).toNat) v ((m : Int) - 1) ls len i =
   spec_Crc.l0 K W P.toNat ((stSs P (BitVec.ofNat W (v * 2 ^ (W - 8))) 8 c0).toNat) ls len (wrap64 (i + 1)) := by
 intro m
 induction m with
 | zero => intro _; rw [spec_Crc.l1, if_neg (by omega)]
 | succ m ih =>
  intro hm
  obtain ⟨c, hc⟩ : ∃ c, stSs P (BitVec.ofNat W (v * 2 ^ (W - 8))) (8 - (m + 1)) c0 = c := ⟨_, rfl⟩
  have hc1 : stSs P (BitVec.ofNat W (v * 2 ^ (W - 8))) (8 - m) c0 = stS P c (v.testBit m) := by
   have e : 8 - m = 8 - (m + 1) + 1 := by omega
   have e2 : 7 - (8 - (m + 1)) = m := by omega
   rw [e, stSs, hc, top_bit hW v _ (by omega), e2]
  have ih' := ih (by omega)
  rw [hc1] at ih'
  rw [hc, ← ih']
  have hlt := c.isLt
  have hp : (2 : Nat) ^ W ≤ 2 ^ 16 := Nat.pow_le_pow_right (by decide) hW16
  have q1 : wrap64 ((W : Int) - 1) = ((W - 1 : Nat) : Int) := by unfold wrap64; omega
  have q2 : ((m + 1 : Nat) : Int) - 1 = (m : Int) := by omega
  have q3 : wrap64 (v : Int) = (v : Int) := by unfold wrap64; omega
  have q4 : wrap64 ((c.toNat : Int) * 2) = ((c.toNat * 2 : Nat) : Int) := by unfold wrap64; omega
  have q5 : wrap64 ((m : Int) - 1) = (m : Int) - 1 := by unfold wrap64; omega
  have q6 : (c.toNat * 2) % 2 ^ W = (c <<< 1).toNat := by rw [BitVec.toNat_shiftLeft, Nat.shiftLeft_eq]
  rw [show K + (m + 1) + 1 = (K + m + 1) + 1 from by omega, spec_Crc.l1, q2, if_pos (by omega), q1, if_pos (by omega), if_pos (by omega), if_pos (by omega), q3, q4,
   bit_i64 _ _ (by omega) (by omega), bit_i64 _ _ (by omega) (by omega), msb_bit, mask_i64 W hW16 _ (by omega), q6, q5]
  have hs : stS P c (v.testBit m) = if (c.msb ^^ v.testBit m) then (c <<< 1) ^^^ P else c <<< 1 := rfl
  have hP := P.isLt
  have h1 := (c <<< 1).isLt
  rw [hs]
  by_cases h : (c.msb ^^ v.testBit m) = true
  ·rw [if_pos ((xor_bits _ _).2 h), if_pos h, xor_i64_nat _ _ (by omega) (by omega), ← BitVec.toNat_xor]
  ·rw [if_neg (fun e => h ((xor_bits _ _).1 e)), if_neg h]
def bW (P c : BitVec W) (v : Int) : BitVec W := stSs P (BitVec.ofInt W (v * 2 ^ (W - 8))) 8 c
theorem outer (hW : 8 ≤ W) (hW16 : W ≤ 16) (P : BitVec W) (l : List Int) (hl : l.length ≤ 2 ^ 62) (hb : ∀ x ∈ l, Byte x) :
  ∀ (d : Nat) (i : Nat) (c : BitVec W), i + d = l.length → ∃ K, spec_Crc.l0 K W P.toNat c.toNat l (l.length : Int) i = some (((l.drop i).foldl (bW P) c).toNat : Int) := by
 intro d
 induction d with
 | zero =>
  intro i c hi
  refine ⟨1, ?_⟩
  rw [spec_Crc.l0, if_neg (by omega), List.drop_eq_nil_of_le (by omega)]; rfl
 | succ d ih =>
  intro i c hi
  have hlt : i < l.length := by omega
  obtain ⟨v, hv⟩ : ∃ v : Nat, l[i] = (v : Int) := ⟨l[i].toNat, by have := (hb _ (List.getElem_mem hlt)).1; omega⟩
  have hv1 : v < 256 := by have := (hb _ (List.getElem_mem hlt)).2; omega
  obtain ⟨K, hK⟩ := ih (i + 1) (bW P c v) (by omega)
  refine ⟨K + 8 + 1 + 1, ?_⟩
  have hr : rd l (i : Int) = (v : Int) := by
   unfold rd; rw [Int.toNat_natCast, List.getD_eq_getElem?_getD, List.getElem?_eq_getElem hlt]; exact hv
  have e := inner hW hW16 P v hv1 K l (l.length : Int) (i : Int) c 8 (by omega)
  have hi1 : wrap64 ((i : Int) + 1) = ((i + 1 : Nat) : Int) := by unfold wrap64; omega
  have hd : BitVec.ofNat W (v * 2 ^ (W - 8)) = BitVec.ofInt W ((v : Int) * 2 ^ (W - 8)) := by
   have : (v : Int) * 2 ^ (W - 8) = ((v * 2 ^ (W - 8) : Nat) : Int) := by simp
   rw [this, BitVec.ofInt_natCast]
  have z : stSs P (BitVec.ofNat W (v * 2 ^ (W - 8))) (8 - 8) c = c := rfl
  rw [z, hi1, hd] at e
  rw [spec_Crc.l0, if_pos (by omega), if_pos (by omega), if_pos (by omega), hr]
  have e7 : ((8 : Nat) : Int) - 1 = 7 := rfl
  rw [e7] at e
  rw [e]
  have hdr : l.drop i = (v : Int) :: l.drop (i + 1) := by rw [List.drop_eq_getElem_cons hlt, hv]
  rw [hdr, List.foldl_cons]
  exact hK
theorem bW8 (c : BitVec 8) (v : Int) : bW 7#8 c v = b8 c v := by
 show stSs 7#8 (BitVec.ofInt 8 (v * 2 ^ 0)) 8 c = _
 rw [Int.pow_zero, Int.mul_one]; rfl
theorem spec8 (l : List Int) (hl : l.length ≤ 2 ^ 62) (hb : ∀ x ∈ l, Byte x) : ∃ K, spec_Crc.f K l 8 7 = some (crc8 l) := by
 obtain ⟨K, h⟩ := outer (W := 8) (by decide) (by decide) 7#8 l hl hb l.length 0 0#8 (by omega)
 refine ⟨K, ?_⟩
 rw [crc8_is l hb]
 have e : l.foldl (bW 7#8) 0#8 = l.foldl b8 0#8 := by
  have : bW 7#8 = b8 := by funext c v; exact bW8 c v
  rw [this]
 rw [List.drop_zero, e] at h
 exact h
theorem spec16 (l : List Int) (hl : l.length ≤ 2 ^ 62) (hb : ∀ x ∈ l, Byte x) : ∃ K, spec_Crc.f K l 16 32773 = some (crc16 l) := by
 obtain ⟨K, h⟩ := outer (W := 16) (by decide) (by decide) 32773#16 l hl hb l.length 0 0#16 (by omega)
 refine ⟨K, ?_⟩
 rw [crc16_is l hb]
 rw [List.drop_zero] at h
 exact h
end Go.Proofs.YtmcllndnjdemaaaGreatDoor.CrcS
