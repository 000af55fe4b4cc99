/- The reference's sum (the printed function) as a fold over words of bits: what it answers for every text of bytes, at 8 and at 16 bits. -/
import Derived.Test.YtjfibofjbofpbaaPFnCrc8x1
import Derived.Test.YtjfibofjbofpbaaCrcP
namespace Go.Proofs.Ytjfibofjbofpbaa.CrcS
open Go Go.RowKit Go.Proofs.YtjfibofjbofpbaaW.PrintWords Go.Proofs.YtjfibofjbofpbaaW.PrintMore
open Go.Proofs.Ytjfibofjbofpbaa.Crc Go.Proofs.Ytjfibofjbofpbaa.CrcP Go.Proofs.Ytjfibofjbofpbaa.PFnCrc8

theorem xor_i64_nat (a b : Nat) (ha : a < 2 ^ 62) (hb : b < 2 ^ 62) : Go.bits .xor .i64 (a : Int) (b : Int) = ((a ^^^ b : Nat) : Int) := by
  have h : Go.bits .xor .i64 (a : Int) (b : Int) = IntKind.i64.wrap ((BitVec.ofInt 64 (a : Int) ^^^ BitVec.ofInt 64 (b : Int)).toNat : Int) := rfl
  have hx : a ^^^ b < 2 ^ 62 := Nat.xor_lt_two_pow ha hb
  rw [h, BitVec.ofInt_natCast, BitVec.ofInt_natCast, BitVec.toNat_xor, BitVec.toNat_ofNat, BitVec.toNat_ofNat, Nat.mod_eq_of_lt (by omega), Nat.mod_eq_of_lt (by omega), IntKind.wrap_i64]
  omega
theorem and_i64_nat (a b : Nat) (ha : a < 2 ^ 62) (hb : b < 2 ^ 62) : Go.bits .and .i64 (a : Int) (b : Int) = ((a &&& b : Nat) : Int) := by
  have h : Go.bits .and .i64 (a : Int) (b : Int) = IntKind.i64.wrap ((BitVec.ofInt 64 (a : Int) &&& BitVec.ofInt 64 (b : Int)).toNat : Int) := rfl
  have hx : a &&& b < 2 ^ 62 := Nat.and_lt_two_pow _ hb
  rw [h, BitVec.ofInt_natCast, BitVec.ofInt_natCast, BitVec.toNat_and, BitVec.toNat_ofNat, BitVec.toNat_ofNat, Nat.mod_eq_of_lt (by omega), Nat.mod_eq_of_lt (by omega), IntKind.wrap_i64]
  omega
theorem bit_of (a n : Nat) : (a >>> n &&& 1) = (a.testBit n).toNat := by
  rw [Nat.testBit]
  rcases Nat.mod_two_eq_zero_or_one (a >>> n) with h | h <;> simp [h, Nat.and_comm 1, Nat.and_one_is_mod]
theorem bit_i64 (a n : Nat) (ha : a < 2 ^ 62) (hn : n ≤ 64) : Go.bits .and .i64 (shr .i64 (a : Int) (n : Int)) 1 = ((a.testBit n).toNat : Int) := by
  have e : shr .i64 (a : Int) (n : Int) = ((a >>> n : Nat) : Int) := by
    unfold shr
    have : min (n : Int).toNat IntKind.i64.bits = n := by show min n 64 = n; omega
    rw [this, Nat.shiftRight_eq_div_pow]
    simp
  have l : a >>> n < 2 ^ 62 := by rw [Nat.shiftRight_eq_div_pow]; exact Nat.lt_of_le_of_lt (Nat.div_le_self _ _) ha
  rw [e, show (1 : Int) = ((1 : Nat) : Int) from rfl, and_i64_nat _ _ l (by decide), bit_of]
theorem xor_bits (p q : Bool) : (Go.bits .xor .i64 (p.toNat : Int) (q.toNat : Int) = 1) ↔ (p ^^ q) = true := by
  rw [xor_i64_nat _ _ (by cases p <;> decide) (by cases q <;> decide)]
  cases p <;> cases q <;> decide
theorem mask_i64 (W : Nat) (hW : W ≤ 16) (a : Nat) (ha : a < 2 ^ 17) : Go.bits .and .i64 (a : Int) (wrap64 (shl .i64 1 (W : Int) - 1)) = ((a % 2 ^ W : Nat) : Int) := by
  have hp : (2 : Nat) ^ W ≤ 2 ^ 16 := Nat.pow_le_pow_right (by decide) hW
  have hp0 : 0 < (2 : Nat) ^ W := Nat.two_pow_pos W
  have e : wrap64 (shl .i64 1 (W : Int) - 1) = ((2 ^ W - 1 : Nat) : Int) := by
    unfold shl
    have : min (W : Int).toNat IntKind.i64.bits = W := by show min W 64 = W; omega
    rw [this, Int.one_mul, show ((2 : Int) ^ W) = ((2 ^ W : Nat) : Int) by simp, IntKind.wrap_i64]
    unfold wrap64; omega
  rw [e, and_i64_nat _ _ (by omega) (by omega), Nat.and_two_pow_sub_one_eq_mod]

variable {W : Nat}
theorem msb_bit (c : BitVec W) : c.toNat.testBit (W - 1) = c.msb := by
  rw [BitVec.msb_eq_getLsbD_last, BitVec.testBit_toNat]
/-- The text's bit: byte v, laid at the top. -/
theorem top_bit (hW : 8 ≤ W) (v n : Nat) (hn : n < 8) : (BitVec.ofNat W (v * 2 ^ (W - 8)) <<< n).msb = v.testBit (7 - n) := by
  rw [BitVec.msb_eq_getLsbD_last, BitVec.getLsbD_shiftLeft, BitVec.getLsbD_ofNat, Nat.testBit_mul_two_pow]
  have h1 : ¬ W - 1 < n := by omega
  have h2 : W - 1 < W := by omega
  have h3 : W - 1 - n < W := by omega
  have h4 : W - 8 ≤ W - 1 - n := by omega
  have h5 : W - 1 - n - (W - 8) = 7 - n := by omega
  simp [h1, h2, h3, h4, h5]

theorem inner (hW : 8 ≤ W) (hW16 : W ≤ 16) (P : BitVec W) (v : Nat) (hv : v < 256) (K : Nat) (ls : List Int) (len i : Int) (c0 : BitVec W) :
    ∀ m : Nat, m ≤ 8 → spec_Crc.l1 (K + m + 1) W P.toNat ((stSs P (BitVec.ofNat W (v * 2 ^ (W - 8))) (8 - m) c0).toNat) v ((m : Int) - 1) ls len i =
      spec_Crc.l0 K W P.toNat ((stSs P (BitVec.ofNat W (v * 2 ^ (W - 8))) 8 c0).toNat) ls len (wrap64 (i + 1)) := by
  intro m
  induction m with
  | zero => intro _; rw [spec_Crc.l1, if_neg (by omega)]
  | succ m ih =>
    intro hm
    obtain ⟨c, hc⟩ : ∃ c, stSs P (BitVec.ofNat W (v * 2 ^ (W - 8))) (8 - (m + 1)) c0 = c := ⟨_, rfl⟩
    have hc1 : stSs P (BitVec.ofNat W (v * 2 ^ (W - 8))) (8 - m) c0 = stS P c (v.testBit m) := by
      have e : 8 - m = 8 - (m + 1) + 1 := by omega
      have e2 : 7 - (8 - (m + 1)) = m := by omega
      rw [e, stSs, hc, top_bit hW v _ (by omega), e2]
    have ih' := ih (by omega)
    rw [hc1] at ih'
    rw [hc, ← ih']
    have hlt := c.isLt
    have hp : (2 : Nat) ^ W ≤ 2 ^ 16 := Nat.pow_le_pow_right (by decide) hW16
    have q1 : wrap64 ((W : Int) - 1) = ((W - 1 : Nat) : Int) := by unfold wrap64; omega
    have q2 : ((m + 1 : Nat) : Int) - 1 = (m : Int) := by omega
    have q3 : wrap64 (v : Int) = (v : Int) := by unfold wrap64; omega
    have q4 : wrap64 ((c.toNat : Int) * 2) = ((c.toNat * 2 : Nat) : Int) := by unfold wrap64; omega
    have q5 : wrap64 ((m : Int) - 1) = (m : Int) - 1 := by unfold wrap64; omega
    have q6 : (c.toNat * 2) % 2 ^ W = (c <<< 1).toNat := by rw [BitVec.toNat_shiftLeft, Nat.shiftLeft_eq]
    rw [show K + (m + 1) + 1 = (K + m + 1) + 1 from by omega, spec_Crc.l1, q2, if_pos (by omega), q1, if_pos (by omega), if_pos (by omega), if_pos (by omega), q3, q4,
      bit_i64 _ _ (by omega) (by omega), bit_i64 _ _ (by omega) (by omega), msb_bit, mask_i64 W hW16 _ (by omega), q6, q5]
    have hs : stS P c (v.testBit m) = if (c.msb ^^ v.testBit m) then (c <<< 1) ^^^ P else c <<< 1 := rfl
    have hP := P.isLt
    have h1 := (c <<< 1).isLt
    rw [hs]
    by_cases h : (c.msb ^^ v.testBit m) = true
    · rw [if_pos ((xor_bits _ _).2 h), if_pos h, xor_i64_nat _ _ (by omega) (by omega), ← BitVec.toNat_xor]
    · rw [if_neg (fun e => h ((xor_bits _ _).1 e)), if_neg h]

/-- One byte of the reference. -/
def bW (P c : BitVec W) (v : Int) : BitVec W := stSs P (BitVec.ofInt W (v * 2 ^ (W - 8))) 8 c

theorem outer (hW : 8 ≤ W) (hW16 : W ≤ 16) (P : BitVec W) (l : List Int) (hl : l.length ≤ 2 ^ 62) (hb : ∀ x ∈ l, Byte x) :
    ∀ (d : Nat) (i : Nat) (c : BitVec W), i + d = l.length → ∃ K, spec_Crc.l0 K W P.toNat c.toNat l (l.length : Int) i = some (((l.drop i).foldl (bW P) c).toNat : Int) := by
  intro d
  induction d with
  | zero =>
    intro i c hi
    refine ⟨1, ?_⟩
    rw [spec_Crc.l0, if_neg (by omega), List.drop_eq_nil_of_le (by omega)]; rfl
  | succ d ih =>
    intro i c hi
    have hlt : i < l.length := by omega
    obtain ⟨v, hv⟩ : ∃ v : Nat, l[i] = (v : Int) := ⟨l[i].toNat, by have := (hb _ (List.getElem_mem hlt)).1; omega⟩
    have hv1 : v < 256 := by have := (hb _ (List.getElem_mem hlt)).2; omega
    obtain ⟨K, hK⟩ := ih (i + 1) (bW P c v) (by omega)
    refine ⟨K + 8 + 1 + 1, ?_⟩
    have hr : rd l (i : Int) = (v : Int) := by
      unfold rd; rw [Int.toNat_natCast, List.getD_eq_getElem?_getD, List.getElem?_eq_getElem hlt]; exact hv
    have e := inner hW hW16 P v hv1 K l (l.length : Int) (i : Int) c 8 (by omega)
    have hi1 : wrap64 ((i : Int) + 1) = ((i + 1 : Nat) : Int) := by unfold wrap64; omega
    have hd : BitVec.ofNat W (v * 2 ^ (W - 8)) = BitVec.ofInt W ((v : Int) * 2 ^ (W - 8)) := by
      have : (v : Int) * 2 ^ (W - 8) = ((v * 2 ^ (W - 8) : Nat) : Int) := by simp
      rw [this, BitVec.ofInt_natCast]
    have z : stSs P (BitVec.ofNat W (v * 2 ^ (W - 8))) (8 - 8) c = c := rfl
    rw [z, hi1, hd] at e
    rw [spec_Crc.l0, if_pos (by omega), if_pos (by omega), if_pos (by omega), hr]
    have e7 : ((8 : Nat) : Int) - 1 = 7 := rfl
    rw [e7] at e
    rw [e]
    have hdr : l.drop i = (v : Int) :: l.drop (i + 1) := by rw [List.drop_eq_getElem_cons hlt, hv]
    rw [hdr, List.foldl_cons]
    exact hK

theorem bW8 (c : BitVec 8) (v : Int) : bW 7#8 c v = b8 c v := by
  show stSs 7#8 (BitVec.ofInt 8 (v * 2 ^ 0)) 8 c = _
  rw [Int.pow_zero, Int.mul_one]; rfl
theorem bW16 (c : BitVec 16) (v : Int) : bW 32773#16 c v = b16 c v := rfl

/-- THE REFERENCE TELLS THE PACKAGE's SUM. -/
theorem spec8 (l : List Int) (hl : l.length ≤ 2 ^ 62) (hb : ∀ x ∈ l, Byte x) : ∃ K, spec_Crc.f K l 8 7 = some (crc8 l) := by
  obtain ⟨K, h⟩ := outer (W := 8) (by decide) (by decide) 7#8 l hl hb l.length 0 0#8 (by omega)
  refine ⟨K, ?_⟩
  rw [crc8_is l hb]
  have e : l.foldl (bW 7#8) 0#8 = l.foldl b8 0#8 := by
    have : bW 7#8 = b8 := by funext c v; exact bW8 c v
    rw [this]
  rw [List.drop_zero, e] at h
  exact h
theorem spec16 (l : List Int) (hl : l.length ≤ 2 ^ 62) (hb : ∀ x ∈ l, Byte x) : ∃ K, spec_Crc.f K l 16 32773 = some (crc16 l) := by
  obtain ⟨K, h⟩ := outer (W := 16) (by decide) (by decide) 32773#16 l hl hb l.length 0 0#16 (by omega)
  refine ⟨K, ?_⟩
  rw [crc16_is l hb]
  rw [List.drop_zero] at h
  exact h
end Go.Proofs.Ytjfibofjbofpbaa.CrcS
