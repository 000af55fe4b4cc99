/- Numbers out of bits, the highest of each byte first: plain facts, no program. -/
import Derived.Laws.Bits64
import Derived.Laws.BitsLemmas
import Derived.Laws.BitsAllLaws
namespace Go.Proofs.YtcdfbcanebjmfaaDoor.Num
set_option linter.unusedVariables false
set_option linter.unusedSimpArgs false
open Go

def byteAt (l : List Int) (i : Nat) : Nat := (l.getD i 0).toNat
def bitAt (l : List Int) (i : Nat) : Nat := byteAt l (i / 8) / 2 ^ (7 - i % 8) % 2
/-- The number in n bits from the bit 'at' on. -/
def num (l : List Int) (at_ : Nat) : Nat → Nat
  | 0 => 0
  | n + 1 => 2 * num l at_ n + bitAt l (at_ + n)

theorem bitAt_lt (l : List Int) (i : Nat) : bitAt l i < 2 := Nat.mod_lt _ (by decide)
theorem num_lt (l : List Int) (a n : Nat) : num l a n < 2 ^ n := by
  induction n with
  | zero => simp [num]
  | succ n ih => have := bitAt_lt l (a + n); rw [num, Nat.pow_succ]; omega
theorem num_add (l : List Int) (a m n : Nat) : num l a (m + n) = num l a m * 2 ^ n + num l (a + m) n := by
  induction n with
  | zero => simp [num]
  | succ n ih =>
    rw [show m + (n + 1) = (m + n) + 1 from rfl, num, ih, num, Nat.pow_succ, show a + (m + n) = a + m + n from by omega, Nat.mul_add]
    have : num l a m * (2 ^ n * 2) = 2 * (num l a m * 2 ^ n) := by rw [← Nat.mul_assoc, Nat.mul_comm]
    omega
/-- Bits within one byte. -/
theorem num_in (l : List Int) (p j k : Nat) (h : j + k ≤ 8) : num l (8 * p + j) k = byteAt l p / 2 ^ (8 - j - k) % 2 ^ k := by
  induction k with
  | zero => simp [num, Nat.mod_one]
  | succ k ih =>
    rw [num, ih (by omega)]
    have e1 : (8 * p + j + k) / 8 = p := by omega
    have e2 : (8 * p + j + k) % 8 = j + k := by omega
    unfold bitAt
    rw [e1, e2]
    have e3 : 8 - j - k = (7 - (j + k)) + 1 := by omega
    have e4 : 8 - j - (k + 1) = 7 - (j + k) := by omega
    rw [e3, e4, Nat.pow_succ, ← Nat.div_div_eq_div_mul]
    obtain ⟨q, hq⟩ : ∃ q, byteAt l p / 2 ^ (7 - (j + k)) = q := ⟨_, rfl⟩
    rw [hq, Nat.pow_succ, Nat.mul_comm (2 ^ k) 2, Nat.mod_mul]
    omega
theorem num_byte (l : List Int) (p : Nat) (h : byteAt l p < 256) : num l (8 * p) 8 = byteAt l p := by
  have := num_in l p 0 8 (by omega)
  rw [Nat.add_zero] at this
  rw [this]; simp; omega

/-! ### the walk's forms -/
theorem or_u64_add (a b : Int) (k : Nat) (ha : 0 ≤ a) (hb : 0 ≤ b) (hb1 : b < 2 ^ k) (hk : a * 2 ^ k + b < 18446744073709551616) :
    Go.bits .or .u64 (a * 2 ^ k) b = a * 2 ^ k + b := by
  obtain ⟨A, rfl⟩ := Int.eq_ofNat_of_zero_le ha
  obtain ⟨B, rfl⟩ := Int.eq_ofNat_of_zero_le hb
  have e : (A : Int) * 2 ^ k = ((A * 2 ^ k : Nat) : Int) := by simp
  have hB : B < 2 ^ k := by exact_mod_cast hb1
  rw [e] at hk ⊢
  obtain ⟨Z, hZ⟩ : ∃ Z, A * 2 ^ k = Z := ⟨_, rfl⟩
  rw [hZ] at hk
  have hlt : Z + B < 18446744073709551616 := by omega
  rw [hZ, u64_or _ _ (by omega) (by omega) (by omega) (by omega), Int.toNat_natCast, Int.toNat_natCast, ← hZ, Nat.mul_comm A, ← Nat.two_pow_add_eq_or_of_lt hB]
  rfl
/-- x <<= 8; x |= b. -/
theorem or_byte (N b : Nat) (hb : b < 256) (hN : N * 256 + b < 18446744073709551616) : Go.bits .or .u64 (IntKind.u64.wrap ((N : Int) * 256)) (b : Int) = ((N * 256 + b : Nat) : Int) := by
  have e : IntKind.u64.wrap ((N : Int) * 256) = (N : Int) * 2 ^ 8 := by rw [IntKind.wrap_u64]; omega
  rw [e, or_u64_add (N : Int) (b : Int) 8 (by omega) (by omega) (by omega) (by omega)]
  omega
/-- The mask 0xFF << k, and what it takes and leaves. -/
theorem and_mask (b k : Nat) (hb : b < 256) (hk : k ≤ 7) : b &&& (255 * 2 ^ k % 256) = b / 2 ^ k * 2 ^ k := by
  have key : ∀ k : Fin 8, ∀ b : Fin 256, b.val &&& (255 * 2 ^ k.val % 256) = b.val / 2 ^ k.val * 2 ^ k.val := by decide +kernel
  exact key ⟨k, by omega⟩ ⟨b, hb⟩
theorem and_unmask (b k : Nat) (hb : b < 256) (hk : k ≤ 7) : b &&& (255 - 255 * 2 ^ k % 256) = b % 2 ^ k := by
  have key : ∀ k : Fin 8, ∀ b : Fin 256, b.val &&& (255 - 255 * 2 ^ k.val % 256) = b.val % 2 ^ k.val := by decide +kernel
  exact key ⟨k, by omega⟩ ⟨b, hb⟩
theorem mask_int (k : Nat) : (255 * 2 ^ k % 256 : Int) = ((255 * 2 ^ k % 256 : Nat) : Int) ∧ (255 * 2 ^ k % 256 : Nat) < 256 := by
  refine ⟨by simp, Nat.mod_lt _ (by decide)⟩
theorem mask_of (b k : Nat) (hb : b < 256) (hk : k ≤ 7) : Go.bits .and .u8 (b : Int) (255 * 2 ^ k % 256) = ((b / 2 ^ k * 2 ^ k : Nat) : Int) := by
  obtain ⟨e, h⟩ := mask_int k
  rw [e, u8_and_nat b _ hb h, and_mask b k hb hk]
theorem unmask_of (b k : Nat) (hb : b < 256) (hk : k ≤ 7) : Go.bits .andNot .u8 (b : Int) (255 * 2 ^ k % 256) = ((b % 2 ^ k : Nat) : Int) := by
  obtain ⟨e, h⟩ := mask_int k
  rw [e, u8_andNot_nat b _ hb h, and_unmask b k hb hk]
theorem div_cast (a k : Nat) : ((a * 2 ^ k : Nat) : Int) / 2 ^ k = (a : Int) := by
  have : (2 : Int) ^ k = ((2 ^ k : Nat) : Int) := by simp
  rw [this]
  have h : ((a * 2 ^ k : Nat) : Int) / ((2 ^ k : Nat) : Int) = ((a * 2 ^ k / 2 ^ k : Nat) : Int) := by simp
  rw [h, Nat.mul_div_cancel _ (Nat.two_pow_pos k)]
theorem and_unmask2 (b k : Nat) (hb : b < 256) (hk : k ≤ 7) : b &&& (255 ^^^ (255 * 2 ^ k % 256)) = b % 2 ^ k := by
  have key : ∀ k : Fin 8, ∀ b : Fin 256, b.val &&& (255 ^^^ (255 * 2 ^ k.val % 256)) = b.val % 2 ^ k.val := by decide +kernel
  exact key ⟨k, by omega⟩ ⟨b, hb⟩
theorem unmask2_of (b k : Nat) (hb : b < 256) (hk : k ≤ 7) : Go.bits .and .u8 (b : Int) (Go.bits .xor .u8 IntKind.u8.max (255 * 2 ^ k % 256)) = ((b % 2 ^ k : Nat) : Int) := by
  obtain ⟨e, h⟩ := mask_int k
  have hm : IntKind.u8.max = ((255 : Nat) : Int) := rfl
  have hx : 255 ^^^ (255 * 2 ^ k % 256) < 256 := Nat.xor_lt_two_pow (n := 8) (by omega) (by omega)
  rw [e, hm, u8_xor_nat 255 _ (by omega) h, u8_and_nat b _ hb hx, and_unmask2 b k hb hk]
/-- x <<= r; x |= (b & mask) >> (8 - r): r bits more. -/
theorem or_bits (y b q r d : Nat) (hb : b < 256) (hq : q = b / 2 ^ d * 2 ^ d) (hd : 8 - r = d) (hr : 0 < r) (hr8 : r < 8) (hy : y * 2 ^ r + 2 ^ r ≤ 18446744073709551616) :
    Go.bits .or .u64 (IntKind.u64.wrap ((y : Int) * 2 ^ r)) ((q : Int) / 2 ^ d) = ((y * 2 ^ r + b / 2 ^ (8 - r) % 2 ^ r : Nat) : Int) := by
  rw [hq, div_cast, hd]
  have hsm : b / 2 ^ d < 2 ^ r := by
    apply Nat.div_lt_of_lt_mul
    rw [← Nat.pow_add, show d + r = 8 from by omega]; exact hb
  rw [Nat.mod_eq_of_lt hsm]
  have e1 : ((y : Int) * 2 ^ r) = ((y * 2 ^ r : Nat) : Int) := by simp
  obtain ⟨z, hz⟩ : ∃ z, b / 2 ^ d = z := ⟨_, rfl⟩
  rw [hz] at hsm ⊢
  obtain ⟨P, hP⟩ : ∃ P, 2 ^ r = P := ⟨_, rfl⟩
  have hw : IntKind.u64.wrap ((y : Int) * 2 ^ r) = (y : Int) * 2 ^ r := by
    rw [e1, IntKind.wrap_u64, hP]; rw [hP] at hy hsm; omega
  have hPi : (2 : Int) ^ r = (P : Int) := by rw [← hP]; simp
  rw [hw, or_u64_add (y : Int) (z : Int) r (by omega) (by omega) (by rw [hPi]; rw [hP] at hsm; omega) (by rw [e1, hP]; rw [hP] at hy hsm; omega), e1]
  omega
/-- x0, and behind it m bits from byte p on. -/
def acc (l : List Int) (p x0 m : Nat) : Nat := x0 * 2 ^ m + num l (8 * p) m
theorem acc_byte (l : List Int) (p x0 j : Nat) (h : byteAt l (p + j) < 256) : acc l p x0 (8 * (j + 1)) = acc l p x0 (8 * j) * 256 + byteAt l (p + j) := by
  unfold acc
  rw [show 8 * (j + 1) = 8 * j + 8 from by omega, num_add, show 8 * p + 8 * j = 8 * (p + j) from by omega, num_byte l (p + j) h, Nat.pow_add, Nat.add_mul, ← Nat.mul_assoc]
  omega
theorem acc_bits (l : List Int) (p x0 j r : Nat) (hr : r ≤ 8) : acc l p x0 (8 * j + r) = acc l p x0 (8 * j) * 2 ^ r + byteAt l (p + j) / 2 ^ (8 - r) % 2 ^ r := by
  unfold acc
  have h1 := num_in l (p + j) 0 r (by omega)
  rw [Nat.add_zero, show 8 - 0 - r = 8 - r from by omega] at h1
  rw [num_add, show 8 * p + 8 * j = 8 * (p + j) from by omega, h1, Nat.pow_add, Nat.add_mul, ← Nat.mul_assoc]
  omega
theorem acc_lt (l : List Int) (p x0 m nb : Nat) (h : x0 < 2 ^ nb) : acc l p x0 m < 2 ^ (nb + m) := by
  unfold acc
  have h1 := num_lt l (8 * p) m
  have h2 : (x0 + 1) * 2 ^ m ≤ 2 ^ nb * 2 ^ m := Nat.mul_le_mul_right _ (by omega)
  rw [Nat.add_mul, Nat.one_mul, ← Nat.pow_add] at h2
  omega
end Go.Proofs.YtcdfbcanebjmfaaDoor.Num
