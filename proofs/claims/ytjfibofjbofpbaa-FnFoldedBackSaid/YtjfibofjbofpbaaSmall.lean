/- Small facts on bits: the exclusive or with nought and with -1 at 32 bits, the lowest bit of a number. -/
import Derived.Laws.Bits64
import Derived.Laws.BitsLemmas
import Derived.Laws.BitsAllLaws
import Derived.RowKit
namespace Go.Proofs.Ytjfibofjbofpbaa.Small
open Go Go.RowKit

theorem ofInt_toNat (n : Nat) (x : Int) : (((BitVec.ofInt n x).toNat : Nat) : Int) = x % (2 ^ n : Nat) := by
  rw [BitVec.toNat_ofInt]
  have h : (0 : Int) < ((2 ^ n : Nat) : Int) := by exact_mod_cast Nat.two_pow_pos n
  have := Int.emod_nonneg x (Int.ne_of_gt h)
  omega

theorem xor_i32_zero (x : Int) (h0 : -2147483648 ≤ x) (h1 : x ≤ 2147483647) : Go.bits .xor .i32 x 0 = x := by
  show IntKind.i32.wrap ((BitVec.ofInt 32 x ^^^ BitVec.ofInt 32 0).toNat : Int) = x
  have e : BitVec.ofInt 32 0 = 0#32 := rfl
  rw [e, BitVec.xor_zero, ofInt_toNat, IntKind.wrap_i32]
  omega

theorem xor_i32_ones (x : Int) (h0 : -2147483648 ≤ x) (h1 : x ≤ 2147483647) : Go.bits .xor .i32 x (-1) = -x - 1 := by
  show IntKind.i32.wrap ((BitVec.ofInt 32 x ^^^ BitVec.ofInt 32 (-1)).toNat : Int) = -x - 1
  have e : BitVec.ofInt 32 (-1) = BitVec.allOnes 32 := rfl
  have k := ofInt_toNat 32 x
  rw [e, BitVec.xor_allOnes, BitVec.toNat_not, IntKind.wrap_i32]
  have l := (BitVec.ofInt 32 x).isLt
  omega

theorem and1_u32 (x : Int) (h0 : 0 ≤ x) (h1 : x < 4294967296) : Go.bits .and .u32 x 1 = x % 2 := by
  rw [u32_and x 1 h0 h1 (by decide) (by decide)]
  have : (x.toNat &&& (1 : Int).toNat) = x.toNat % 2 := Nat.and_one_is_mod _
  rw [this]; omega

theorem and1_i64 (x : Int) : Go.bits .and .i64 x 1 = x % 2 := by
  show IntKind.i64.wrap ((BitVec.ofInt 64 x &&& BitVec.ofInt 64 1).toNat : Int) = x % 2
  have e : BitVec.ofInt 64 1 = 1#64 := rfl
  have k := ofInt_toNat 64 x
  rw [e, BitVec.toNat_and]
  have : (BitVec.ofInt 64 x).toNat &&& (1#64).toNat = (BitVec.ofInt 64 x).toNat % 2 := Nat.and_one_is_mod _
  rw [this, IntKind.wrap_i64]
  omega

theorem wf_u32 {x : Int} (h : (Lit.int .u32 x).wf = true) : 0 ≤ x ∧ x ≤ 4294967295 := by
  have h1 : IntKind.u32.min = 0 := rfl
  have h2 : IntKind.u32.max = 4294967295 := rfl
  simp only [Lit.wf, Bool.and_eq_true, decide_eq_true_eq] at h
  omega
theorem wf_i32 {x : Int} (h : (Lit.int .i32 x).wf = true) : -2147483648 ≤ x ∧ x ≤ 2147483647 := by
  have h1 : IntKind.i32.min = -2147483648 := rfl
  have h2 : IntKind.i32.max = 2147483647 := rfl
  simp only [Lit.wf, Bool.and_eq_true, decide_eq_true_eq] at h
  omega
theorem two_and (m x : Nat) (hx : x < 2 * 2 ^ m) : x &&& 2 ^ m = if x < 2 ^ m then 0 else 2 ^ m := by
  have key : x &&& 2 ^ m = if x.testBit m then 2 ^ m else 0 := by
    apply Nat.eq_of_testBit_eq
    intro i
    rw [Nat.testBit_and, Nat.testBit_two_pow]
    by_cases hi : m = i
    · subst hi; by_cases hb : x.testBit m <;> simp [hb]
    · by_cases hb : x.testBit m <;> simp [hb, hi]
  rw [key]
  by_cases h : x < 2 ^ m
  · rw [if_pos h, Nat.testBit_lt_two_pow h]; simp
  · rw [if_neg h]
    have : x.testBit m = true := by
      rw [Nat.testBit_eq_decide_div_mod_eq]
      have : x / 2 ^ m = 1 := by
        apply Nat.div_eq_of_lt_le <;> omega
      rw [this]; rfl
    rw [this]; simp
theorem two_xor (m x : Nat) (hx : x < 2 * 2 ^ m) (h : 2 ^ m ≤ x) : x ^^^ 2 ^ m = x - 2 ^ m := by
  obtain ⟨y, rfl⟩ : ∃ y, x = 2 ^ m + y := ⟨x - 2 ^ m, by omega⟩
  have hy : y < 2 ^ m := by omega
  have e : 2 ^ m + y = y ^^^ 2 ^ m := by
    apply Nat.eq_of_testBit_eq
    intro i
    rw [Nat.testBit_xor, Nat.testBit_two_pow]
    rcases Nat.lt_trichotomy i m with h1 | h1 | h1
    · rw [Nat.testBit_two_pow_add_gt h1]
      have : ¬ m = i := by omega
      simp [this]
    · subst h1; rw [Nat.testBit_two_pow_add_eq]; simp
    · have h2 : 2 * 2 ^ m ≤ 2 ^ i := by rw [Nat.mul_comm, ← Nat.pow_succ]; exact Nat.pow_le_pow_right (by decide) h1
      rw [Nat.testBit_lt_two_pow (by omega), Nat.testBit_lt_two_pow (by omega)]
      have : ¬ m = i := by omega
      simp [this]
  rw [e, Nat.xor_assoc, Nat.xor_self, Nat.xor_zero]
  rw [← e]; omega
theorem wf_u64 {x : Int} (h : (Lit.int .u64 x).wf = true) : 0 ≤ x ∧ x ≤ 18446744073709551615 := by
  have h1 : IntKind.u64.min = 0 := rfl
  have h2 : IntKind.u64.max = 18446744073709551615 := rfl
  simp only [Lit.wf, Bool.and_eq_true, decide_eq_true_eq] at h
  omega
theorem wf_u8 {x : Int} (h : (Lit.int .u8 x).wf = true) : 0 ≤ x ∧ x ≤ 255 := by
  have h1 : IntKind.u8.min = 0 := rfl
  have h2 : IntKind.u8.max = 255 := rfl
  simp only [Lit.wf, Bool.and_eq_true, decide_eq_true_eq] at h
  omega
end Go.Proofs.Ytjfibofjbofpbaa.Small
