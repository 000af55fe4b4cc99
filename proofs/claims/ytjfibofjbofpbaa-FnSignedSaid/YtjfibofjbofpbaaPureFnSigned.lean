/- The number that so many bits tell, the highest one below 0: for every uint64 and every width of 1 to 64 bits the package's answer is that of two shifts. -/
import Derived.Test.YtjfibofjbofpbaaPFnSignedx1
import Derived.Test.YtjfibofjbofpbaaSmall
namespace Go.Proofs.Ytjfibofjbofpbaa.Pure
open Go.RowKit Go.Proofs.Ytjfibofjbofpbaa.PFnSigned Go.Proofs.YtjfibofjbofpbaaW.PrintWords Go.Proofs.YtjfibofjbofpbaaW.PrintLast Go.Proofs.YtjfibofjbofpbaaW.PrintMore
open Go.Proofs.Ytjfibofjbofpbaa.Small

theorem wraps_to (X P : Nat) (h0 : P ≤ X) (h1 : X < 2 * P) (h2 : P ≤ 2 ^ 63) : wrap64 (wrap64 ((X - P : Nat) : Int) - wrap64 (P : Int)) = (X : Int) - 2 * (P : Int) := by
  obtain ⟨Y, rfl⟩ : ∃ Y, X = P + Y := ⟨X - P, by omega⟩
  have e : P + Y - P = Y := by omega
  rw [e]
  have e1 : wrap64 (Y : Int) = Y := by unfold wrap64; omega
  rw [e1]
  by_cases hp : P = 2 ^ 63
  · have e2 : wrap64 (P : Int) = -9223372036854775808 := by rw [hp]; unfold wrap64; omega
    rw [e2]; unfold wrap64; omega
  · have e2 : wrap64 (P : Int) = P := by unfold wrap64; omega
    rw [e2]; unfold wrap64; omega

/-- The halves of the road: m + 1 bits, P and S the powers of two on either side. -/
theorem intN_of (m : Nat) (hm : m < 64) (x : Int) (h0 : 0 ≤ x) (h1 : x < 2 * 2 ^ m) :
    bits_IntN.f x ((m : Int) + 1) = some (if x < 2 ^ m then x else x - 2 * 2 ^ m) := by
  have hP : (2 : Nat) ^ m ≤ 2 ^ 63 := Nat.pow_le_pow_right (by decide) (by omega)
  have hPp : (0 : Nat) < 2 ^ m := Nat.two_pow_pos m
  have hPi : ((2 : Int) ^ m) = ((2 ^ m : Nat) : Int) := by simp
  obtain ⟨P, hPd⟩ : ∃ P : Nat, 2 ^ m = P := ⟨_, rfl⟩
  obtain ⟨X, rfl⟩ := Int.eq_ofNat_of_zero_le h0
  rw [hPi, hPd] at h1 ⊢
  have h1' : X < 2 * P := by omega
  have e1 : IntKind.u64.wrap ((m : Int) + 1 - 1) = (m : Int) := by rw [IntKind.wrap_u64]; omega
  have e2 : shl .u64 1 (m : Int) = (P : Int) := by
    unfold shl
    have : min (m : Int).toNat IntKind.u64.bits = m := by show min m 64 = m; omega
    rw [this, Int.one_mul, hPi, hPd, IntKind.wrap_u64]; omega
  have e3 : Go.bits .and .u64 (X : Int) (P : Int) = ((if X < P then 0 else P : Nat) : Int) := by
    have h2 := two_and m X (by rw [hPd]; exact h1')
    rw [hPd] at h2
    rw [u64_and _ _ (by omega) (by omega) (by omega) (by omega)]
    show ((X &&& P : Nat) : Int) = _
    rw [h2]
  unfold bits_IntN.f
  rw [e1, e2, e3, if_pos (by omega)]
  by_cases hx : X < P
  · rw [if_pos hx, Int.natCast_zero, if_pos rfl, if_pos (by omega)]
    exact congrArg some (by unfold wrap64; omega)
  · have e4 : Go.bits .xor .u64 (X : Int) (P : Int) = ((X - P : Nat) : Int) := by
      have h2 := two_xor m X (by rw [hPd]; exact h1') (by rw [hPd]; omega)
      rw [hPd] at h2
      rw [u64_xor _ _ (by omega) (by omega) (by omega) (by omega)]
      show ((X ^^^ P : Nat) : Int) = _
      rw [h2]
    rw [if_neg hx, if_neg (by omega), if_neg (by omega), e4]
    exact congrArg some (wraps_to X P (by omega) h1' (by rw [hPd] at hP; exact hP))

theorem pow63 : (2 : Int) ^ 63 = 9223372036854775808 := by decide

theorem shifted (m : Nat) (hm : m < 64) (x : Int) :
    shr .u64 (shl .u64 x (63 - (m : Int))) (63 - (m : Int)) = x % (2 * 2 ^ m) := by
  have e : (2 : Int) ^ (63 - m) * (2 * 2 ^ m) = 18446744073709551616 := by
    have h : 63 - m + m = 63 := by omega
    rw [← Int.mul_assoc, Int.mul_comm _ 2, Int.mul_assoc, ← Int.pow_add, h, pow63]
    decide
  have hp : (0 : Int) < 2 ^ (63 - m) := by exact_mod_cast Nat.two_pow_pos (63 - m)
  unfold shr shl
  have hs : min (63 - (m : Int)).toNat IntKind.u64.bits = 63 - m := by show min (63 - (m : Int)).toNat 64 = _; omega
  rw [hs, IntKind.wrap_u64, ← e, Int.mul_comm x, Int.mul_emod_mul_of_pos _ _ hp, Int.mul_comm, Int.mul_ediv_cancel _ (Int.ne_of_gt hp)]

theorem back (m : Nat) (hm : m < 64) (x : Int) (h0 : 0 ≤ x) (h1 : x < 2 * 2 ^ m) :
    shr .i64 (wrap64 (shl .u64 x (63 - (m : Int)))) (63 - (m : Int)) = if x < 2 ^ m then x else x - 2 * 2 ^ m := by
  have e : (2 : Int) ^ (63 - m) * 2 ^ m = 9223372036854775808 := by
    have h : 63 - m + m = 63 := by omega
    rw [← Int.pow_add, h, pow63]
  have hp : (0 : Int) < 2 ^ (63 - m) := by exact_mod_cast Nat.two_pow_pos (63 - m)
  have hs : min (63 - (m : Int)).toNat IntKind.u64.bits = 63 - m := by show min (63 - (m : Int)).toNat 64 = _; omega
  have hs' : min (63 - (m : Int)).toNat IntKind.i64.bits = 63 - m := hs
  unfold shr shl
  rw [hs, hs', IntKind.wrap_u64]
  obtain ⟨S, hS⟩ : ∃ S : Int, (2 : Int) ^ (63 - m) = S := ⟨_, rfl⟩
  obtain ⟨P, hP⟩ : ∃ P : Int, (2 : Int) ^ m = P := ⟨_, rfl⟩
  rw [hS] at e hp; rw [hP] at e h1; rw [hS, hP]
  have b0 : 0 ≤ x * S := Int.mul_nonneg h0 (Int.le_of_lt hp)
  have b1 : x * S < 2 * 9223372036854775808 := by
    have : x * S < 2 * P * S := Int.mul_lt_mul_of_pos_right h1 hp
    rw [Int.mul_assoc, Int.mul_comm P S, e] at this; exact this
  have b2 : x * S % 18446744073709551616 = x * S := by omega
  rw [b2]
  by_cases hx : x < P
  · have : x * S < 9223372036854775808 := by
      have : x * S < P * S := Int.mul_lt_mul_of_pos_right hx hp
      rw [Int.mul_comm P S, e] at this; exact this
    have b3 : wrap64 (x * S) = x * S := by unfold wrap64; omega
    rw [b3, if_pos hx, Int.mul_ediv_cancel _ (Int.ne_of_gt hp)]
  · have : 9223372036854775808 ≤ x * S := by
      have : P * S ≤ x * S := Int.mul_le_mul_of_nonneg_right (by omega) (Int.le_of_lt hp)
      rw [Int.mul_comm P S, e] at this; exact this
    have b3 : wrap64 (x * S) = (x - 2 * P) * S := by
      rw [Int.sub_mul, Int.mul_assoc, Int.mul_comm P S, e]; unfold wrap64; omega
    rw [b3, if_neg hx, Int.mul_ediv_cancel _ (Int.ne_of_gt hp)]

theorem FnSigned : laws_FnSigned.Pure := by
  intro a0 a1 hw hw1
  obtain ⟨h0, h1⟩ := wf_u64 hw
  obtain ⟨g0, g1⟩ := wf_u8 hw1
  obtain ⟨m, hm⟩ : ∃ m : Nat, Int.tmod a1 64 = (m : Int) := ⟨(a1 % 64).toNat, by rw [Int.tmod_eq_emod_of_nonneg g0]; omega⟩
  have hm64 : m < 64 := by rw [Int.tmod_eq_emod_of_nonneg g0] at hm; omega
  have e1 : wrap64 (1 + wrap64 (Int.tmod a1 64)) = (m : Int) + 1 := by rw [hm]; unfold wrap64; omega
  have e2 : wrap64 (64 - ((m : Int) + 1)) = 63 - (m : Int) := by unfold wrap64; omega
  have hP : (0 : Int) < 2 ^ m := by exact_mod_cast Nat.two_pow_pos m
  unfold laws_FnSigned.f
  rw [e1, e2, if_pos (by omega), shifted m hm64]
  have r0 := Int.emod_nonneg a0 (show (2 * 2 ^ m : Int) ≠ 0 by omega)
  have r1 := Int.emod_lt_of_pos a0 (show (0 : Int) < 2 * 2 ^ m by omega)
  unfold impl_Signed.f
  have e3 : IntKind.u64.wrap ((m : Int) + 1) = (m : Int) + 1 := by rw [IntKind.wrap_u64]; omega
  rw [if_neg (by omega), if_neg (by omega), e3, intN_of m hm64 _ r0 r1, back m hm64 _ r0 r1]
  simp
end Go.Proofs.Ytjfibofjbofpbaa.Pure
