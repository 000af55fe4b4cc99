/- The bytes that code a number, and what spec.Coded computes (plain). -/
import Derived.Test.YtmcllndnjdemaaaGreatDoorBase
import Derived.Test.YtmcllndnjdemaaaGreatDoorPFnEncodex2
namespace Go.Proofs.YtmcllndnjdemaaaGreatDoor.Walk
set_option linter.unusedVariables false
set_option linter.unusedSimpArgs false
open Go Go.RowKit Go.Proofs.YtmcllndnjdemaaaGreatDoorW.PrintWords Go.Proofs.YtmcllndnjdemaaaGreatDoorW.PrintLast Go.Proofs.YtmcllndnjdemaaaGreatDoorW.PrintMore Go.Proofs.YtmcllndnjdemaaaGreatDoor.Num Go.Proofs.YtmcllndnjdemaaaGreatDoor.PFnEncode
theorem w64 (t : Nat) (h : t < 1000000) : wrap64 ((t : Int) + 1) = ((t + 1 : Nat) : Int) := by unfold wrap64; omega
def more (v : Nat) : Nat := if v < 128 then 0 else if v < 2048 then 1 else if v < 65536 then 2 else if v < 2097152 then 3 else if v < 67108864 then 4 else if v < 2147483648 then 5 else 6
def tail (v : Nat) : Nat → List Int
 | 0 => []
 | m + 1 => ((128 + v / 64 ^ m % 64 : Nat) : Int) :: tail v m
def first (v m : Nat) : Nat := if m = 0 then v else 65280 / 2 ^ (m + 1) % 256 + v / 64 ^ m
def coded (v : Nat) : List Int := (first v (more v) : Int) :: tail v (more v)
theorem tail_len (v : Nat) : ∀ m, (tail v m).length = m
 | 0 => rfl
 | m + 1 => by rw [tail, List.length_cons, tail_len v m]
theorem coded_len (v : Nat) : (coded v).length = more v + 1 := by rw [coded, List.length_cons, tail_len]
theorem more_le (v : Nat) : more v ≤ 6 := by unfold more; (repeat' split) <;> omega
theorem mid_byte (x : Nat) (hx : x < 18446744073709551616) : Go.bits .or .u64 128 (Go.bits .and .u64 (x : Int) 63) % 256 = ((128 + x % 64 : Nat) : Int) := by
 have e1 : Go.bits .and .u64 (x : Int) 63 = ((x % 64 : Nat) : Int) := by
  rw [u64_and _ _ (by omega) (by omega) (by decide) (by decide)]
  show ((x &&& (2 ^ 6 - 1) : Nat) : Int) = _
  rw [Nat.and_two_pow_sub_one_eq_mod]
 have e2 : Go.bits .or .u64 (1 * 2 ^ 7) ((x % 64 : Nat) : Int) = 1 * 2 ^ 7 + ((x % 64 : Nat) : Int) := or_u64_add 1 _ 7 (by omega) (by omega) (by omega) (by omega)
 rw [e1]
 rw [show ((128 : Int)) = 1 * 2 ^ 7 from rfl, e2]
 omega
theorem firstTab : ∀ m : Fin 7, ∀ y : Fin 64, 1 ≤ m.val → y.val < 2 ^ (6 - m.val) →
  Go.bits .or .u8 ((Go.bits .and .u64 (shr .u64 65280 ((m.val : Int) + 1)) 255) % 256) ((y.val : Int) % 256) = ((65280 / 2 ^ (m.val + 1) % 256 + y.val : Nat) : Int) := by decide +kernel
theorem c_l1 (v m : Nat) (hm : 1 ≤ m) (hm6 : m ≤ 6) (hv : v < 2 ^ (5 * m + 6)) (k : Nat) :
  ∀ d i, i + d = m → spec_Coded.l1 (k + 1 + d) ((v / 64 ^ i : Nat) : Int) ((m : Int) + 1) (tail v i) (m : Int) (i : Int) = some ((first v m : Int) :: tail v m)
 | 0, i, h => by
  obtain rfl : i = m := by omega
  have hy : v / 64 ^ i < 2 ^ (6 - i) := by
   rw [Nat.div_lt_iff_lt_mul (Nat.pow_pos (by decide)), show (64 : Nat) = 2 ^ 6 from rfl, ← Nat.pow_mul, ← Nat.pow_add, show 6 - i + 6 * i = 5 * i + 6 by omega]
   exact hv
  have h64 : 2 ^ (6 - i) ≤ 2 ^ 5 := Nat.pow_le_pow_right (by decide) (by omega)
  have ht := firstTab ⟨i, by omega⟩ ⟨v / 64 ^ i, by omega⟩ hm hy
  simp only at ht
  rw [Nat.add_zero, spec_Coded.l1, if_neg (by omega), if_pos (by omega), ht, Option.bind_some, if_pos (by rw [tail_len]; simp; omega), first, if_neg (by omega)]
  rfl
 | d + 1, i, h => by
  have hb : v / 64 ^ i < 18446744073709551616 := by
   have h1 : v / 64 ^ i ≤ v := Nat.div_le_self _ _
   have h2 : 2 ^ (5 * m + 6) ≤ 2 ^ 36 := Nat.pow_le_pow_right (by decide) (by omega)
   omega
  have e : ((v / 64 ^ i : Nat) : Int) / 64 = ((v / 64 ^ (i + 1) : Nat) : Int) := by
   rw [Nat.pow_succ, ← Nat.div_div_eq_div_mul]; rfl
  rw [← Nat.add_assoc, spec_Coded.l1, if_pos (by omega), mid_byte _ hb, Option.bind_some, if_pos (by rw [tail_len]; simp; omega), e, w64 i (by omega)]
  exact c_l1 v m hm hm6 hv k d (i + 1) (by omega)
theorem c_l0 (v n : Nat) (hn : 2 ≤ n) (hn7 : n ≤ 7) (hlo : ∀ i, 2 ≤ i → i < n → 2 ^ (5 * i + 1) ≤ v) (hhi : v < 2 ^ (5 * n + 1)) (k : Nat) :
  ∀ d t, 2 ≤ t → t + d = n → spec_Coded.l0 (k + 1 + d) (v : Int) (t : Int) = spec_Coded.l1 k (v : Int) (n : Int) [] (wrap64 ((n : Int) - 1)) 0
 | 0, t, h2, h => by
  obtain rfl : t = n := by omega
  have ew : wrap64 (wrap64 (5 * (t : Int)) + 1) = ((5 * t + 1 : Nat) : Int) := by unfold wrap64; omega
  have es : shr .u64 (v : Int) ((5 * t + 1 : Nat) : Int) = 0 := by
   unfold shr
   rw [Int.toNat_natCast, show min (5 * t + 1) (IntKind.u64.bits) = 5 * t + 1 from Nat.min_eq_left (by show 5 * t + 1 ≤ 64; omega)]
   have : v / 2 ^ (5 * t + 1) = 0 := Nat.div_eq_of_lt hhi
   have e : (v : Int) / 2 ^ (5 * t + 1) = ((v / 2 ^ (5 * t + 1) : Nat) : Int) := by simp
   rw [e, this]; rfl
  rw [Nat.add_zero, spec_Coded.l0, ew, es, if_pos (by omega), if_neg (by decide)]
 | d + 1, t, h2, h => by
  have ew : wrap64 (wrap64 (5 * (t : Int)) + 1) = ((5 * t + 1 : Nat) : Int) := by unfold wrap64; omega
  have es : shr .u64 (v : Int) ((5 * t + 1 : Nat) : Int) > 0 := by
   unfold shr
   rw [Int.toNat_natCast, show min (5 * t + 1) (IntKind.u64.bits) = 5 * t + 1 from Nat.min_eq_left (by show 5 * t + 1 ≤ 64; omega)]
   have : 0 < v / 2 ^ (5 * t + 1) := Nat.div_pos (hlo t h2 (by omega)) (Nat.two_pow_pos _)
   have e : (v : Int) / 2 ^ (5 * t + 1) = ((v / 2 ^ (5 * t + 1) : Nat) : Int) := by simp
   rw [e]; omega
  rw [← Nat.add_assoc, spec_Coded.l0, ew, if_pos (by omega), if_pos es, w64 t (by omega)]
  exact c_l0 v n hn hn7 hlo hhi k d (t + 1) (by omega) (by omega)
theorem spec_coded (v : Nat) (hv : v < 68719476736) : spec_Coded.f 30 (v : Int) = some (coded v) := by
 unfold spec_Coded.f
 by_cases h : v < 128
 ·have e : more v = 0 := by unfold more; rw [if_pos h]
  rw [if_pos (by omega), coded, e, first, if_pos rfl, tail, show (v : Int) % 256 = (v : Int) by omega]
 ·rw [if_neg (by omega)]
  have key : ∀ m, 1 ≤ m → m ≤ 6 → more v = m → (∀ i, 2 ≤ i → i < m + 1 → 2 ^ (5 * i + 1) ≤ v) → v < 2 ^ (5 * (m + 1) + 1) → spec_Coded.l0 30 (v : Int) 2 = some (coded v) := by
   intro m h1 h6 hm hlo hhi
   have h0 := c_l0 v (m + 1) (by omega) (by omega) hlo hhi (30 - 1 - (m - 1)) (m - 1) 2 (by omega) (by omega)
   rw [show 30 - 1 - (m - 1) + 1 + (m - 1) = 30 by omega, show ((2 : Nat) : Int) = 2 from rfl] at h0
   have hl := c_l1 v m h1 h6 (by rw [show 5 * m + 6 = 5 * (m + 1) + 1 by omega]; exact hhi) (29 - m - m) m 0 (by omega)
   rw [Nat.pow_zero, Nat.div_one, show ((0 : Nat) : Int) = 0 from rfl, show 29 - m - m + 1 + m = 30 - 1 - (m - 1) by omega, tail] at hl
   rw [h0, show wrap64 (((m + 1 : Nat) : Int) - 1) = (m : Int) by unfold wrap64; omega, show ((m + 1 : Nat) : Int) = (m : Int) + 1 by omega, hl, coded, hm]
  have hsm : ∀ m i : Nat, i < m + 1 → m ≤ 6 → i = 0 ∨ i = 1 ∨ i = 2 ∨ i = 3 ∨ i = 4 ∨ i = 5 ∨ i = 6 := by omega
  by_cases h2 : v < 2048
  ·exact key 1 (by omega) (by omega) (by unfold more; rw [if_neg h, if_pos h2]) (fun i _ _ => by omega) (by omega)
  by_cases h3 : v < 65536
  ·exact key 2 (by omega) (by omega) (by unfold more; rw [if_neg h, if_neg h2, if_pos h3]) (fun i a b => by rcases hsm 2 i b (by omega) with rfl | rfl | rfl | rfl | rfl | rfl | rfl <;> omega) (by omega)
  by_cases h4 : v < 2097152
  ·exact key 3 (by omega) (by omega) (by unfold more; rw [if_neg h, if_neg h2, if_neg h3, if_pos h4]) (fun i a b => by rcases hsm 3 i b (by omega) with rfl | rfl | rfl | rfl | rfl | rfl | rfl <;> omega) (by omega)
  by_cases h5 : v < 67108864
  ·exact key 4 (by omega) (by omega) (by unfold more; rw [if_neg h, if_neg h2, if_neg h3, if_neg h4, if_pos h5]) (fun i a b => by rcases hsm 4 i b (by omega) with rfl | rfl | rfl | rfl | rfl | rfl | rfl <;> omega) (by omega)
  by_cases h6 : v < 2147483648
  ·exact key 5 (by omega) (by omega) (by unfold more; rw [if_neg h, if_neg h2, if_neg h3, if_neg h4, if_neg h5, if_pos h6]) (fun i a b => by rcases hsm 5 i b (by omega) with rfl | rfl | rfl | rfl | rfl | rfl | rfl <;> omega) (by omega)
  ·exact key 6 (by omega) (by omega) (by unfold more; rw [if_neg h, if_neg h2, if_neg h3, if_neg h4, if_neg h5, if_neg h6]) (fun i a b => by rcases hsm 6 i b (by omega) with rfl | rfl | rfl | rfl | rfl | rfl | rfl <;> omega) (by omega)
end Go.Proofs.YtmcllndnjdemaaaGreatDoor.Walk
