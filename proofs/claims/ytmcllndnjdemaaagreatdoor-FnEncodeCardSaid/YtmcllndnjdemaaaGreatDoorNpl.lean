/- The plain part of the coded numbers: what spec.Number and spec.Coded compute. Printed by wip/npl.py. -/
import Derived.Test.YtmcllndnjdemaaaGreatDoorPNum
import Derived.Test.YtmcllndnjdemaaaGreatDoorCod
namespace Go.Proofs.YtmcllndnjdemaaaGreatDoor.Walk
set_option linter.unusedVariables false
set_option linter.unusedSimpArgs false
open Go Go.RowKit Go.Proofs.YtmcllndnjdemaaaGreatDoorW.PrintWords Go.Proofs.YtmcllndnjdemaaaGreatDoorW.PrintLast Go.Proofs.YtmcllndnjdemaaaGreatDoorW.PrintMore Go.Proofs.YtmcllndnjdemaaaGreatDoor.Num Go.Proofs.YtmcllndnjdemaaaGreatDoor.PFnEncode
def vals (l : List Int) (q x0 : Nat) : Nat → Nat
 | 0 => x0
 | k + 1 => vals l q x0 k * 64 + byteAt l (q + k) % 64
def Follows (l : List Int) (q k : Nat) : Prop := q + k ≤ l.length ∧ ∀ i, i < k → 128 ≤ byteAt l (q + i) ∧ byteAt l (q + i) < 192
theorem vals_lt (l : List Int) (q x0 b : Nat) (h : x0 < 2 ^ b) : ∀ k, vals l q x0 k < 2 ^ (b + 6 * k)
 | 0 => by simpa [vals] using h
 | k + 1 => by
  have ih := vals_lt l q x0 b h k
  have e : 2 ^ (b + 6 * (k + 1)) = 2 ^ (b + 6 * k) * 64 := by rw [show b + 6 * (k + 1) = b + 6 * k + 6 by omega, Nat.pow_add]
  unfold vals
  omega
theorem or_six (x c : Nat) (hx : x * 64 + 64 ≤ 18446744073709551616) : Go.bits .or .u64 ((x : Int) * 64) ((c % 64 : Nat) : Int) = ((x * 64 + c % 64 : Nat) : Int) := by
 have e2 : (x : Int) * 64 = (x : Int) * 2 ^ 6 := by omega
 rw [e2, or_u64_add (x : Int) _ 6 (by omega) (by omega) (by omega) (by omega)]
 omega
theorem and_63 (c : Nat) (hc : c < 256) : Go.bits .and .u8 (c : Int) 63 = ((c % 64 : Nat) : Int) := by
 rw [u8_and _ _ (by omega) (by omega) (by decide) (by decide)]
 show ((c &&& (2 ^ 6 - 1) : Nat) : Int) = _
 rw [Nat.and_two_pow_sub_one_eq_mod]
theorem u64_small (c : Nat) (hc : c < 18446744073709551616) : IntKind.u64.wrap (c : Int) = (c : Int) := by rw [IntKind.wrap_u64]; omega
inductive Cls (c0 : Nat) : Nat → Nat → Nat → Prop
 | one : 192 ≤ c0 → c0 < 224 → Cls c0 1 32 127
 | two : 224 ≤ c0 → c0 < 240 → Cls c0 2 16 2047
 | three : 240 ≤ c0 → c0 < 248 → Cls c0 3 8 65535
 | four : 248 ≤ c0 → c0 < 252 → Cls c0 4 4 2097151
 | five : 252 ≤ c0 → c0 < 254 → Cls c0 5 2 67108863
 | six : 254 ≤ c0 → c0 < 255 → Cls c0 6 1 2147483647
theorem Cls.same {c0 L m1 mx L' m1' mx' : Nat} (h : Cls c0 L m1 mx) (h' : Cls c0 L' m1' mx') : L = L' ∧ m1 = m1' ∧ mx = mx' := by
 cases h <;> cases h' <;> first | exact ⟨rfl, rfl, rfl⟩ | omega
theorem Cls.ge {c0 L m1 mx : Nat} (h : Cls c0 L m1 mx) : 192 ≤ c0 := by cases h <;> omega
theorem cls_of {c0 : Nat} (h : 192 ≤ c0) (h2 : c0 < 255) : ∃ L m1 mx, Cls c0 L m1 mx := by
 by_cases h3 : c0 < 224
 ·exact ⟨_, _, _, .one h h3⟩
 by_cases h4 : c0 < 240
 ·exact ⟨_, _, _, .two (by omega) h4⟩
 by_cases h5 : c0 < 248
 ·exact ⟨_, _, _, .three (by omega) h5⟩
 by_cases h6 : c0 < 252
 ·exact ⟨_, _, _, .four (by omega) h6⟩
 by_cases h7 : c0 < 254
 ·exact ⟨_, _, _, .five (by omega) h7⟩
 ·exact ⟨_, _, _, .six (by omega) h2⟩
def GoodAt (l : List Int) (p v n : Nat) : Prop :=
 p < l.length ∧ ((byteAt l p < 128 ∧ v = byteAt l p ∧ n = 1) ∨
  ∃ L m1 mx, Cls (byteAt l p) L m1 mx ∧ Follows l (p + 1) L ∧ mx < vals l (p + 1) (byteAt l p % m1) L ∧ v = vals l (p + 1) (byteAt l p % m1) L ∧ n = L + 1)
theorem GoodAt.same {l : List Int} {p v n v' n' : Nat} (h : GoodAt l p v n) (h' : GoodAt l p v' n') : v = v' ∧ n = n' := by
 obtain ⟨_, ⟨a1, a2, a3⟩ | ⟨L, m1, mx, c, _, _, b2, b3⟩⟩ := h <;> obtain ⟨_, ⟨d1, d2, d3⟩ | ⟨L', m1', mx', c', _, _, e2, e3⟩⟩ := h'
 ·omega
 ·have := c'.ge; omega
 ·have := c.ge; omega
 ·obtain ⟨rfl, rfl, rfl⟩ := c.same c'
  exact ⟨b2.trans e2.symm, b3.trans e3.symm⟩
theorem bytes_at {l : List Int} (h : ∀ x ∈ l, 0 ≤ x ∧ x ≤ 255) (i : Nat) : l.getD i 0 = (byteAt l i : Int) ∧ byteAt l i < 256 := by
 unfold byteAt
 rw [List.getD_eq_getElem?_getD]
 rcases hi : l[i]? with _ | v
 ·simp
 ·have := h v (List.mem_of_getElem? hi); simp; omega
theorem bitTab : ∀ c : Fin 256, ∀ t : Fin 8, Go.bits .and .u8 (shr .u8 (c.val : Int) (wrap64 (7 - (t.val : Int)))) 1 = ((c.val / 2 ^ (7 - t.val) % 2 : Nat) : Int) := by decide +kernel
theorem maskTab : ∀ c : Fin 256, ∀ n : Fin 8, Go.bits .and .u64 (IntKind.u64.wrap (c.val : Int)) (IntKind.u64.wrap ((shl .u64 1 (wrap64 (7 - (n.val : Int)))) - 1)) = ((c.val % 2 ^ (7 - n.val) : Nat) : Int) := by decide +kernel
theorem l0_step (k : Nat) (x0 : List Int) (c0 t : Nat) (hl : 0 < x0.length) (hr : rd x0 0 = (c0 : Int)) (hc : c0 < 256) (ht : t < 8) :
  spec_Number.l0 (k + 1) x0 (t : Int) = if c0 / 2 ^ (7 - t) % 2 = 1 then spec_Number.l0 k x0 ((t + 1 : Nat) : Int) else spec_Number.j1 k x0 (t : Int) := by
 have hb := bitTab ⟨c0, hc⟩ ⟨t, ht⟩
 simp only at hb
 rw [spec_Number.l0, if_pos (by omega), if_pos (by omega), if_pos (by unfold wrap64; omega), hr, hb, w64 t (by omega)]
 by_cases h : c0 / 2 ^ (7 - t) % 2 = 1
 ·rw [if_pos h, if_pos (by rw [h]; rfl)]
 ·rw [if_neg h, if_neg (by omega)]
theorem l0_lead (k : Nat) (x0 : List Int) (c0 n : Nat) (hl : 0 < x0.length) (hr : rd x0 0 = (c0 : Int)) (hc : c0 < 256) (hn : n < 8) (h1 : ∀ i : Fin n, c0 / 2 ^ (7 - i.val) % 2 = 1) (h0 : c0 / 2 ^ (7 - n) % 2 ≠ 1) :
  ∀ d t, t + d = n → spec_Number.l0 (k + 1 + d) x0 (t : Int) = spec_Number.j1 k x0 (n : Int)
 | 0, t, h => by
  obtain rfl : t = n := by omega
  rw [Nat.add_zero, l0_step k x0 c0 t hl hr hc hn, if_neg h0]
 | d + 1, t, h => by
  rw [← Nat.add_assoc, l0_step _ x0 c0 t hl hr hc (by omega), if_pos (h1 ⟨t, by omega⟩)]
  exact l0_lead k x0 c0 n hl hr hc hn h1 h0 d (t + 1) (by omega)
theorem leads0 : ∀ c : Fin 256, 0 ≤ c.val → c.val < 128 → (∀ i : Fin 0, c.val / 2 ^ (7 - i.val) % 2 = 1) ∧ c.val / 2 ^ (7 - 0) % 2 ≠ 1 := by decide +kernel
theorem leads1 : ∀ c : Fin 256, 128 ≤ c.val → c.val < 192 → (∀ i : Fin 1, c.val / 2 ^ (7 - i.val) % 2 = 1) ∧ c.val / 2 ^ (7 - 1) % 2 ≠ 1 := by decide +kernel
theorem leads2 : ∀ c : Fin 256, 192 ≤ c.val → c.val < 224 → (∀ i : Fin 2, c.val / 2 ^ (7 - i.val) % 2 = 1) ∧ c.val / 2 ^ (7 - 2) % 2 ≠ 1 := by decide +kernel
theorem leads3 : ∀ c : Fin 256, 224 ≤ c.val → c.val < 240 → (∀ i : Fin 3, c.val / 2 ^ (7 - i.val) % 2 = 1) ∧ c.val / 2 ^ (7 - 3) % 2 ≠ 1 := by decide +kernel
theorem leads4 : ∀ c : Fin 256, 240 ≤ c.val → c.val < 248 → (∀ i : Fin 4, c.val / 2 ^ (7 - i.val) % 2 = 1) ∧ c.val / 2 ^ (7 - 4) % 2 ≠ 1 := by decide +kernel
theorem leads5 : ∀ c : Fin 256, 248 ≤ c.val → c.val < 252 → (∀ i : Fin 5, c.val / 2 ^ (7 - i.val) % 2 = 1) ∧ c.val / 2 ^ (7 - 5) % 2 ≠ 1 := by decide +kernel
theorem leads6 : ∀ c : Fin 256, 252 ≤ c.val → c.val < 254 → (∀ i : Fin 6, c.val / 2 ^ (7 - i.val) % 2 = 1) ∧ c.val / 2 ^ (7 - 6) % 2 ≠ 1 := by decide +kernel
theorem leads7 : ∀ c : Fin 256, 254 ≤ c.val → c.val < 255 → (∀ i : Fin 7, c.val / 2 ^ (7 - i.val) % 2 = 1) ∧ c.val / 2 ^ (7 - 7) % 2 ≠ 1 := by decide +kernel
theorem Cls.facts {c0 L m1 mx : Nat} (h : Cls c0 L m1 mx) : 1 ≤ L ∧ L ≤ 6 ∧ m1 = 2 ^ (7 - (L + 1)) ∧ c0 < 256 ∧ (∀ i : Fin (L + 1), c0 / 2 ^ (7 - i.val) % 2 = 1) ∧ c0 / 2 ^ (7 - (L + 1)) % 2 ≠ 1 := by
 have hc : c0 < 256 := by cases h <;> omega
 cases h with
 | one a b => exact ⟨by decide, by decide, rfl, hc, (leads2 ⟨c0, hc⟩ a b).1, (leads2 ⟨c0, hc⟩ a b).2⟩
 | two a b => exact ⟨by decide, by decide, rfl, hc, (leads3 ⟨c0, hc⟩ a b).1, (leads3 ⟨c0, hc⟩ a b).2⟩
 | three a b => exact ⟨by decide, by decide, rfl, hc, (leads4 ⟨c0, hc⟩ a b).1, (leads4 ⟨c0, hc⟩ a b).2⟩
 | four a b => exact ⟨by decide, by decide, rfl, hc, (leads5 ⟨c0, hc⟩ a b).1, (leads5 ⟨c0, hc⟩ a b).2⟩
 | five a b => exact ⟨by decide, by decide, rfl, hc, (leads6 ⟨c0, hc⟩ a b).1, (leads6 ⟨c0, hc⟩ a b).2⟩
 | six a b => exact ⟨by decide, by decide, rfl, hc, (leads7 ⟨c0, hc⟩ a b).1, (leads7 ⟨c0, hc⟩ a b).2⟩
theorem rd_tail (l : List Int) (L i : Nat) (hi : i < L) : rd ((l.take (L + 1)).drop 1) (i : Int) = l.getD (1 + i) 0 := by
 unfold rd
 rw [Int.toNat_natCast, List.getD_eq_getElem?_getD, List.getD_eq_getElem?_getD, List.getElem?_drop, List.getElem?_take, if_pos (by omega)]
theorem l1_good (l : List Int) (hb : ∀ i, l.getD i 0 = (byteAt l i : Int) ∧ byteAt l i < 256) (L x0 : Nat) (hL : L ≤ 6) (hx : x0 < 2 ^ (6 - L)) (hlen : L + 1 ≤ l.length) (x4 : Int) (k : Nat) :
  ∀ d j, j + d = L → (∀ i, j ≤ i → i < L → 128 ≤ byteAt l (1 + i) ∧ byteAt l (1 + i) < 192) →
   spec_Number.l1 (k + 1 + d) x4 (vals l 1 x0 j : Int) ((l.take (L + 1)).drop 1) (L : Int) (j : Int) = some ((vals l 1 x0 L : Int), x4)
 | 0, j, h, _ => by
  obtain rfl : j = L := by omega
  rw [Nat.add_zero, spec_Number.l1, if_neg (by omega)]
 | d + 1, j, h, hok => by
  have hj := hok j (Nat.le_refl _) (by omega)
  have hlt : ((l.take (L + 1)).drop 1).length = L := by rw [List.length_drop, List.length_take]; omega
  have hv := vals_lt l 1 x0 (6 - L) hx j
  have h30 : 2 ^ (6 - L + 6 * j) ≤ 68719476736 := Nat.le_trans (Nat.pow_le_pow_right (by decide) (by omega : _ ≤ 36)) (by decide)
  rw [← Nat.add_assoc, spec_Number.l1, if_pos (by omega), if_pos (by omega), if_pos (by rw [hlt]; omega), rd_tail l L j (by omega), (hb (1 + j)).1, if_pos (by omega), and_63 _ (hb (1 + j)).2, w64 j (by omega)]
  have e1 : IntKind.u64.wrap ((vals l 1 x0 j : Int) * 64) = (vals l 1 x0 j : Int) * 64 := by rw [IntKind.wrap_u64]; omega
  have e2 : IntKind.u64.wrap ((byteAt l (1 + j) % 64 : Nat) : Int) = ((byteAt l (1 + j) % 64 : Nat) : Int) := u64_small _ (by omega)
  rw [e1, e2, or_six _ _ (by omega)]
  exact l1_good l hb L x0 hL hx hlen x4 k d (j + 1) (by omega) (fun i h1 h2 => hok i (by omega) h2)
theorem l1_bad (l : List Int) (hb : ∀ i, l.getD i 0 = (byteAt l i : Int) ∧ byteAt l i < 256) (L : Nat) (hL : L ≤ 6) (hlen : L + 1 ≤ l.length) (x4 : Int) (k : Nat) :
  ∀ d j (v : Int), j + d = L → ¬ (∀ i, j ≤ i → i < L → 128 ≤ byteAt l (1 + i) ∧ byteAt l (1 + i) < 192) →
   spec_Number.l1 (k + 1 + d) x4 v ((l.take (L + 1)).drop 1) (L : Int) (j : Int) = some (0, 0)
 | 0, j, v, h, hno => absurd (fun i h1 h2 => by omega) hno
 | d + 1, j, v, h, hno => by
  have hlt : ((l.take (L + 1)).drop 1).length = L := by rw [List.length_drop, List.length_take]; omega
  have hc := (hb (1 + j)).2
  rw [← Nat.add_assoc, spec_Number.l1, if_pos (by omega), if_pos (by omega), if_pos (by rw [hlt]; omega), rd_tail l L j (by omega), (hb (1 + j)).1, w64 j (by omega)]
  by_cases hok : 128 ≤ byteAt l (1 + j) ∧ byteAt l (1 + j) < 192
  ·rw [if_pos (by omega)]
   refine l1_bad l hb L hL hlen x4 k d (j + 1) _ (by omega) (fun hall => hno fun i h1 h2 => ?_)
   rcases Nat.lt_or_ge j i with h3 | h3
   ·exact hall i (by omega) h2
   ·obtain rfl : i = j := by omega
    exact hok
  ·rw [if_neg (by omega)]
set_option maxHeartbeats 1000000 in
theorem spec_number (l : List Int) (hb : ∀ i, l.getD i 0 = (byteAt l i : Int) ∧ byteAt l i < 256) (hff : 0 < l.length → byteAt l 0 ≠ 255) :
  ∃ v n : Nat, spec_Number.f 30 l = some ((v : Int), (n : Int)) ∧ ((n = 0 ∧ ∀ v' n', ¬ GoodAt l 0 v' n') ∨
   (0 < n ∧ n ≤ l.length ∧ v < 68719476736 ∧ (GoodAt l 0 v n ∨ ∃ L m1 mx, Cls (byteAt l 0) L m1 mx ∧ n = L + 1 ∧ v ≤ mx ∧ v = vals l 1 (byteAt l 0 % m1) L))) := by
 unfold spec_Number.f
 by_cases h0 : l.length = 0
 ·rw [if_pos (by omega)]
  exact ⟨0, 0, rfl, .inl ⟨rfl, fun v n h => by have := h.1; omega⟩⟩
 rw [if_neg (by omega)]
 obtain ⟨c0, hc0⟩ : ∃ c0, byteAt l 0 = c0 := ⟨_, rfl⟩
 have hc := hb 0
 rw [hc0] at hc
 have hr : rd l 0 = (c0 : Int) := by unfold rd; exact hc.1
 have hff2 := hff (by omega)
 rw [hc0] at hff2
 have t0 := leads0 ⟨c0, hc.2⟩ (Nat.zero_le _)
 have t1 := leads1 ⟨c0, hc.2⟩
 simp only at t0 t1
 by_cases hlow : c0 < 128
 ·have := l0_lead 29 l c0 0 (by omega) hr hc.2 (by decide) (t0 hlow).1 (t0 hlow).2 0 0 rfl
  rw [show (29 + 1 + 0 : Nat) = 30 from rfl, show ((0 : Nat) : Int) = 0 from rfl] at this
  rw [this, spec_Number.j1, if_pos rfl, if_pos (by omega), hr, u64_small c0 (by omega)]
  refine ⟨c0, 1, rfl, .inr ⟨by decide, by omega, by omega, .inl ⟨by omega, .inl ⟨by rw [hc0]; exact hlow, hc0.symm, rfl⟩⟩⟩⟩
 by_cases hmid : c0 < 192
 ·have := l0_lead 28 l c0 1 (by omega) hr hc.2 (by decide) (t1 (by omega) hmid).1 (t1 (by omega) hmid).2 1 0 rfl
  rw [show (28 + 1 + 1 : Nat) = 30 from rfl, show ((0 : Nat) : Int) = 0 from rfl] at this
  rw [this, spec_Number.j1, if_neg (by decide), if_pos (by rfl)]
  refine ⟨0, 0, rfl, .inl ⟨rfl, ?_⟩⟩
  rintro v n ⟨_, ⟨h1, _⟩ | ⟨L, m1, mx, c, _⟩⟩
  ·omega
  ·rw [hc0] at c; have := c.ge; omega
 ·obtain ⟨L, m1, mx, hC⟩ := cls_of (c0 := c0) (by omega) (by omega)
  obtain ⟨f1, f2, f3, f4, f5, f6⟩ := hC.facts
  have hl0 := l0_lead (30 - 1 - (L + 1)) l c0 (L + 1) (by omega) hr hc.2 (by omega) f5 f6 (L + 1) 0 (by omega)
  rw [show 30 - 1 - (L + 1) + 1 + (L + 1) = 30 by omega] at hl0
  rw [show ((0 : Nat) : Int) = 0 from rfl] at hl0
  rw [hl0, show 30 - 1 - (L + 1) = (27 - L) + 1 by omega, spec_Number.j1, if_neg (by omega), if_neg (by omega), if_neg (by omega)]
  by_cases hlen : l.length < L + 1
  ·rw [if_pos (by omega)]
   refine ⟨0, 0, rfl, .inl ⟨rfl, ?_⟩⟩
   rintro v n ⟨_, ⟨h1, _⟩ | ⟨L', m1', mx', c, f, _⟩⟩
   ·omega
   ·rw [hc0] at c
    obtain ⟨rfl, _, _⟩ := hC.same c
    have := f.1; omega
  ·have hmask := maskTab ⟨c0, hc.2⟩ ⟨L + 1, by omega⟩
   simp only at hmask
   have hto : ((L + 1 : Nat) : Int).toNat = L + 1 := by omega
   have hlt : ((l.take (L + 1)).drop 1).length = L := by rw [List.length_drop, List.length_take]; omega
   rw [if_neg (by omega), if_pos (by omega), if_pos (by unfold wrap64; omega), if_pos (by omega), if_pos (by omega), hr, hmask, hto, hlt, ← f3]
   have hx : c0 % m1 < 2 ^ (6 - L) := by
    rw [f3, show 7 - (L + 1) = 6 - L by omega]
    exact Nat.mod_lt _ (Nat.two_pow_pos _)
   have hv0 : vals l 1 (c0 % m1) 0 = c0 % m1 := rfl
   by_cases hok : ∀ i, 0 ≤ i → i < L → 128 ≤ byteAt l (1 + i) ∧ byteAt l (1 + i) < 192
   ·have hg := l1_good l hb L (c0 % m1) f2 hx (by omega) ((L + 1 : Nat) : Int) (26 - L - L) L 0 (by omega) hok
    rw [hv0, show 26 - L - L + 1 + L = 27 - L by omega, show ((0 : Nat) : Int) = 0 from rfl] at hg
    rw [hg]
    have hvl := vals_lt l 1 (c0 % m1) (6 - L) hx L
    have h36 : 2 ^ (6 - L + 6 * L) ≤ 68719476736 := Nat.le_trans (Nat.pow_le_pow_right (by decide) (by omega : _ ≤ 36)) (by decide)
    refine ⟨_, L + 1, rfl, .inr ⟨by omega, by omega, by omega, ?_⟩⟩
    by_cases hbig : mx < vals l 1 (c0 % m1) L
    ·exact .inl ⟨by omega, .inr ⟨L, m1, mx, by rw [hc0]; exact hC, ⟨by omega, fun i hi => hok i (by omega) hi⟩, by rw [hc0]; exact hbig, by rw [hc0], rfl⟩⟩
    ·exact .inr ⟨L, m1, mx, by rw [hc0]; exact hC, rfl, by omega, by rw [hc0]⟩
   ·have hg := l1_bad l hb L f2 (by omega) ((L + 1 : Nat) : Int) (26 - L - L) L 0 ((c0 % m1 : Nat) : Int) (by omega) hok
    rw [show 26 - L - L + 1 + L = 27 - L by omega, show ((0 : Nat) : Int) = 0 from rfl] at hg
    rw [hg]
    refine ⟨0, 0, rfl, .inl ⟨rfl, ?_⟩⟩
    rintro v n ⟨_, ⟨h1, _⟩ | ⟨L', m1', mx', c, f, _⟩⟩
    ·omega
    ·rw [hc0] at c
     obtain ⟨rfl, _, _⟩ := hC.same c
     exact hok (fun i _ hi => f.2 i hi)
theorem Cls.lt {c0 L m1 mx : Nat} (h : Cls c0 L m1 mx) : c0 < 255 := by cases h <;> omega
theorem tail_at (v : Nat) : ∀ m i, i < m → (tail v m).getD i 0 = ((128 + v / 64 ^ (m - 1 - i) % 64 : Nat) : Int)
 | 0, i, h => by omega
 | m + 1, 0, h => by simp [tail]
 | m + 1, i + 1, h => by
  rw [tail, List.getD_cons_succ, tail_at v m i (by omega), show m + 1 - 1 - (i + 1) = m - 1 - i by omega]
theorem coded_byte (v : Nat) (ts : List Int) (i : Nat) (h : i < more v) : byteAt (coded v ++ ts) (1 + i) = 128 + v / 64 ^ (more v - 1 - i) % 64 := by
 unfold byteAt coded
 rw [List.cons_append, Nat.add_comm 1 i, List.getD_cons_succ, List.getD_eq_getElem?_getD, List.getElem?_append_left (by rw [tail_len]; exact h), ← List.getD_eq_getElem?_getD, tail_at v _ i h]
 exact Int.toNat_natCast _
theorem coded_first (v : Nat) (ts : List Int) : byteAt (coded v ++ ts) 0 = first v (more v) := by
 unfold byteAt coded; simp
theorem vals_coded (v : Nat) (ts : List Int) : ∀ k, k ≤ more v → vals (coded v ++ ts) 1 (v / 64 ^ more v) k = v / 64 ^ (more v - k)
 | 0, _ => rfl
 | k + 1, h => by
  rw [vals, vals_coded v ts k (by omega), coded_byte v ts k (by omega)]
  have e : more v - k = (more v - (k + 1)) + 1 := by omega
  rw [e, Nat.pow_succ, ← Nat.div_div_eq_div_mul, show more v - 1 - k = more v - (k + 1) by omega]
  omega
theorem coded_cls (v : Nat) (hv : v < 68719476736) (h : 128 ≤ v) : ∃ mx, Cls (first v (more v)) (more v) (2 ^ (6 - more v)) mx ∧ mx < v ∧ first v (more v) % 2 ^ (6 - more v) = v / 64 ^ more v ∧ 1 ≤ more v := by
 have key : ∀ m lo mx, more v = m → m ≠ 0 → 65280 / 2 ^ (m + 1) % 256 = lo → lo % 2 ^ (6 - m) = 0 → v / 64 ^ m < 2 ^ (6 - m) → Cls (lo + v / 64 ^ m) m (2 ^ (6 - m)) mx → mx < v →
   ∃ mx, Cls (first v (more v)) (more v) (2 ^ (6 - more v)) mx ∧ mx < v ∧ first v (more v) % 2 ^ (6 - more v) = v / 64 ^ more v ∧ 1 ≤ more v := by
  intro m lo mx hm h0 hlo hmod hlt hc hmx
  have hf : first v m = lo + v / 64 ^ m := by unfold first; rw [if_neg h0, hlo]
  rw [hm, hf]
  refine ⟨mx, hc, hmx, ?_, by omega⟩
  rw [Nat.add_mod, hmod, Nat.zero_add, Nat.mod_mod, Nat.mod_eq_of_lt hlt]
 by_cases h2 : v < 2048
 ·exact key 1 192 127 (by unfold more; rw [if_neg (by omega), if_pos h2]) (by decide) (by decide) (by decide) (by omega) (.one (by omega) (by omega)) (by omega)
 by_cases h3 : v < 65536
 ·exact key 2 224 2047 (by unfold more; rw [if_neg (by omega), if_neg h2, if_pos h3]) (by decide) (by decide) (by decide) (by omega) (.two (by omega) (by omega)) (by omega)
 by_cases h4 : v < 2097152
 ·exact key 3 240 65535 (by unfold more; rw [if_neg (by omega), if_neg h2, if_neg h3, if_pos h4]) (by decide) (by decide) (by decide) (by omega) (.three (by omega) (by omega)) (by omega)
 by_cases h5 : v < 67108864
 ·exact key 4 248 2097151 (by unfold more; rw [if_neg (by omega), if_neg h2, if_neg h3, if_neg h4, if_pos h5]) (by decide) (by decide) (by decide) (by omega) (.four (by omega) (by omega)) (by omega)
 by_cases h6 : v < 2147483648
 ·exact key 5 252 67108863 (by unfold more; rw [if_neg (by omega), if_neg h2, if_neg h3, if_neg h4, if_neg h5, if_pos h6]) (by decide) (by decide) (by decide) (by omega) (.five (by omega) (by omega)) (by omega)
 ·exact key 6 254 2147483647 (by unfold more; rw [if_neg (by omega), if_neg h2, if_neg h3, if_neg h4, if_neg h5, if_neg h6]) (by decide) (by decide) (by decide) (by omega) (.six (by omega) (by omega)) (by omega)
theorem more_zero {v : Nat} (h : v < 128) : more v = 0 := by unfold more; rw [if_pos h]
theorem good_coded (v : Nat) (hv : v < 68719476736) (ts : List Int) : GoodAt (coded v ++ ts) 0 v (more v + 1) := by
 refine ⟨by rw [List.length_append, coded_len]; omega, ?_⟩
 rw [coded_first]
 by_cases h : v < 128
 ·have e : first v (more v) = v := by rw [more_zero h]; rfl
  exact .inl ⟨by rw [e]; exact h, e.symm, by rw [more_zero h]⟩
 ·obtain ⟨mx, hc, hmx, hmod, h1⟩ := coded_cls v hv (by omega)
  have hvv : vals (coded v ++ ts) (0 + 1) (first v (more v) % 2 ^ (6 - more v)) (more v) = v := by
   rw [hmod, Nat.zero_add, vals_coded v ts _ (Nat.le_refl _), Nat.sub_self, Nat.pow_zero, Nat.div_one]
  refine .inr ⟨more v, _, mx, hc, ⟨by rw [List.length_append, coded_len]; omega, fun i hi => ?_⟩, by rw [hvv]; exact hmx, hvv.symm, rfl⟩
  rw [Nat.zero_add, coded_byte v ts i hi]
  omega
theorem first_ne (v : Nat) (hv : v < 68719476736) (ts : List Int) : byteAt (coded v ++ ts) 0 ≠ 255 := by
 rw [coded_first]
 by_cases h : v < 128
 ·have e : first v (more v) = v := by rw [more_zero h]; rfl
  omega
 ·obtain ⟨mx, hc, _⟩ := coded_cls v hv (by omega)
  have := hc.lt
  omega
theorem coded_bytes (v : Nat) (hv : v < 68719476736) : ∀ x ∈ coded v, 0 ≤ x ∧ x ≤ 255 := by
 intro x hx
 have ht : ∀ m, ∀ x ∈ tail v m, 0 ≤ x ∧ x ≤ 255 := fun m => by
  induction m with
  | zero => intro x hx; cases hx
  | succ m ih =>
   intro x hx
   rcases List.mem_cons.1 hx with rfl | h
   ·omega
   ·exact ih x h
 rcases List.mem_cons.1 hx with rfl | h
 ·by_cases h : v < 128
  ·have e : first v (more v) = v := by rw [more_zero h]; rfl
   omega
  ·obtain ⟨mx, hc, _⟩ := coded_cls v hv (by omega)
   have := hc.lt
   omega
 ·exact ht _ x h
theorem spec_num_coded (v : Nat) (hv : v < 68719476736) (ts : List Int) (hts : ∀ x ∈ ts, 0 ≤ x ∧ x ≤ 255) : spec_Number.f 30 (coded v ++ ts) = some ((v : Int), ((more v + 1 : Nat) : Int)) := by
 have hb : ∀ x ∈ coded v ++ ts, 0 ≤ x ∧ x ≤ 255 := fun x hx => by
  rcases List.mem_append.1 hx with h | h
  ·exact coded_bytes v hv x h
  ·exact hts x h
 obtain ⟨v', n', hf, h⟩ := spec_number (coded v ++ ts) (fun i => bytes_at hb i) (fun _ => first_ne v hv ts)
 have hg := good_coded v hv ts
 rcases h with ⟨_, hno⟩ | ⟨_, _, _, h | ⟨L, m1, mx, hC, hn, hle, hvv⟩⟩
 ·exact absurd hg (hno _ _)
 ·obtain ⟨rfl, rfl⟩ := hg.same h
  exact hf
 ·obtain ⟨_, ⟨a1, _⟩ | ⟨L', m1', mx', c, _, hbig, _, _⟩⟩ := hg
  ·have := hC.ge; omega
  ·obtain ⟨rfl, rfl, rfl⟩ := hC.same c
   rw [Nat.zero_add] at hbig; omega
end Go.Proofs.YtmcllndnjdemaaaGreatDoor.Walk
