/- The plain part of the laws on coded numbers: what spec.Number and spec.Coded compute. -/
import Derived.Test.YtfpeoadgbidahaaDoorNumber
import Derived.Test.YtfpeoadgbidahaaDoorPNum
namespace Go.Proofs.YtfpeoadgbidahaaDoor.Walk
set_option linter.unusedVariables false
set_option linter.unusedSimpArgs false
open Go Go.RowKit Go.Proofs.YtfpeoadgbidahaaDoorW.PrintWords Go.Proofs.YtfpeoadgbidahaaDoorW.PrintLast Go.Proofs.YtfpeoadgbidahaaDoorW.PrintMore Go.Proofs.YtfpeoadgbidahaaDoor.Num Go.Proofs.YtfpeoadgbidahaaDoor.PNum

theorem bitTab : ∀ c : Fin 256, ∀ t : Fin 8, Go.bits .and .u8 (shr .u8 (c.val : Int) (wrap64 (7 - (t.val : Int)))) 1 = ((c.val / 2 ^ (7 - t.val) % 2 : Nat) : Int) := by decide +kernel
theorem maskTab : ∀ c : Fin 256, ∀ n : Fin 8, Go.bits .and .u64 (IntKind.u64.wrap (c.val : Int)) (IntKind.u64.wrap ((shl .u64 1 (wrap64 (7 - (n.val : Int)))) - 1)) = ((c.val % 2 ^ (7 - n.val) : Nat) : Int) := by decide +kernel
theorem w64 (t : Nat) (h : t < 1000000) : wrap64 ((t : Int) + 1) = ((t + 1 : Nat) : Int) := by unfold wrap64; omega

theorem l0_step (k : Nat) (x0 : List Int) (c0 t : Nat) (hl : 0 < x0.length) (hr : rd x0 0 = (c0 : Int)) (hc : c0 < 256) (ht : t < 8) :
    spec_Number.l0 (k + 1) x0 (t : Int) = if c0 / 2 ^ (7 - t) % 2 = 1 then spec_Number.l0 k x0 ((t + 1 : Nat) : Int) else spec_Number.j1 k x0 (t : Int) := by
  have hb := bitTab ⟨c0, hc⟩ ⟨t, ht⟩
  simp only at hb
  rw [spec_Number.l0, if_pos (by omega), if_pos (by omega), if_pos (by unfold wrap64; omega), hr, hb, w64 t (by omega)]
  by_cases h : c0 / 2 ^ (7 - t) % 2 = 1
  · rw [if_pos h, if_pos (by rw [h]; rfl)]
  · rw [if_neg h, if_neg (by omega)]
theorem l0_lead (k : Nat) (x0 : List Int) (c0 n : Nat) (hl : 0 < x0.length) (hr : rd x0 0 = (c0 : Int)) (hc : c0 < 256) (hn : n < 8) (h1 : ∀ i : Fin n, c0 / 2 ^ (7 - i.val) % 2 = 1) (h0 : c0 / 2 ^ (7 - n) % 2 ≠ 1) :
    ∀ d t, t + d = n → spec_Number.l0 (k + 1 + d) x0 (t : Int) = spec_Number.j1 k x0 (n : Int)
  | 0, t, h => by
    obtain rfl : t = n := by omega
    rw [Nat.add_zero, l0_step k x0 c0 t hl hr hc hn, if_neg h0]
  | d + 1, t, h => by
    rw [← Nat.add_assoc, l0_step _ x0 c0 t hl hr hc (by omega), if_pos (h1 ⟨t, by omega⟩)]
    exact l0_lead k x0 c0 n hl hr hc hn h1 h0 d (t + 1) (by omega)
theorem leads0 : ∀ c : Fin 256, 0 ≤ c.val → c.val < 128 → (∀ i : Fin 0, c.val / 2 ^ (7 - i.val) % 2 = 1) ∧ c.val / 2 ^ (7 - 0) % 2 ≠ 1 := by decide +kernel
theorem leads1 : ∀ c : Fin 256, 128 ≤ c.val → c.val < 192 → (∀ i : Fin 1, c.val / 2 ^ (7 - i.val) % 2 = 1) ∧ c.val / 2 ^ (7 - 1) % 2 ≠ 1 := by decide +kernel
theorem leads2 : ∀ c : Fin 256, 192 ≤ c.val → c.val < 224 → (∀ i : Fin 2, c.val / 2 ^ (7 - i.val) % 2 = 1) ∧ c.val / 2 ^ (7 - 2) % 2 ≠ 1 := by decide +kernel
theorem leads3 : ∀ c : Fin 256, 224 ≤ c.val → c.val < 240 → (∀ i : Fin 3, c.val / 2 ^ (7 - i.val) % 2 = 1) ∧ c.val / 2 ^ (7 - 3) % 2 ≠ 1 := by decide +kernel
theorem leads4 : ∀ c : Fin 256, 240 ≤ c.val → c.val < 248 → (∀ i : Fin 4, c.val / 2 ^ (7 - i.val) % 2 = 1) ∧ c.val / 2 ^ (7 - 4) % 2 ≠ 1 := by decide +kernel
theorem leads5 : ∀ c : Fin 256, 248 ≤ c.val → c.val < 252 → (∀ i : Fin 5, c.val / 2 ^ (7 - i.val) % 2 = 1) ∧ c.val / 2 ^ (7 - 5) % 2 ≠ 1 := by decide +kernel
theorem leads6 : ∀ c : Fin 256, 252 ≤ c.val → c.val < 254 → (∀ i : Fin 6, c.val / 2 ^ (7 - i.val) % 2 = 1) ∧ c.val / 2 ^ (7 - 6) % 2 ≠ 1 := by decide +kernel
theorem leads7 : ∀ c : Fin 256, 254 ≤ c.val → c.val < 255 → (∀ i : Fin 7, c.val / 2 ^ (7 - i.val) % 2 = 1) ∧ c.val / 2 ^ (7 - 7) % 2 ≠ 1 := by decide +kernel
/-- A class's facts: how many ones lead, and the mask. -/
theorem Cls.facts {c0 L m1 mx : Nat} (h : Cls c0 L m1 mx) : 1 ≤ L ∧ L ≤ 6 ∧ m1 = 2 ^ (7 - (L + 1)) ∧ c0 < 256 ∧ (∀ i : Fin (L + 1), c0 / 2 ^ (7 - i.val) % 2 = 1) ∧ c0 / 2 ^ (7 - (L + 1)) % 2 ≠ 1 := by
  have hc : c0 < 256 := by cases h <;> omega
  cases h with
  | one a b => exact ⟨by decide, by decide, rfl, hc, (leads2 ⟨c0, hc⟩ a b).1, (leads2 ⟨c0, hc⟩ a b).2⟩
  | two a b => exact ⟨by decide, by decide, rfl, hc, (leads3 ⟨c0, hc⟩ a b).1, (leads3 ⟨c0, hc⟩ a b).2⟩
  | three a b => exact ⟨by decide, by decide, rfl, hc, (leads4 ⟨c0, hc⟩ a b).1, (leads4 ⟨c0, hc⟩ a b).2⟩
  | four a b => exact ⟨by decide, by decide, rfl, hc, (leads5 ⟨c0, hc⟩ a b).1, (leads5 ⟨c0, hc⟩ a b).2⟩
  | five a b => exact ⟨by decide, by decide, rfl, hc, (leads6 ⟨c0, hc⟩ a b).1, (leads6 ⟨c0, hc⟩ a b).2⟩
  | six a b => exact ⟨by decide, by decide, rfl, hc, (leads7 ⟨c0, hc⟩ a b).1, (leads7 ⟨c0, hc⟩ a b).2⟩

theorem rd_tail (l : List Int) (L i : Nat) (hi : i < L) : rd ((l.take (L + 1)).drop 1) (i : Int) = l.getD (1 + i) 0 := by
  unfold rd
  rw [Int.toNat_natCast, List.getD_eq_getElem?_getD, List.getD_eq_getElem?_getD, List.getElem?_drop, List.getElem?_take, if_pos (by omega)]
theorem l1_good (l : List Int) (hb : ∀ i, l.getD i 0 = (byteAt l i : Int) ∧ byteAt l i < 256) (L x0 : Nat) (hL : L ≤ 6) (hx : x0 < 2 ^ (6 - L)) (hlen : L + 1 ≤ l.length) (x4 : Int) (k : Nat) :
    ∀ d j, j + d = L → (∀ i, j ≤ i → i < L → 128 ≤ byteAt l (1 + i) ∧ byteAt l (1 + i) < 192) →
      spec_Number.l1 (k + 1 + d) x4 (vals l 1 x0 j : Int) ((l.take (L + 1)).drop 1) (L : Int) (j : Int) = some ((vals l 1 x0 L : Int), x4)
  | 0, j, h, _ => by
    obtain rfl : j = L := by omega
    rw [Nat.add_zero, spec_Number.l1, if_neg (by omega)]
  | d + 1, j, h, hok => by
    have hj := hok j (Nat.le_refl _) (by omega)
    have hlt : ((l.take (L + 1)).drop 1).length = L := by rw [List.length_drop, List.length_take]; omega
    have hv := vals_lt l 1 x0 (6 - L) hx j
    have h30 : 2 ^ (6 - L + 6 * j) ≤ 68719476736 := Nat.le_trans (Nat.pow_le_pow_right (by decide) (by omega : _ ≤ 36)) (by decide)
    rw [← Nat.add_assoc, spec_Number.l1, if_pos (by omega), if_pos (by omega), if_pos (by rw [hlt]; omega), rd_tail l L j (by omega), (hb (1 + j)).1, if_pos (by omega), and_63 _ (hb (1 + j)).2, w64 j (by omega)]
    have e1 : IntKind.u64.wrap ((vals l 1 x0 j : Int) * 64) = (vals l 1 x0 j : Int) * 64 := by rw [IntKind.wrap_u64]; omega
    have e2 : IntKind.u64.wrap ((byteAt l (1 + j) % 64 : Nat) : Int) = ((byteAt l (1 + j) % 64 : Nat) : Int) := u64_small _ (by omega)
    rw [e1, e2, or_six _ _ (by omega)]
    exact l1_good l hb L x0 hL hx hlen x4 k d (j + 1) (by omega) (fun i h1 h2 => hok i (by omega) h2)
theorem l1_bad (l : List Int) (hb : ∀ i, l.getD i 0 = (byteAt l i : Int) ∧ byteAt l i < 256) (L : Nat) (hL : L ≤ 6) (hlen : L + 1 ≤ l.length) (x4 : Int) (k : Nat) :
    ∀ d j (v : Int), j + d = L → ¬ (∀ i, j ≤ i → i < L → 128 ≤ byteAt l (1 + i) ∧ byteAt l (1 + i) < 192) →
      spec_Number.l1 (k + 1 + d) x4 v ((l.take (L + 1)).drop 1) (L : Int) (j : Int) = some (0, 0)
  | 0, j, v, h, hno => absurd (fun i h1 h2 => by omega) hno
  | d + 1, j, v, h, hno => by
    have hlt : ((l.take (L + 1)).drop 1).length = L := by rw [List.length_drop, List.length_take]; omega
    have hc := (hb (1 + j)).2
    rw [← Nat.add_assoc, spec_Number.l1, if_pos (by omega), if_pos (by omega), if_pos (by rw [hlt]; omega), rd_tail l L j (by omega), (hb (1 + j)).1, w64 j (by omega)]
    by_cases hok : 128 ≤ byteAt l (1 + j) ∧ byteAt l (1 + j) < 192
    · rw [if_pos (by omega)]
      refine l1_bad l hb L hL hlen x4 k d (j + 1) _ (by omega) (fun hall => hno fun i h1 h2 => ?_)
      rcases Nat.lt_or_ge j i with h3 | h3
      · exact hall i (by omega) h2
      · obtain rfl : i = j := by omega
        exact hok
    · rw [if_neg (by omega)]

set_option maxHeartbeats 1000000 in
/-- What spec.Number tells. -/
theorem spec_number (l : List Int) (hb : ∀ i, l.getD i 0 = (byteAt l i : Int) ∧ byteAt l i < 256) (hff : 0 < l.length → byteAt l 0 ≠ 255) :
    ∃ v n : Nat, spec_Number.f 30 l = some ((v : Int), (n : Int)) ∧ ((n = 0 ∧ ∀ v' n', ¬ GoodAt l 0 v' n') ∨
      (0 < n ∧ n ≤ l.length ∧ v < 68719476736 ∧ (GoodAt l 0 v n ∨ ∃ L m1 mx, Cls (byteAt l 0) L m1 mx ∧ n = L + 1 ∧ v ≤ mx))) := by
  unfold spec_Number.f
  by_cases h0 : l.length = 0
  · rw [if_pos (by omega)]
    exact ⟨0, 0, rfl, .inl ⟨rfl, fun v n h => by have := h.1; omega⟩⟩
  rw [if_neg (by omega)]
  obtain ⟨c0, hc0⟩ : ∃ c0, byteAt l 0 = c0 := ⟨_, rfl⟩
  have hc := hb 0
  rw [hc0] at hc
  have hr : rd l 0 = (c0 : Int) := by unfold rd; exact hc.1
  have hff2 := hff (by omega)
  rw [hc0] at hff2
  have t0 := leads0 ⟨c0, hc.2⟩ (Nat.zero_le _)
  have t1 := leads1 ⟨c0, hc.2⟩
  simp only at t0 t1
  by_cases hlow : c0 < 128
  · have := l0_lead 29 l c0 0 (by omega) hr hc.2 (by decide) (t0 hlow).1 (t0 hlow).2 0 0 rfl
    rw [show (29 + 1 + 0 : Nat) = 30 from rfl, show ((0 : Nat) : Int) = 0 from rfl] at this
    rw [this, spec_Number.j1, if_pos rfl, if_pos (by omega), hr, u64_small c0 (by omega)]
    refine ⟨c0, 1, rfl, .inr ⟨by decide, by omega, by omega, .inl ⟨by omega, .inl ⟨by rw [hc0]; exact hlow, hc0.symm, rfl⟩⟩⟩⟩
  by_cases hmid : c0 < 192
  · have := l0_lead 28 l c0 1 (by omega) hr hc.2 (by decide) (t1 (by omega) hmid).1 (t1 (by omega) hmid).2 1 0 rfl
    rw [show (28 + 1 + 1 : Nat) = 30 from rfl, show ((0 : Nat) : Int) = 0 from rfl] at this
    rw [this, spec_Number.j1, if_neg (by decide), if_pos (by rfl)]
    refine ⟨0, 0, rfl, .inl ⟨rfl, ?_⟩⟩
    rintro v n ⟨_, ⟨h1, _⟩ | ⟨L, m1, mx, c, _⟩⟩
    · omega
    · rw [hc0] at c; have := c.ge; omega
  · obtain ⟨L, m1, mx, hC⟩ := cls_of (c0 := c0) (by omega) (by omega)
    obtain ⟨f1, f2, f3, f4, f5, f6⟩ := hC.facts
    have hl0 := l0_lead (30 - 1 - (L + 1)) l c0 (L + 1) (by omega) hr hc.2 (by omega) f5 f6 (L + 1) 0 (by omega)
    rw [show 30 - 1 - (L + 1) + 1 + (L + 1) = 30 by omega] at hl0
    rw [show ((0 : Nat) : Int) = 0 from rfl] at hl0
    rw [hl0, show 30 - 1 - (L + 1) = (27 - L) + 1 by omega, spec_Number.j1, if_neg (by omega), if_neg (by omega), if_neg (by omega)]
    by_cases hlen : l.length < L + 1
    · rw [if_pos (by omega)]
      refine ⟨0, 0, rfl, .inl ⟨rfl, ?_⟩⟩
      rintro v n ⟨_, ⟨h1, _⟩ | ⟨L', m1', mx', c, f, _⟩⟩
      · omega
      · rw [hc0] at c
        obtain ⟨rfl, _, _⟩ := hC.same c
        have := f.1; omega
    · have hmask := maskTab ⟨c0, hc.2⟩ ⟨L + 1, by omega⟩
      simp only at hmask
      have hto : ((L + 1 : Nat) : Int).toNat = L + 1 := by omega
      have hlt : ((l.take (L + 1)).drop 1).length = L := by rw [List.length_drop, List.length_take]; omega
      rw [if_neg (by omega), if_pos (by omega), if_pos (by unfold wrap64; omega), if_pos (by omega), if_pos (by omega), hr, hmask, hto, hlt, ← f3]
      have hx : c0 % m1 < 2 ^ (6 - L) := by
        rw [f3, show 7 - (L + 1) = 6 - L by omega]
        exact Nat.mod_lt _ (Nat.two_pow_pos _)
      have hv0 : vals l 1 (c0 % m1) 0 = c0 % m1 := rfl
      by_cases hok : ∀ i, 0 ≤ i → i < L → 128 ≤ byteAt l (1 + i) ∧ byteAt l (1 + i) < 192
      · have hg := l1_good l hb L (c0 % m1) f2 hx (by omega) ((L + 1 : Nat) : Int) (26 - L - L) L 0 (by omega) hok
        rw [hv0, show 26 - L - L + 1 + L = 27 - L by omega, show ((0 : Nat) : Int) = 0 from rfl] at hg
        rw [hg]
        have hvl := vals_lt l 1 (c0 % m1) (6 - L) hx L
        have h36 : 2 ^ (6 - L + 6 * L) ≤ 68719476736 := Nat.le_trans (Nat.pow_le_pow_right (by decide) (by omega : _ ≤ 36)) (by decide)
        refine ⟨_, L + 1, rfl, .inr ⟨by omega, by omega, by omega, ?_⟩⟩
        by_cases hbig : mx < vals l 1 (c0 % m1) L
        · exact .inl ⟨by omega, .inr ⟨L, m1, mx, by rw [hc0]; exact hC, ⟨by omega, fun i hi => hok i (by omega) hi⟩, by rw [hc0]; exact hbig, by rw [hc0], rfl⟩⟩
        · exact .inr ⟨L, m1, mx, by rw [hc0]; exact hC, rfl, by omega⟩
      · have hg := l1_bad l hb L f2 (by omega) ((L + 1 : Nat) : Int) (26 - L - L) L 0 ((c0 % m1 : Nat) : Int) (by omega) hok
        rw [show 26 - L - L + 1 + L = 27 - L by omega, show ((0 : Nat) : Int) = 0 from rfl] at hg
        rw [hg]
        refine ⟨0, 0, rfl, .inl ⟨rfl, ?_⟩⟩
        rintro v n ⟨_, ⟨h1, _⟩ | ⟨L', m1', mx', c, f, _⟩⟩
        · omega
        · rw [hc0] at c
          obtain ⟨rfl, _, _⟩ := hC.same c
          exact hok (fun i _ hi => f.2 i hi)

/-- How many bytes follow the first of a coded number. -/
def more (v : Nat) : Nat := if v < 128 then 0 else if v < 2048 then 1 else if v < 65536 then 2 else if v < 2097152 then 3 else if v < 67108864 then 4 else if v < 2147483648 then 5 else 6
/-- The last m bytes of a coded number. -/
def tail (v : Nat) : Nat → List Int
  | 0 => []
  | m + 1 => ((128 + v / 64 ^ m % 64 : Nat) : Int) :: tail v m
/-- The first byte. -/
def first (v m : Nat) : Nat := if m = 0 then v else 65280 / 2 ^ (m + 1) % 256 + v / 64 ^ m
/-- The bytes that code v. -/
def coded (v : Nat) : List Int := (first v (more v) : Int) :: tail v (more v)
theorem tail_len (v : Nat) : ∀ m, (tail v m).length = m
  | 0 => rfl
  | m + 1 => by rw [tail, List.length_cons, tail_len v m]
theorem coded_len (v : Nat) : (coded v).length = more v + 1 := by rw [coded, List.length_cons, tail_len]
theorem more_le (v : Nat) : more v ≤ 6 := by unfold more; (repeat' split) <;> omega
theorem mid_byte (x : Nat) (hx : x < 18446744073709551616) : Go.bits .or .u64 128 (Go.bits .and .u64 (x : Int) 63) % 256 = ((128 + x % 64 : Nat) : Int) := by
  have e1 : Go.bits .and .u64 (x : Int) 63 = ((x % 64 : Nat) : Int) := by
    rw [u64_and _ _ (by omega) (by omega) (by decide) (by decide)]
    show ((x &&& (2 ^ 6 - 1) : Nat) : Int) = _
    rw [Nat.and_two_pow_sub_one_eq_mod]
  have e2 : Go.bits .or .u64 (1 * 2 ^ 7) ((x % 64 : Nat) : Int) = 1 * 2 ^ 7 + ((x % 64 : Nat) : Int) := or_u64_add 1 _ 7 (by omega) (by omega) (by omega) (by omega)
  rw [e1]
  rw [show ((128 : Int)) = 1 * 2 ^ 7 from rfl, e2]
  omega
theorem firstTab : ∀ m : Fin 7, ∀ y : Fin 64, 1 ≤ m.val → y.val < 2 ^ (6 - m.val) →
    Go.bits .or .u8 ((Go.bits .and .u64 (shr .u64 65280 ((m.val : Int) + 1)) 255) % 256) ((y.val : Int) % 256) = ((65280 / 2 ^ (m.val + 1) % 256 + y.val : Nat) : Int) := by decide +kernel
theorem c_l1 (v m : Nat) (hm : 1 ≤ m) (hm6 : m ≤ 6) (hv : v < 2 ^ (5 * m + 6)) (k : Nat) :
    ∀ d i, i + d = m → spec_Coded.l1 (k + 1 + d) ((v / 64 ^ i : Nat) : Int) ((m : Int) + 1) (tail v i) (m : Int) (i : Int) = some ((first v m : Int) :: tail v m)
  | 0, i, h => by
    obtain rfl : i = m := by omega
    have hy : v / 64 ^ i < 2 ^ (6 - i) := by
      rw [Nat.div_lt_iff_lt_mul (Nat.pow_pos (by decide)), show (64 : Nat) = 2 ^ 6 from rfl, ← Nat.pow_mul, ← Nat.pow_add, show 6 - i + 6 * i = 5 * i + 6 by omega]
      exact hv
    have h64 : 2 ^ (6 - i) ≤ 2 ^ 5 := Nat.pow_le_pow_right (by decide) (by omega)
    have ht := firstTab ⟨i, by omega⟩ ⟨v / 64 ^ i, by omega⟩ hm hy
    simp only at ht
    rw [Nat.add_zero, spec_Coded.l1, if_neg (by omega), if_pos (by omega), ht, Option.bind_some, if_pos (by rw [tail_len]; simp; omega), first, if_neg (by omega)]
    rfl
  | d + 1, i, h => by
    have hb : v / 64 ^ i < 18446744073709551616 := by
      have h1 : v / 64 ^ i ≤ v := Nat.div_le_self _ _
      have h2 : 2 ^ (5 * m + 6) ≤ 2 ^ 36 := Nat.pow_le_pow_right (by decide) (by omega)
      omega
    have e : ((v / 64 ^ i : Nat) : Int) / 64 = ((v / 64 ^ (i + 1) : Nat) : Int) := by
      rw [Nat.pow_succ, ← Nat.div_div_eq_div_mul]; rfl
    rw [← Nat.add_assoc, spec_Coded.l1, if_pos (by omega), mid_byte _ hb, Option.bind_some, if_pos (by rw [tail_len]; simp; omega), e, w64 i (by omega)]
    exact c_l1 v m hm hm6 hv k d (i + 1) (by omega)
theorem c_l0 (v n : Nat) (hn : 2 ≤ n) (hn7 : n ≤ 7) (hlo : ∀ i, 2 ≤ i → i < n → 2 ^ (5 * i + 1) ≤ v) (hhi : v < 2 ^ (5 * n + 1)) (k : Nat) :
    ∀ d t, 2 ≤ t → t + d = n → spec_Coded.l0 (k + 1 + d) (v : Int) (t : Int) = spec_Coded.l1 k (v : Int) (n : Int) [] (wrap64 ((n : Int) - 1)) 0
  | 0, t, h2, h => by
    obtain rfl : t = n := by omega
    have ew : wrap64 (wrap64 (5 * (t : Int)) + 1) = ((5 * t + 1 : Nat) : Int) := by unfold wrap64; omega
    have es : shr .u64 (v : Int) ((5 * t + 1 : Nat) : Int) = 0 := by
      unfold shr
      rw [Int.toNat_natCast, show min (5 * t + 1) (IntKind.u64.bits) = 5 * t + 1 from Nat.min_eq_left (by show 5 * t + 1 ≤ 64; omega)]
      have : v / 2 ^ (5 * t + 1) = 0 := Nat.div_eq_of_lt hhi
      have e : (v : Int) / 2 ^ (5 * t + 1) = ((v / 2 ^ (5 * t + 1) : Nat) : Int) := by simp
      rw [e, this]; rfl
    rw [Nat.add_zero, spec_Coded.l0, ew, es, if_pos (by omega), if_neg (by decide)]
  | d + 1, t, h2, h => by
    have ew : wrap64 (wrap64 (5 * (t : Int)) + 1) = ((5 * t + 1 : Nat) : Int) := by unfold wrap64; omega
    have es : shr .u64 (v : Int) ((5 * t + 1 : Nat) : Int) > 0 := by
      unfold shr
      rw [Int.toNat_natCast, show min (5 * t + 1) (IntKind.u64.bits) = 5 * t + 1 from Nat.min_eq_left (by show 5 * t + 1 ≤ 64; omega)]
      have : 0 < v / 2 ^ (5 * t + 1) := Nat.div_pos (hlo t h2 (by omega)) (Nat.two_pow_pos _)
      have e : (v : Int) / 2 ^ (5 * t + 1) = ((v / 2 ^ (5 * t + 1) : Nat) : Int) := by simp
      rw [e]; omega
    rw [← Nat.add_assoc, spec_Coded.l0, ew, if_pos (by omega), if_pos es, w64 t (by omega)]
    exact c_l0 v n hn hn7 hlo hhi k d (t + 1) (by omega) (by omega)
/-- What spec.Coded tells. -/
theorem spec_coded (v : Nat) (hv : v < 68719476736) : spec_Coded.f 30 (v : Int) = some (coded v) := by
  unfold spec_Coded.f
  by_cases h : v < 128
  · have e : more v = 0 := by unfold more; rw [if_pos h]
    rw [if_pos (by omega), coded, e, first, if_pos rfl, tail, show (v : Int) % 256 = (v : Int) by omega]
  · rw [if_neg (by omega)]
    have key : ∀ m, 1 ≤ m → m ≤ 6 → more v = m → (∀ i, 2 ≤ i → i < m + 1 → 2 ^ (5 * i + 1) ≤ v) → v < 2 ^ (5 * (m + 1) + 1) → spec_Coded.l0 30 (v : Int) 2 = some (coded v) := by
      intro m h1 h6 hm hlo hhi
      have h0 := c_l0 v (m + 1) (by omega) (by omega) hlo hhi (30 - 1 - (m - 1)) (m - 1) 2 (by omega) (by omega)
      rw [show 30 - 1 - (m - 1) + 1 + (m - 1) = 30 by omega, show ((2 : Nat) : Int) = 2 from rfl] at h0
      have hl := c_l1 v m h1 h6 (by rw [show 5 * m + 6 = 5 * (m + 1) + 1 by omega]; exact hhi) (29 - m - m) m 0 (by omega)
      rw [Nat.pow_zero, Nat.div_one, show ((0 : Nat) : Int) = 0 from rfl, show 29 - m - m + 1 + m = 30 - 1 - (m - 1) by omega, tail] at hl
      rw [h0, show wrap64 (((m + 1 : Nat) : Int) - 1) = (m : Int) by unfold wrap64; omega, show ((m + 1 : Nat) : Int) = (m : Int) + 1 by omega, hl, coded, hm]
    have hsm : ∀ m i : Nat, i < m + 1 → m ≤ 6 → i = 0 ∨ i = 1 ∨ i = 2 ∨ i = 3 ∨ i = 4 ∨ i = 5 ∨ i = 6 := by omega
    by_cases h2 : v < 2048
    · exact key 1 (by omega) (by omega) (by unfold more; rw [if_neg h, if_pos h2]) (fun i _ _ => by omega) (by omega)
    by_cases h3 : v < 65536
    · exact key 2 (by omega) (by omega) (by unfold more; rw [if_neg h, if_neg h2, if_pos h3]) (fun i a b => by rcases hsm 2 i b (by omega) with rfl | rfl | rfl | rfl | rfl | rfl | rfl <;> omega) (by omega)
    by_cases h4 : v < 2097152
    · exact key 3 (by omega) (by omega) (by unfold more; rw [if_neg h, if_neg h2, if_neg h3, if_pos h4]) (fun i a b => by rcases hsm 3 i b (by omega) with rfl | rfl | rfl | rfl | rfl | rfl | rfl <;> omega) (by omega)
    by_cases h5 : v < 67108864
    · exact key 4 (by omega) (by omega) (by unfold more; rw [if_neg h, if_neg h2, if_neg h3, if_neg h4, if_pos h5]) (fun i a b => by rcases hsm 4 i b (by omega) with rfl | rfl | rfl | rfl | rfl | rfl | rfl <;> omega) (by omega)
    by_cases h6 : v < 2147483648
    · exact key 5 (by omega) (by omega) (by unfold more; rw [if_neg h, if_neg h2, if_neg h3, if_neg h4, if_neg h5, if_pos h6]) (fun i a b => by rcases hsm 5 i b (by omega) with rfl | rfl | rfl | rfl | rfl | rfl | rfl <;> omega) (by omega)
    · exact key 6 (by omega) (by omega) (by unfold more; rw [if_neg h, if_neg h2, if_neg h3, if_neg h4, if_neg h5, if_neg h6]) (fun i a b => by rcases hsm 6 i b (by omega) with rfl | rfl | rfl | rfl | rfl | rfl | rfl <;> omega) (by omega)
/-- A number in more bytes than it needs is coded in another number of bytes. -/
theorem over_len {c0 L m1 mx v : Nat} (h : Cls c0 L m1 mx) (hv : v ≤ mx) : (coded v).length ≠ L + 1 := by
  rw [coded_len]
  unfold more
  cases h <;> (repeat' split) <;> omega
end Go.Proofs.YtfpeoadgbidahaaDoor.Walk
