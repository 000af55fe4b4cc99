/- A writer of bits, in plain words: the bytes that are out, and the bits that are kept back. -/
import Derived.Test.YtcdfbcanebjmfaaDoorNum
namespace Go.Proofs.YtcdfbcanebjmfaaDoor.Walk
set_option linter.unusedVariables false
set_option linter.unusedSimpArgs false
open Go Go.Proofs.YtcdfbcanebjmfaaDoor.Num

/-- What a writer of bits holds: the bytes that are out, the bits that are kept back, and how many these are. -/
structure WS where
  out : List Int
  c : Nat
  nb : Nat
def WS.put (s : WS) (t : Nat) : WS := if s.nb = 7 then ⟨s.out ++ [((2 * s.c + t : Nat) : Int)], 0, 0⟩ else ⟨s.out, 2 * s.c + t, s.nb + 1⟩
def WS.puts (s : WS) (v : Nat) : Nat → WS
  | 0 => s
  | n + 1 => WS.puts (s.put (v / 2 ^ n % 2)) v n
structure WS.Ok (s : WS) : Prop where
  nb : s.nb < 8
  c : s.c < 2 ^ s.nb
theorem WS.Ok.put {s : WS} (h : s.Ok) {t : Nat} (ht : t < 2) : (s.put t).Ok := by
  have h1 := h.nb; have h2 := h.c
  unfold WS.put
  split
  · exact ⟨show 0 < 8 by decide, show 0 < 2 ^ 0 by decide⟩
  · refine ⟨by show s.nb + 1 < 8; omega, ?_⟩
    show 2 * s.c + t < 2 ^ (s.nb + 1)
    rw [Nat.pow_succ]; omega
theorem WS.Ok.c_lt {s : WS} (h : s.Ok) : s.c < 128 := by
  have h1 := h.nb; have h2 := h.c
  exact Nat.lt_of_lt_of_le h2 (Nat.pow_le_pow_right (by decide) (by omega : s.nb ≤ 7))

theorem bit_of_u64 (q : Nat) (h : q < 18446744073709551616) : Go.bits .and .u64 (q : Int) 1 = ((q % 2 : Nat) : Int) := by
  rw [u64_and _ _ (by omega) (by omega) (by decide) (by decide)]
  show ((q &&& (2 ^ 1 - 1) : Nat) : Int) = _
  rw [Nat.and_two_pow_sub_one_eq_mod]
theorem or_bit_u8 (c t : Nat) (hc : c < 128) (ht : t < 2) : Go.bits .or .u8 ((c : Int) * 2) (t : Int) = ((2 * c + t : Nat) : Int) := by
  have key : ∀ c : Fin 128, ∀ t : Fin 2, Go.bits .or .u8 ((c.val : Int) * 2) (t.val : Int) = ((2 * c.val + t.val : Nat) : Int) := by decide +kernel
  exact key ⟨c, hc⟩ ⟨t, ht⟩

theorem WS.put_len (s : WS) (t : Nat) : (s.put t).out.length ≤ s.out.length + 1 := by
  unfold WS.put; split <;> simp
theorem WS.puts_len (v : Nat) : ∀ (n : Nat) (s : WS), (s.puts v n).out.length ≤ s.out.length + n
  | 0, s => Nat.le_refl _
  | n + 1, s => by
    have h1 := WS.puts_len v n (s.put (v / 2 ^ n % 2))
    have h2 := s.put_len (v / 2 ^ n % 2)
    rw [WS.puts]; omega
/-- A one in n + m + 1 bits: n noughts, and a one in m + 1 bits. -/
theorem WS.puts_one (m : Nat) : ∀ (n : Nat) (s : WS), s.puts 1 (n + m + 1) = (s.puts 0 n).puts 1 (m + 1)
  | 0, s => by rw [Nat.zero_add]; rfl
  | n + 1, s => by
    have e1 : 1 / 2 ^ (n + m + 1) % 2 = 0 := by
      rw [Nat.div_eq_of_lt (Nat.one_lt_two_pow (by omega))]
    have e0 : 0 / 2 ^ n % 2 = 0 := by rw [Nat.zero_div]
    have e2 : s.puts 0 (n + 1) = (s.put 0).puts 0 n := by
      show (s.put (0 / 2 ^ n % 2)).puts 0 n = _
      rw [e0]
    rw [show n + 1 + m + 1 = (n + m + 1) + 1 by omega, WS.puts, e1, WS.puts_one m n, e2]
def WS.flush (s : WS) : WS := if s.nb = 0 then s else s.puts 0 (8 - s.nb)


/-- Bits within one byte. -/
theorem WS.puts_in (v : Nat) : ∀ (n : Nat) (out : List Int) (c nb : Nat), nb + n < 8 → (⟨out, c, nb⟩ : WS).puts v n = ⟨out, c * 2 ^ n + v % 2 ^ n, nb + n⟩
  | 0, out, c, nb, _ => by simp [WS.puts, Nat.mod_one]
  | n + 1, out, c, nb, h => by
    have e : (⟨out, c, nb⟩ : WS).put (v / 2 ^ n % 2) = ⟨out, 2 * c + v / 2 ^ n % 2, nb + 1⟩ := by
      unfold WS.put; rw [if_neg (by show ¬ nb = 7; omega)]
    rw [WS.puts, e, WS.puts_in v n _ _ _ (by omega)]
    have h2 : v % 2 ^ (n + 1) = v / 2 ^ n % 2 * 2 ^ n + v % 2 ^ n := by
      rw [Nat.pow_succ, Nat.mod_mul, Nat.mul_comm, Nat.add_comm]
    rw [h2, Nat.pow_succ, Nat.add_mul, show nb + 1 + n = nb + (n + 1) by omega]
    congr 1
    rw [Nat.mul_comm 2 c, Nat.mul_assoc, Nat.mul_comm 2 (2 ^ n)]; omega
/-- .. up to its end. -/
theorem WS.puts_end (v n : Nat) (out : List Int) (c nb : Nat) (h : nb + n = 8) (h0 : 0 < n) : (⟨out, c, nb⟩ : WS).puts v n = ⟨out ++ [((c * 2 ^ n + v % 2 ^ n : Nat) : Int)], 0, 0⟩ := by
  have key : ∀ (m : Nat) (c nb : Nat), nb + (m + 1) = 8 → (⟨out, c, nb⟩ : WS).puts v (m + 1) = ⟨out ++ [((c * 2 ^ (m + 1) + v % 2 ^ (m + 1) : Nat) : Int)], 0, 0⟩ := by
    intro m
    induction m with
    | zero =>
      intro c nb hb
      obtain rfl : nb = 7 := by omega
      have e : (⟨out, c, 7⟩ : WS).puts v (0 + 1) = ⟨out ++ [((2 * c + v / 2 ^ 0 % 2 : Nat) : Int)], 0, 0⟩ := rfl
      rw [e]; congr 3; simp; omega
    | succ m ih =>
      intro c nb hb
      have e : (⟨out, c, nb⟩ : WS).put (v / 2 ^ (m + 1) % 2) = ⟨out, 2 * c + v / 2 ^ (m + 1) % 2, nb + 1⟩ := by
        unfold WS.put; rw [if_neg (by show ¬ nb = 7; omega)]
      rw [WS.puts, e, ih _ _ (by omega)]
      have h2 : v % 2 ^ (m + 1 + 1) = v / 2 ^ (m + 1) % 2 * 2 ^ (m + 1) + v % 2 ^ (m + 1) := by
        rw [Nat.pow_succ, Nat.mod_mul, Nat.mul_comm, Nat.add_comm]
      rw [h2, Nat.pow_succ 2 (m + 1), Nat.add_mul]
      congr 4
      rw [Nat.mul_comm 2 c, Nat.mul_assoc, Nat.mul_comm 2 (2 ^ (m + 1))]; omega
  obtain ⟨m, rfl⟩ : ∃ m, n = m + 1 := ⟨n - 1, by omega⟩
  exact key m c nb h
theorem WS.puts_split (v b : Nat) : ∀ (a : Nat) (s : WS), s.puts v (a + b) = (s.puts (v / 2 ^ b) a).puts v b
  | 0, s => by rw [Nat.zero_add]; rfl
  | a + 1, s => by
    rw [show a + 1 + b = (a + b) + 1 by omega, WS.puts, WS.puts, WS.puts_split v b a, Nat.div_div_eq_div_mul, ← Nat.pow_add, Nat.add_comm b a]
theorem WS.puts_byte (v : Nat) (out : List Int) : (⟨out, 0, 0⟩ : WS).puts v 8 = ⟨out ++ [((v % 256 : Nat) : Int)], 0, 0⟩ := by
  rw [WS.puts_end v 8 out 0 0 (by decide) (by decide)]; simp
theorem WS.puts_two (v : Nat) (out : List Int) : (⟨out, 0, 0⟩ : WS).puts v 16 = ⟨out ++ [((v / 256 % 256 : Nat) : Int), ((v % 256 : Nat) : Int)], 0, 0⟩ := by
  rw [show 16 = 8 + 8 from rfl, WS.puts_split v 8 8, WS.puts_byte, WS.puts_byte, List.append_assoc]; rfl
theorem WS.puts_nibs (a b : Nat) (out : List Int) (ha : a < 16) (hb : b < 16) : ((⟨out, 0, 0⟩ : WS).puts a 4).puts b 4 = ⟨out ++ [((a * 16 + b : Nat) : Int)], 0, 0⟩ := by
  rw [WS.puts_in a 4 out 0 0 (by decide), WS.puts_end b 4 _ _ _ (by decide) (by decide)]
  congr 4; rw [Nat.mod_eq_of_lt ha, Nat.mod_eq_of_lt hb]; simp
end Go.Proofs.YtcdfbcanebjmfaaDoor.Walk
