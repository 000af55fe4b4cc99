/- The plain part of the law on the text of unary numbers: the bytes that are written are those that the law has made. -/
import Derived.Test.YtfpeoadgbidahaaDoorBwU
import Derived.Test.YtfpeoadgbidahaaDoorLawUnaryP
namespace Go.Proofs.YtfpeoadgbidahaaDoor.Walk
set_option linter.unusedVariables false
set_option linter.unusedSimpArgs false
open Go Go.RowKit Go.Proofs.YtfpeoadgbidahaaDoorW.PrintWords Go.Proofs.YtfpeoadgbidahaaDoor.Num

/-- The writer holds N bits: those of f. -/
structure Holds (s : WS) (N : Nat) (f : Nat → Nat) : Prop where
  ok : s.Ok
  len : N = 8 * s.out.length + s.nb
  bytes : ∀ x ∈ s.out, 0 ≤ x ∧ x ≤ 255
  outb : ∀ p, p < 8 * s.out.length → bitAt s.out p = f p
  keep : ∀ i, i < s.nb → s.c / 2 ^ (s.nb - 1 - i) % 2 = f (8 * s.out.length + i)
theorem half_pow (c t k : Nat) (ht : t < 2) : (2 * c + t) / 2 ^ (k + 1) = c / 2 ^ k := by
  rw [Nat.pow_succ, Nat.mul_comm (2 ^ k) 2, ← Nat.div_div_eq_div_mul]
  congr 1; omega
theorem byteAt_left (l : List Int) (x : Int) (i : Nat) (h : i < l.length) : byteAt (l ++ [x]) i = byteAt l i := by
  unfold byteAt
  rw [List.getD_eq_getElem?_getD, List.getD_eq_getElem?_getD, List.getElem?_append_left h]
theorem byteAt_last (l : List Int) (x : Nat) : byteAt (l ++ [(x : Int)]) l.length = x := by
  unfold byteAt
  rw [List.getD_eq_getElem?_getD]; simp
theorem Holds.put {s : WS} {N : Nat} {f : Nat → Nat} (h : Holds s N f) {t : Nat} (ht : t < 2) (hf : f N = t) : Holds (s.put t) (N + 1) f := by
  have hok := h.ok.put ht
  have hlen := h.len
  have hc := h.ok.c_lt
  have hnb := h.ok.nb
  unfold WS.put at hok ⊢
  by_cases h7 : s.nb = 7
  · rw [if_pos h7] at hok ⊢
    refine ⟨hok, ?_, ?_, ?_, fun i hi => absurd hi (by show ¬ i < 0; omega)⟩
    · show N + 1 = 8 * (s.out ++ [((2 * s.c + t : Nat) : Int)]).length + 0
      rw [List.length_append, List.length_singleton]; omega
    · intro x hx
      rcases List.mem_append.1 hx with h1 | h1
      · exact h.bytes x h1
      · simp only [List.mem_singleton] at h1; omega
    · intro p hp
      have hp' : p < 8 * (s.out.length + 1) := by
        have e : (s.out ++ [((2 * s.c + t : Nat) : Int)]).length = s.out.length + 1 := by simp
        rw [← e]; exact hp
      rcases Nat.lt_or_ge p (8 * s.out.length) with h1 | h1
      · rw [← h.outb p h1]
        unfold bitAt
        rw [byteAt_left _ _ _ (by omega)]
      · obtain ⟨i, hi⟩ : ∃ i, p = 8 * s.out.length + i := ⟨p - 8 * s.out.length, by omega⟩
        subst hi
        unfold bitAt
        rw [show (8 * s.out.length + i) / 8 = s.out.length by omega, show (8 * s.out.length + i) % 8 = i by omega, byteAt_last]
        rcases Nat.lt_or_ge i 7 with h2 | h2
        · have hk := h.keep i (by omega)
          rw [← hk, h7, show 7 - i = (7 - 1 - i) + 1 by omega, half_pow _ _ _ ht]
        · obtain rfl : i = 7 := by omega
          rw [show 8 * s.out.length + 7 = N by omega, hf]
          simp; omega
  · rw [if_neg h7] at hok ⊢
    refine ⟨hok, by show N + 1 = 8 * s.out.length + (s.nb + 1); omega, h.bytes, h.outb, ?_⟩
    intro i hi
    have hi' : i < s.nb + 1 := hi
    show (2 * s.c + t) / 2 ^ (s.nb + 1 - 1 - i) % 2 = f (8 * s.out.length + i)
    rcases Nat.lt_or_ge i s.nb with h2 | h2
    · rw [← h.keep i h2, show s.nb + 1 - 1 - i = (s.nb - 1 - i) + 1 by omega, half_pow _ _ _ ht]
    · obtain rfl : i = s.nb := by omega
      rw [show s.nb + 1 - 1 - s.nb = 0 by omega, ← hlen, hf]
      simp; omega
theorem Holds.puts {f : Nat → Nat} (v : Nat) : ∀ (n : Nat) {s : WS} {N : Nat}, Holds s N f → (∀ i, i < n → f (N + i) = v / 2 ^ (n - 1 - i) % 2) → Holds (s.puts v n) (N + n) f
  | 0, s, N, h, _ => h
  | n + 1, s, N, h, hf => by
    have h0 := hf 0 (by omega)
    rw [Nat.add_zero, show n + 1 - 1 - 0 = n by omega] at h0
    have h1 := h.put (Nat.mod_lt _ (by decide)) h0
    have h2 := Holds.puts v n h1 (fun i hi => by
      have := hf (i + 1) (by omega)
      rw [show N + (i + 1) = N + 1 + i by omega, show n + 1 - 1 - (i + 1) = n - 1 - i by omega] at this
      exact this)
    rw [WS.puts, show N + (n + 1) = N + 1 + n by omega]
    exact h2
theorem Holds.flush {s : WS} {N : Nat} {f : Nat → Nat} (h : Holds s N f) (hf : ∀ p, N ≤ p → f p = 0) : Holds s.flush (8 * ((N + 7) / 8)) f ∧ s.flush.nb = 0 := by
  have hlen := h.len
  have hnb := h.ok.nb
  unfold WS.flush
  by_cases h0 : s.nb = 0
  · rw [if_pos h0]
    refine ⟨?_, h0⟩
    rw [show 8 * ((N + 7) / 8) = N by omega]; exact h
  · rw [if_neg h0]
    have h1 := h.puts 0 (8 - s.nb) (fun i hi => by rw [Nat.zero_div]; exact hf _ (by omega))
    rw [show N + (8 - s.nb) = 8 * ((N + 7) / 8) by omega] at h1
    refine ⟨h1, ?_⟩
    have := h1.len; have := h1.ok.nb; omega
theorem num_congr {a b : List Int} {q : Nat} : ∀ n, (∀ i, i < n → bitAt a (q + i) = bitAt b (q + i)) → num a q n = num b q n
  | 0, _ => rfl
  | n + 1, h => by rw [num, num, num_congr n (fun i hi => h i (by omega)), h n (by omega)]
theorem bytes_eq {a b : List Int} (hl : a.length = b.length) (ha : ∀ x ∈ a, 0 ≤ x ∧ x ≤ 255) (hb : ∀ x ∈ b, 0 ≤ x ∧ x ≤ 255) (h : ∀ p, p < 8 * a.length → bitAt a p = bitAt b p) : a = b := by
  have key : ∀ (l : List Int), (∀ x ∈ l, 0 ≤ x ∧ x ≤ 255) → ∀ i (hi : i < l.length), l[i] = (num l (8 * i) 8 : Int) := by
    intro l hl i hi
    have h1 := hl l[i] (List.getElem_mem hi)
    have e : byteAt l i = l[i].toNat := by unfold byteAt; rw [List.getD_eq_getElem?_getD, List.getElem?_eq_getElem hi]; rfl
    rw [num_byte l i (by omega), e]; omega
  refine List.ext_getElem hl fun i h1 h2 => ?_
  rw [key a ha i h1, key b hb i h2, num_congr 8 (fun j hj => h _ (by omega))]
theorem uw_text {us : List Nat} {bs : List Int} (h : Text us us.length bs) (hl : bs.length = (ends us us.length + 7) / 8) : (uw us us.length).flush.out = bs := by
  have hu := h.done hl
  have key : ∀ j, j ≤ us.length → Holds (uw us j) (ends us j) (bitAt bs) := by
    intro j
    induction j with
    | zero => intro _; exact ⟨⟨show 0 < 8 by decide, show 0 < 2 ^ 0 by decide⟩, by simp [ends, sumTo, uw], by simp [uw], fun p hp => by simp [uw] at hp, fun i hi => by simp [uw] at hi⟩
    | succ j ih =>
      intro hj
      have h1 := ih (by omega)
      have h2 := h1.puts 1 (us.getD j 0 + 1) (fun i hi => by
        rcases Nat.lt_or_ge i (us.getD j 0) with h3 | h3
        · rw [hu.zero j (by omega) i h3, Nat.div_eq_of_lt (Nat.one_lt_two_pow (by omega))]
        · obtain rfl : i = us.getD j 0 := by omega
          rw [hu.one j (by omega), show us.getD j 0 + 1 - 1 - us.getD j 0 = 0 by omega])
      have e : ends us (j + 1) = ends us j + (us.getD j 0 + 1) := by have := ends_succ us j (by omega); unfold ends; omega
      rw [e]; exact h2
  have hz : ∀ p, ends us us.length ≤ p → bitAt bs p = 0 := fun p hp => by
    rw [h.bits]
    refine mark_zero us p _ fun i hi e => ?_
    have := sumTo_le (us.map (· + 1)) (i := i + 1) (j := us.length) (by omega)
    unfold ends at e hp; omega
  obtain ⟨hf, h0⟩ := (key us.length (Nat.le_refl _)).flush hz
  have hlen := hf.len
  rw [h0] at hlen
  refine bytes_eq (by omega) hf.bytes h.bytes (fun p hp => hf.outb p hp)
end Go.Proofs.YtfpeoadgbidahaaDoor.Walk
