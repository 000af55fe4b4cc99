/- The plain part of the law on unary numbers: the bits of a text into which the law sets ones. -/
import Derived.Test.YtfpeoadgbidahaaDoorUnary
namespace Go.Proofs.YtfpeoadgbidahaaDoor.Walk
set_option linter.unusedVariables false
set_option linter.unusedSimpArgs false
open Go Go.RowKit Go.Proofs.YtfpeoadgbidahaaDoorW.PrintWords Go.Proofs.YtfpeoadgbidahaaDoor.Num

/-- The first bit behind the first j numbers. -/
abbrev ends (us : List Nat) (j : Nat) : Nat := sumTo (us.map (· + 1)) j
/-- Whether bit p ends one of the first j numbers. -/
def mark (us : List Nat) : Nat → Nat → Nat
  | 0, _ => 0
  | j + 1, p => if p + 1 = ends us (j + 1) then 1 else mark us j p
theorem mark_zero (us : List Nat) (p : Nat) : ∀ j, (∀ i, i < j → ends us (i + 1) ≠ p + 1) → mark us j p = 0
  | 0, _ => rfl
  | j + 1, h => by
    unfold mark
    rw [if_neg (fun e => h j (by omega) e.symm)]
    exact mark_zero us p j (fun i hi => h i (by omega))
theorem mark_one (us : List Nat) (p : Nat) : ∀ j, (∃ i, i < j ∧ ends us (i + 1) = p + 1) → mark us j p = 1
  | 0, ⟨i, hi, _⟩ => by omega
  | j + 1, ⟨i, hi, he⟩ => by
    unfold mark
    split
    · rfl
    · rename_i hne
      refine mark_one us p j ⟨i, ?_, he⟩
      rcases Nat.lt_or_ge i j with h | h
      · exact h
      · obtain rfl : i = j := by omega
        omega
/-- What the law's text is behind j numbers. -/
structure Text (us : List Nat) (j : Nat) (bs : List Int) : Prop where
  bytes : ∀ x ∈ bs, 0 ≤ x ∧ x ≤ 255
  bits : ∀ p, bitAt bs p = mark us j p
theorem byteAt_push (bs : List Int) (i : Nat) : byteAt (bs ++ [0]) i = byteAt bs i := by
  unfold byteAt
  rw [List.getD_eq_getElem?_getD, List.getD_eq_getElem?_getD]
  rcases Nat.lt_trichotomy i bs.length with h | h | h
  · rw [List.getElem?_append_left h]
  · subst h; simp
  · rw [List.getElem?_eq_none (by simp; omega), List.getElem?_eq_none (by omega)]
theorem Text.push {us : List Nat} {j : Nat} {bs : List Int} (h : Text us j bs) : Text us j (bs ++ [0]) := by
  refine ⟨fun x hx => ?_, fun p => ?_⟩
  · rcases List.mem_append.1 hx with h1 | h1
    · exact h.bytes x h1
    · simp at h1; subst h1; omega
  · rw [← h.bits p]; unfold bitAt; rw [byteAt_push]
theorem div_bit (x i : Nat) : x / 2 ^ i % 2 = if x.testBit i then 1 else 0 := by
  rw [Nat.testBit_eq_decide_div_mod_eq]
  have : x / 2 ^ i % 2 < 2 := Nat.mod_lt _ (by decide)
  by_cases h : x / 2 ^ i % 2 = 1
  · simp [h]
  · simp [h]; omega
theorem byteAt_set (bs : List Int) (q : Nat) (y : Nat) (hq : q < bs.length) (i : Nat) : byteAt (bs.set q (y : Int)) i = if i = q then y else byteAt bs i := by
  unfold byteAt
  rw [List.getD_eq_getElem?_getD, List.getD_eq_getElem?_getD, List.getElem?_set]
  by_cases h : q = i
  · subst h; simp [hq]
  · rw [if_neg h, if_neg (fun e => h e.symm)]
theorem Text.put {us : List Nat} {j : Nat} {bs : List Int} (h : Text us j bs) (p x : Nat) (hp : p / 8 < bs.length) (hx : bs.getD (p / 8) 0 = (x : Int)) (he : ends us (j + 1) = p + 1) :
    Text us (j + 1) (bs.set (p / 8) ((x ||| 2 ^ (7 - p % 8) : Nat) : Int)) := by
  have hx2 : x < 256 := by
    have := h.bytes (bs.getD (p / 8) 0) (by rw [List.getD_eq_getElem?_getD, List.getElem?_eq_getElem hp]; exact List.getElem_mem hp)
    omega
  have hy : x ||| 2 ^ (7 - p % 8) < 256 := Nat.or_lt_two_pow (n := 8) (by omega) (Nat.pow_lt_pow_right (by decide) (by omega))
  refine ⟨fun z hz => ?_, fun t => ?_⟩
  · rcases List.mem_or_eq_of_mem_set hz with h1 | h1
    · exact h.bytes z h1
    · subst h1; omega
  · have hb : byteAt bs (p / 8) = x := by unfold byteAt; rw [hx]; rfl
    unfold bitAt
    rw [byteAt_set bs _ _ hp]
    have h0 := h.bits t
    unfold bitAt at h0
    unfold mark
    by_cases hq : t / 8 = p / 8
    · rw [if_pos hq, div_bit, Nat.testBit_or, Nat.testBit_two_pow]
      rw [hq, hb, div_bit] at h0
      by_cases hpt : t = p
      · subst hpt; simp [he]
      · have : ¬ (7 - p % 8 = 7 - t % 8) := by omega
        rw [if_neg (by omega : ¬ t + 1 = ends us (j + 1))]
        simp [this]
        rw [← h0]
    · rw [if_neg hq, if_neg (by omega : ¬ t + 1 = ends us (j + 1))]
      exact h0
theorem Text.done {us : List Nat} {bs : List Int} (h : Text us us.length bs) (hl : bs.length = (ends us us.length + 7) / 8) : Unaries bs us where
  fits := by unfold ends at hl; omega
  zero := fun j hj t ht => by
    rw [h.bits]
    refine mark_zero us _ _ fun i hi e => ?_
    unfold ends at e
    rcases Nat.lt_or_ge i j with hij | hij
    · have := sumTo_le (us.map (· + 1)) (i := i + 1) (j := j) (by omega); omega
    · have h1 := sumTo_le (us.map (· + 1)) (i := j + 1) (j := i + 1) (by omega)
      have h2 := ends_succ us j hj
      omega
  one := fun j hj => by
    rw [h.bits]
    exact mark_one us _ _ ⟨j, hj, ends_succ us j hj⟩
theorem text_nil (us : List Nat) : Text us 0 [] := ⟨by simp, fun p => by simp [bitAt, byteAt, mark]⟩
theorem or_one_byte (x i : Nat) (hx : x < 256) (hi : i ≤ 7) : Go.bits .or .u8 (x : Int) ((2 ^ i : Nat) : Int) = ((x ||| 2 ^ i : Nat) : Int) := by
  have h2 : 2 ^ i < 2 ^ 8 := Nat.pow_lt_pow_right (by decide) (by omega)
  obtain ⟨y, hy⟩ : ∃ y, 2 ^ i = y := ⟨_, rfl⟩
  rw [hy] at h2 ⊢
  have h3 : y < 256 := h2
  rw [u8_or _ _ (by omega) (by omega) (by omega) (by omega)]
  rfl
end Go.Proofs.YtfpeoadgbidahaaDoor.Walk
