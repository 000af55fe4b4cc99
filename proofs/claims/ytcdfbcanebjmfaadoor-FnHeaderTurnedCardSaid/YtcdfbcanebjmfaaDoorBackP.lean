/- A coded number is read back: the plain part. -/
import Derived.Test.YtcdfbcanebjmfaaDoorCod
import Derived.Test.YtcdfbcanebjmfaaDoorDecA
namespace Go.Proofs.YtcdfbcanebjmfaaDoor.Walk
set_option linter.unusedVariables false
set_option linter.unusedSimpArgs false
open Go Go.RowKit Go.Proofs.YtcdfbcanebjmfaaDoorW.PrintWords Go.Proofs.YtcdfbcanebjmfaaDoor.Num

theorem Cls.lt {c0 L m1 mx : Nat} (h : Cls c0 L m1 mx) : c0 < 255 := by cases h <;> omega
theorem tail_at (v : Nat) : ∀ m i, i < m → (tail v m).getD i 0 = ((128 + v / 64 ^ (m - 1 - i) % 64 : Nat) : Int)
  | 0, i, h => by omega
  | m + 1, 0, h => by simp [tail]
  | m + 1, i + 1, h => by
    rw [tail, List.getD_cons_succ, tail_at v m i (by omega), show m + 1 - 1 - (i + 1) = m - 1 - i by omega]
theorem coded_byte (v : Nat) (ts : List Int) (i : Nat) (h : i < more v) : byteAt (coded v ++ ts) (1 + i) = 128 + v / 64 ^ (more v - 1 - i) % 64 := by
  unfold byteAt coded
  rw [List.cons_append, Nat.add_comm 1 i, List.getD_cons_succ, List.getD_eq_getElem?_getD, List.getElem?_append_left (by rw [tail_len]; exact h), ← List.getD_eq_getElem?_getD, tail_at v _ i h]
  exact Int.toNat_natCast _
theorem coded_first (v : Nat) (ts : List Int) : byteAt (coded v ++ ts) 0 = first v (more v) := by
  unfold byteAt coded; simp
theorem vals_coded (v : Nat) (ts : List Int) : ∀ k, k ≤ more v → vals (coded v ++ ts) 1 (v / 64 ^ more v) k = v / 64 ^ (more v - k)
  | 0, _ => rfl
  | k + 1, h => by
    rw [vals, vals_coded v ts k (by omega), coded_byte v ts k (by omega)]
    have e : more v - k = (more v - (k + 1)) + 1 := by omega
    rw [e, Nat.pow_succ, ← Nat.div_div_eq_div_mul, show more v - 1 - k = more v - (k + 1) by omega]
    omega
theorem coded_cls (v : Nat) (hv : v < 68719476736) (h : 128 ≤ v) : ∃ mx, Cls (first v (more v)) (more v) (2 ^ (6 - more v)) mx ∧ mx < v ∧ first v (more v) % 2 ^ (6 - more v) = v / 64 ^ more v ∧ 1 ≤ more v := by
  have key : ∀ m lo mx, more v = m → m ≠ 0 → 65280 / 2 ^ (m + 1) % 256 = lo → lo % 2 ^ (6 - m) = 0 → v / 64 ^ m < 2 ^ (6 - m) → Cls (lo + v / 64 ^ m) m (2 ^ (6 - m)) mx → mx < v →
      ∃ mx, Cls (first v (more v)) (more v) (2 ^ (6 - more v)) mx ∧ mx < v ∧ first v (more v) % 2 ^ (6 - more v) = v / 64 ^ more v ∧ 1 ≤ more v := by
    intro m lo mx hm h0 hlo hmod hlt hc hmx
    have hf : first v m = lo + v / 64 ^ m := by unfold first; rw [if_neg h0, hlo]
    rw [hm, hf]
    refine ⟨mx, hc, hmx, ?_, by omega⟩
    rw [Nat.add_mod, hmod, Nat.zero_add, Nat.mod_mod, Nat.mod_eq_of_lt hlt]
  by_cases h2 : v < 2048
  · exact key 1 192 127 (by unfold more; rw [if_neg (by omega), if_pos h2]) (by decide) (by decide) (by decide) (by omega) (.one (by omega) (by omega)) (by omega)
  by_cases h3 : v < 65536
  · exact key 2 224 2047 (by unfold more; rw [if_neg (by omega), if_neg h2, if_pos h3]) (by decide) (by decide) (by decide) (by omega) (.two (by omega) (by omega)) (by omega)
  by_cases h4 : v < 2097152
  · exact key 3 240 65535 (by unfold more; rw [if_neg (by omega), if_neg h2, if_neg h3, if_pos h4]) (by decide) (by decide) (by decide) (by omega) (.three (by omega) (by omega)) (by omega)
  by_cases h5 : v < 67108864
  · exact key 4 248 2097151 (by unfold more; rw [if_neg (by omega), if_neg h2, if_neg h3, if_neg h4, if_pos h5]) (by decide) (by decide) (by decide) (by omega) (.four (by omega) (by omega)) (by omega)
  by_cases h6 : v < 2147483648
  · exact key 5 252 67108863 (by unfold more; rw [if_neg (by omega), if_neg h2, if_neg h3, if_neg h4, if_neg h5, if_pos h6]) (by decide) (by decide) (by decide) (by omega) (.five (by omega) (by omega)) (by omega)
  · exact key 6 254 2147483647 (by unfold more; rw [if_neg (by omega), if_neg h2, if_neg h3, if_neg h4, if_neg h5, if_neg h6]) (by decide) (by decide) (by decide) (by omega) (.six (by omega) (by omega)) (by omega)
theorem more_zero {v : Nat} (h : v < 128) : more v = 0 := by unfold more; rw [if_pos h]
/-- A coded number is read. -/
theorem good_coded (v : Nat) (hv : v < 68719476736) (ts : List Int) : GoodAt (coded v ++ ts) 0 v (more v + 1) := by
  refine ⟨by rw [List.length_append, coded_len]; omega, ?_⟩
  rw [coded_first]
  by_cases h : v < 128
  · have e : first v (more v) = v := by rw [more_zero h]; rfl
    exact .inl ⟨by rw [e]; exact h, e.symm, by rw [more_zero h]⟩
  · obtain ⟨mx, hc, hmx, hmod, h1⟩ := coded_cls v hv (by omega)
    have hvv : vals (coded v ++ ts) (0 + 1) (first v (more v) % 2 ^ (6 - more v)) (more v) = v := by
      rw [hmod, Nat.zero_add, vals_coded v ts _ (Nat.le_refl _), Nat.sub_self, Nat.pow_zero, Nat.div_one]
    refine .inr ⟨more v, _, mx, hc, ⟨by rw [List.length_append, coded_len]; omega, fun i hi => ?_⟩, by rw [hvv]; exact hmx, hvv.symm, rfl⟩
    rw [Nat.zero_add, coded_byte v ts i hi]
    omega
theorem first_ne (v : Nat) (hv : v < 68719476736) (ts : List Int) : byteAt (coded v ++ ts) 0 ≠ 255 := by
  rw [coded_first]
  by_cases h : v < 128
  · have e : first v (more v) = v := by rw [more_zero h]; rfl
    omega
  · obtain ⟨mx, hc, _⟩ := coded_cls v hv (by omega)
    have := hc.lt
    omega
theorem coded_bytes (v : Nat) (hv : v < 68719476736) : ∀ x ∈ coded v, 0 ≤ x ∧ x ≤ 255 := by
  intro x hx
  have ht : ∀ m, ∀ x ∈ tail v m, 0 ≤ x ∧ x ≤ 255 := fun m => by
    induction m with
    | zero => intro x hx; cases hx
    | succ m ih =>
      intro x hx
      rcases List.mem_cons.1 hx with rfl | h
      · omega
      · exact ih x h
  rcases List.mem_cons.1 hx with rfl | h
  · by_cases h : v < 128
    · have e : first v (more v) = v := by rw [more_zero h]; rfl
      omega
    · obtain ⟨mx, hc, _⟩ := coded_cls v hv (by omega)
      have := hc.lt
      omega
  · exact ht _ x h
end Go.Proofs.YtcdfbcanebjmfaaDoor.Walk
