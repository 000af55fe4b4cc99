/- spec.Apart: two rows as long as those given. -/
import Derived.Test.YtmcllndnjdemaaaGreatDoorPAp
import Derived.Test.YtmcllndnjdemaaaGreatDoorCh
namespace Go.Proofs.YtmcllndnjdemaaaGreatDoor.Walk
set_option linter.unusedVariables false
set_option linter.unusedSimpArgs false
open Go Go.RowKit Go.Proofs.YtmcllndnjdemaaaGreatDoorW.PrintWords Go.Proofs.YtmcllndnjdemaaaGreatDoorW.PrintLast Go.Proofs.YtmcllndnjdemaaaGreatDoorW.PrintMore Go.Proofs.YtmcllndnjdemaaaGreatDoor.Num Go.Proofs.YtmcllndnjdemaaaGreatDoor.Crc Go.Proofs.YtmcllndnjdemaaaGreatDoor.PFnEncode
def Sml (l : List Int) : Prop := ∀ x ∈ l, -1099511627776 ≤ x ∧ x ≤ 1099511627776
theorem Sml.snoc {l : List Int} {x : Int} (h : Sml l) (h1 : -1099511627776 ≤ x) (h2 : x ≤ 1099511627776) : Sml (l ++ [x]) := fun y hy => by
 rcases List.mem_append.1 hy with hy | hy
 ·exact h y hy
 ·rw [List.mem_singleton.1 hy]; exact ⟨h1, h2⟩
theorem rd_b {l : List Int} (h : ∀ x ∈ l, -16777216 ≤ x ∧ x ≤ 16777216) (i : Nat) : -16777216 ≤ rd l (i : Int) ∧ rd l (i : Int) ≤ 16777216 := by
 unfold rd
 rw [Int.toNat_natCast, List.getD_eq_getElem?_getD]
 rcases hi : l[i]? with _ | x
 ·simp
 ·exact h x (List.mem_of_getElem? hi)
theorem apart_l0 {a0 : Int} {l1 l2 : List Int} {n : Nat} (h1 : l1.length = n) (h2 : l2.length = n) (hn : n ≤ 1000) (hb1 : ∀ x ∈ l1, -16777216 ≤ x ∧ x ≤ 16777216) (hb2 : ∀ x ∈ l2, -16777216 ≤ x ∧ x ≤ 16777216) : ∀ (d i k : Nat) (xs ys : List Int), i + d = n → xs.length = i → ys.length = i → Sml xs → Sml ys →
  ∃ r1 r2, spec_Apart.l0 (k + 1 + d) a0 l1 l2 xs ys (n : Int) (i : Int) = some (r1, r2) ∧ r1.length = n ∧ r2.length = n ∧ Sml r1 ∧ Sml r2
 | 0, i, k, xs, ys, hi, hx, hy, sx, sy => by
  refine ⟨xs, ys, ?_, by omega, by omega, sx, sy⟩
  rw [Nat.add_zero, spec_Apart.l0, if_neg (by omega)]
 | d + 1, i, k, xs, ys, hi, hx, hy, sx, sy => by
  obtain ⟨a, ha⟩ : ∃ a, rd l1 (i : Int) = a := ⟨_, rfl⟩
  obtain ⟨b, hb⟩ : ∃ b, rd l2 (i : Int) = b := ⟨_, rfl⟩
  have ba := rd_b hb1 i
  have bb := rd_b hb2 i
  rw [ha] at ba
  rw [hb] at bb
  have E1 := Lib.hid (show wrap64 (a - b) = a - b by unfold wrap64; omega)
  have E2 := Lib.hid (show wrap64 (a + b) = a + b by unfold wrap64; omega)
  have E3 := Lib.hid (show wrap64 ((i : Int) + 1) = ((i + 1 : Nat) : Int) by unfold wrap64; omega)
  have step : ∀ u v : Int, -1099511627776 ≤ u → u ≤ 1099511627776 → -1099511627776 ≤ v → v ≤ 1099511627776 → ∃ r1 r2, spec_Apart.l0 (k + 1 + d) a0 l1 l2 (xs ++ [u]) (ys ++ [v]) (n : Int) ((i + 1 : Nat) : Int) = some (r1, r2) ∧ r1.length = n ∧ r2.length = n ∧ Sml r1 ∧ Sml r2 := fun u v u1 u2 v1 v2 =>
   apart_l0 h1 h2 hn hb1 hb2 d (i + 1) k (xs ++ [u]) (ys ++ [v]) (by omega) (by simp [hx]) (by simp [hy]) (sx.snoc u1 u2) (sy.snoc v1 v2)
  obtain ⟨K, hK⟩ : ∃ K, k + 1 + d = K := ⟨_, rfl⟩
  rw [hK] at step
  rw [← Nat.add_assoc, hK]
  have c1 : (i : Int) < (n : Int) := by omega
  have c2 : (0 : Int) ≤ (i : Int) := by omega
  have c3 : (i : Int) < (l1.length : Int) := by omega
  have c4 : (i : Int) < (l2.length : Int) := by omega
  have c5 : xs.length + 1 < 17592186044416 := by omega
  have c6 : ys.length + 1 < 17592186044416 := by omega
  clear h1 h2 hb1 hb2
  by_cases c8 : a0 = 8
  ·have e : spec_Apart.l0 (K + 1) a0 l1 l2 xs ys (n : Int) (i : Int) = spec_Apart.l0 K a0 l1 l2 (xs ++ [a]) (ys ++ [a - b]) (n : Int) ((i + 1 : Nat) : Int) := by
    simp only [spec_Apart.l0, if_pos c1, if_pos c2, if_pos c3, if_pos c4, if_pos c8, ha, hb, E1.out, E2.out, E3.out, Option.bind_some, List.length_singleton, if_pos c5, if_pos c6]
   rw [e]
   exact step _ _ (by omega) (by omega) (by omega) (by omega)
  ·by_cases c9 : a0 = 9
   ·have e : spec_Apart.l0 (K + 1) a0 l1 l2 xs ys (n : Int) (i : Int) = spec_Apart.l0 K a0 l1 l2 (xs ++ [a - b]) (ys ++ [b]) (n : Int) ((i + 1 : Nat) : Int) := by
     simp only [spec_Apart.l0, if_pos c1, if_pos c2, if_pos c3, if_pos c4, if_neg c8, if_pos c9, ha, hb, E1.out, E2.out, E3.out, Option.bind_some, List.length_singleton, if_pos c5, if_pos c6]
    rw [e]
    exact step _ _ (by omega) (by omega) (by omega) (by omega)
   ·have e : spec_Apart.l0 (K + 1) a0 l1 l2 xs ys (n : Int) (i : Int) = spec_Apart.l0 K a0 l1 l2 (xs ++ [(a + b) / 2]) (ys ++ [a - b]) (n : Int) ((i + 1 : Nat) : Int) := by
     simp only [spec_Apart.l0, if_pos c1, if_pos c2, if_pos c3, if_pos c4, if_neg c8, if_neg c9, ha, hb, E1.out, E2.out, E3.out, Option.bind_some, List.length_singleton, if_pos c5, if_pos c6]
    rw [e]
    exact step _ _ (by omega) (by omega) (by omega) (by omega)
theorem apart_call {a0 : Int} {A1 A2 : Option Addr} {n c1 c2 : Nat} {l1 l2 : List Int} {w : World} (h1 : ReadsInt w .i64 A1 n l1) (hc1 : n ≤ c1) (h2 : ReadsInt w .i64 A2 n l2) (hc2 : n ≤ c2) (hn : n ≤ 1000) (hb1 : ∀ x ∈ l1, -16777216 ≤ x ∧ x ≤ 16777216) (hb2 : ∀ x ∈ l2, -16777216 ≤ x ∧ x ≤ 16777216) :
  Calls Tryz.prog 26 #[.int .i64 a0, .slice A1 n c1, .slice A2 n c2] w fun e w' => ∃ u v r1 r2, e = .returned (.tuple #[u, v]) ∧ w'.ownsRow w.heap.size 3 1 u n (nums .i64 r1) ∧ w'.ownsRow w.heap.size 3 1 v n (nums .i64 r2) ∧ Sml r1 ∧ Sml r2 ∧ Below w.heap.size w w' := by
 have e1 := h1.1
 have e2 := h2.1
 obtain ⟨r1, r2, hf, k1, k2, s1, s2⟩ := apart_l0 (a0 := a0) e1 e2 hn hb1 hb2 n 0 0 [] [] (by omega) rfl rfl (by intro x hx; cases hx) (by intro x hx; cases hx)
 have hf2 : spec_Apart.f (0 + 1 + n) a0 l1 l2 = some (r1, r2) := by unfold spec_Apart.f; rw [e1]; exact hf
 have h := spec_Apart.calls (0 + 1 + n) a0 A1 c1 l1 A2 c2 l2 r1 r2 w (Kd.C_of_reads (h1 := fun _ => rfl) (readsInt_of.1 (by rw [e1]; exact h1))) (by rw [e1]; exact hc1) (Kd.C_of_reads (h1 := fun _ => rfl) (readsInt_of.1 (by rw [e2]; exact h2))) (by rw [e2]; exact hc2) hf2
 rw [e1, e2] at h
 refine h.mono fun e w' h => ?_
 obtain ⟨u, v, he, q1, q2, q3⟩ := h
 have o1 := Kd.own_of_R q1
 have o2 := Kd.own_of_R q2
 rw [k1] at o1
 rw [k2] at o2
 exact ⟨u, v, r1, r2, he, o1, o2, s1, s2, q3⟩
end Go.Proofs.YtmcllndnjdemaaaGreatDoor.Walk
