-- PRINTED BY print.sh 35421559b90ae4d0a3588c463048766b98c2df88dd9212a6774a882060cdf62d: not written by this session
import Derived.Test.YtjfibofjbofpbaaPFnCrc8x0
namespace Go.Proofs.Ytjfibofjbofpbaa.PFnCrc8
open Go.RowKit Go.Proofs.YtjfibofjbofpbaaW.PrintWords Go.Proofs.YtjfibofjbofpbaaW.PrintLast Go.Proofs.YtjfibofjbofpbaaW.PrintMore
attribute [local go_sem] max2_int min2_int max_two min_two max_three min_three max_four min_four   -- for this text's walks alone
set_option linter.unusedVariables false
set_option linter.unusedSimpArgs false

-- NOT PRINTED: function 27 (crc8_Update)

-- NOT PRINTED: function 28 (crc8_makeTable)

-- NOT PRINTED: function 24 (crc8_ChecksumATM)

-- NOT PRINTED: function 17 (impl_Crc8)

/-! ### spec_Crc: function 23 -/
mutual
def spec_Crc.l0 : Nat → Int → Int → Int → List Int → Int → Int → Option (Int)
  | 0, _, _, _, _, _, _ => none
  | k + 1, x1, x2, x7, x12, x13, x14 => if x14 < x13 then (if 0 ≤ x14 then (if x14 < (x12.length : Int) then (spec_Crc.l1 k x1 x2 x7 (rd x12 x14) 7 x12 x13 x14) else (none)) else (none)) else (some x7)
def spec_Crc.l1 : Nat → Int → Int → Int → Int → Int → List Int → Int → Int → Option (Int)
  | 0, _, _, _, _, _, _, _, _ => none
  | k + 1, x1, x2, x7, x9, x10, x12, x13, x14 => if x10 ≥ 0 then (if 0 ≤ (wrap64 (x1 - 1)) then (if 0 ≤ x10 then (if 0 ≤ x1 then (if (Go.bits .xor .i64 (Go.bits .and .i64 (shr .i64 x7 (wrap64 (x1 - 1))) 1) (Go.bits .and .i64 (shr .i64 (wrap64 (x9)) x10) 1)) = 1 then (spec_Crc.l1 k x1 x2 (Go.bits .xor .i64 (Go.bits .and .i64 (wrap64 (x7 * 2)) (wrap64 ((shl .i64 1 x1) - 1))) x2) x9 (wrap64 (x10 - 1)) x12 x13 x14) else (spec_Crc.l1 k x1 x2 (Go.bits .and .i64 (wrap64 (x7 * 2)) (wrap64 ((shl .i64 1 x1) - 1))) x9 (wrap64 (x10 - 1)) x12 x13 x14)) else (none)) else (none)) else (none)) else (spec_Crc.l0 k x1 x2 x7 x12 x13 (wrap64 (x14 + 1)))
end
def spec_Crc.f (k : Nat) (l0 : List Int) (a1 : Int) (a2 : Int) : Option (Int) := spec_Crc.l0 k a1 a2 0 l0 (l0.length : Int) 0
theorem spec_Crc.mono_l : ∀ k, (∀ y0 y1 y2 y3 y4 y5, LeO (spec_Crc.l0 k y0 y1 y2 y3 y4 y5) (spec_Crc.l0 (k + 1) y0 y1 y2 y3 y4 y5)) ∧ (∀ y0 y1 y2 y3 y4 y5 y6 y7, LeO (spec_Crc.l1 k y0 y1 y2 y3 y4 y5 y6 y7) (spec_Crc.l1 (k + 1) y0 y1 y2 y3 y4 y5 y6 y7))
  | 0 => ⟨fun _ _ _ _ _ _ r h => by simp [spec_Crc.l0] at h, fun _ _ _ _ _ _ _ _ r h => by simp [spec_Crc.l1] at h⟩
  | k + 1 => by
    obtain ⟨ih0, ih1⟩ := spec_Crc.mono_l k
    refine ⟨?_, ?_⟩
    · intro y0 y1 y2 y3 y4 y5
      unfold spec_Crc.l0
      repeat' first
      | (with_reducible exact ih0 _ _ _ _ _ _)
      | (with_reducible exact ih1 _ _ _ _ _ _ _ _)
      | (with_reducible exact LeO.refl _)
      | (with_reducible exact LeO.none _)
      | (with_reducible refine LeO.ite ?_ ?_)
      | (with_reducible refine LeO.bind ?_ (fun _ => ?_))
      | exact ih0 _ _ _ _ _ _
      | exact ih1 _ _ _ _ _ _ _ _
      | exact LeO.none _
      | refine LeO.ite ?_ ?_
      | refine LeO.bind ?_ (fun _ => ?_)
    · intro y0 y1 y2 y3 y4 y5 y6 y7
      unfold spec_Crc.l1
      repeat' first
      | (with_reducible exact ih0 _ _ _ _ _ _)
      | (with_reducible exact ih1 _ _ _ _ _ _ _ _)
      | (with_reducible exact LeO.refl _)
      | (with_reducible exact LeO.none _)
      | (with_reducible refine LeO.ite ?_ ?_)
      | (with_reducible refine LeO.bind ?_ (fun _ => ?_))
      | exact ih0 _ _ _ _ _ _
      | exact ih1 _ _ _ _ _ _ _ _
      | exact LeO.none _
      | refine LeO.ite ?_ ?_
      | refine LeO.bind ?_ (fun _ => ?_)
theorem spec_Crc.mono : ∀ a0 a1 a2 k, LeO (spec_Crc.f k a0 a1 a2) (spec_Crc.f (k + 1) a0 a1 a2) := by
  intro a0 a1 a2 k
  obtain ⟨ih0, ih1⟩ := spec_Crc.mono_l k
  unfold spec_Crc.f
  repeat' first
      | (with_reducible exact ih0 _ _ _ _ _ _)
      | (with_reducible exact ih1 _ _ _ _ _ _ _ _)
      | (with_reducible exact LeO.refl _)
      | (with_reducible exact LeO.none _)
      | (with_reducible refine LeO.ite ?_ ?_)
      | (with_reducible refine LeO.bind ?_ (fun _ => ?_))
      | exact ih0 _ _ _ _ _ _
      | exact ih1 _ _ _ _ _ _ _ _
      | exact LeO.none _
      | refine LeO.ite ?_ ?_
      | refine LeO.bind ?_ (fun _ => ?_)
set_option maxHeartbeats 8000000 in
set_option maxRecDepth 100000 in
theorem spec_Crc.calls (k : Nat) (A0 : Option Addr) (c0 : Nat) (l0 : List Int) (a1 : Int) (a2 : Int) (r : Int) (w : World) (hr0 : Kd.C (Kd.int .u8) w A0 l0.length l0) (hc0 : l0.length ≤ c0) (h : spec_Crc.f k l0 a1 a2 = some r) :
    Calls Try.prog 23 #[.slice A0 l0.length c0, .int .i64 a1, .int .i64 a2] w fun e w' => e = .returned (.int .i64 r) ∧ Drawn0 w w' := by
  have HR0 := Aside0.mk hr0
  have HC0 := Aside0.mk hc0
  clear hr0 hc0
  have H : (spec_Crc.l0 k a1 a2 0 l0 (l0.length : Int) 0) = some r := h
  clear h
  have H' := Aside0.mk H
  clear H
  go_enter Try.func23, Try.ntmps23
  go_wp2
  repeat (go_quiet (fail); try go_wp2)
  go_loopg [7, 14] k (fun kq v7 v14 w' => ∃ (x7_1 : Int) (x14_1 : Int), v7 = .int .i64 x7_1 ∧ v14 = .int .i64 x14_1 ∧ Aside0 (spec_Crc.l0 kq a1 a2 x7_1 l0 (l0.length : Int) x14_1 = some r) ∧ Aside0 (kq ≤ k) ∧ Drawn0 w w')
  case atStart => exact ⟨(0), (0), (by first | rfl | (simp; done) | (simp [*]; done)), (by first | rfl | (simp; done) | (simp [*]; done)), H', ⟨Nat.le_refl _⟩, by repeat (first | exact Drawn0.refl _ | apply Drawn0.step)⟩
  case round =>
    clear H'
    try clear c2
    try clear p2
    obtain ⟨x7_1, x14_1, rfl, rfl, HA, HK1, ⟨m1, rfl⟩⟩ := hrel
    cases gk with
    | zero => exact absurd HA.out (by simp [spec_Crc.l0])
    | succ k1 =>
      have H := HA.out
      clear HA
      simp only [spec_Crc.l0] at H
      by_cases c4 : x14_1 < (l0.length : Int)
      · rw [if_pos c4] at H
        have c4b0 : decide (x14_1 < (l0.length : Int)) = true := decide_eq_true c4
        clear c4
        by_cases c5 : 0 ≤ x14_1
        · rw [if_pos c5] at H
          have c5b0 : decide (0 ≤ x14_1) = true := decide_eq_true c5
          clear c5
          by_cases c6 : x14_1 < (l0.length : Int)
          · rw [if_pos c6] at H
            have c6b0 : decide (x14_1 < (l0.length : Int)) = true := decide_eq_true c6
            clear c6
            have H' := Aside0.mk H
            clear H
            have p101 : 0 ≤ (x14_1 : Int) := of_decide_eq_true (by first | (with_reducible assumption) | assumption)
            have q101 : x14_1 < (l0.length : Int) := of_decide_eq_true (by first | (with_reducible assumption) | assumption)
            obtain ⟨ad101, e101, hx101_0⟩ := Kd.at_int HR0.out x14_1 p101 q101
            cases e101
            replace p101 := eq_true p101
            replace q101 := eq_true q101
            go_wp2
            repeat (go_quiet (fail); try go_wp2)
            go_loopg [7, 10] k1 (fun kq v7 v10 w' => ∃ (x7_2 : Int) (x10_2 : Int), v7 = .int .i64 x7_2 ∧ v10 = .int .i64 x10_2 ∧ Aside0 (spec_Crc.l1 kq a1 a2 x7_2 (rd l0 x14_1) x10_2 l0 (l0.length : Int) x14_1 = some r) ∧ Aside0 (kq ≤ k1) ∧ Drawn0 w w')
            case atStart => exact ⟨(x7_1), (7), (by first | rfl | (simp; done) | (simp [*]; done)), (by first | rfl | (simp; done) | (simp [*]; done)), H', ⟨Nat.le_refl _⟩, by repeat (first | exact Drawn0.refl _ | apply Drawn0.step)⟩
            case round =>
              clear H'
              try clear p1
              try clear q1
              try clear hx1
              try clear c2
              try clear p2
              try clear c4
              try clear c4b0
              try clear c5
              try clear c5b0
              try clear c6
              try clear c6b0
              try clear hx101_0
              try clear p101
              try clear p2
              try clear q101
              obtain ⟨x7_2, x10_2, rfl, rfl, HA, HK2, ⟨m2, rfl⟩⟩ := hrel
              cases gk with
              | zero => exact absurd HA.out (by simp [spec_Crc.l1])
              | succ k2 =>
                have H := HA.out
                clear HA
                simp only [spec_Crc.l1] at H
                by_cases c7 : x10_2 ≥ 0
                · rw [if_pos c7] at H
                  have c7b0 : decide (0 ≤ x10_2) = true := decide_eq_true c7
                  clear c7
                  obtain ⟨ji8, hji8⟩ : ∃ j_ : Int, (wrap64 (a1 - 1)) = j_ := ⟨_, rfl⟩
                  replace H : (if 0 ≤ (ji8) then (if 0 ≤ x10_2 then (if 0 ≤ a1 then (if (Go.bits .xor .i64 (Go.bits .and .i64 (shr .i64 x7_2 (ji8)) 1) (Go.bits .and .i64 (shr .i64 (wrap64 ((rd l0 x14_1))) x10_2) 1)) = 1 then (spec_Crc.l1 k2 a1 a2 (Go.bits .xor .i64 (Go.bits .and .i64 (wrap64 (x7_2 * 2)) (wrap64 ((shl .i64 1 a1) - 1))) a2) (rd l0 x14_1) (wrap64 (x10_2 - 1)) l0 (l0.length : Int) x14_1) else (spec_Crc.l1 k2 a1 a2 (Go.bits .and .i64 (wrap64 (x7_2 * 2)) (wrap64 ((shl .i64 1 a1) - 1))) (rd l0 x14_1) (wrap64 (x10_2 - 1)) l0 (l0.length : Int) x14_1)) else (none)) else (none)) else (none)) = some r := by first | (rw [hji8] at H; exact H) | (simp only [hji8] at H ⊢; exact H)
                  have hji8w : (IntKind.i64.wrap (a1 - 1)) = ji8 := (i64_w _).trans hji8
                  by_cases c9 : 0 ≤ (ji8)
                  · rw [if_pos c9] at H
                    have c9b0 := eq_true c9
                    have c9b1 : decide (0 ≤ (ji8)) = true := decide_eq_true c9
                    clear c9
                    obtain ⟨ji10, hji10⟩ : ∃ j_ : Int, (shr .i64 x7_2 (ji8)) = j_ := ⟨_, rfl⟩
                    replace H : (if 0 ≤ x10_2 then (if 0 ≤ a1 then (if (Go.bits .xor .i64 (Go.bits .and .i64 (ji10) 1) (Go.bits .and .i64 (shr .i64 (wrap64 ((rd l0 x14_1))) x10_2) 1)) = 1 then (spec_Crc.l1 k2 a1 a2 (Go.bits .xor .i64 (Go.bits .and .i64 (wrap64 (x7_2 * 2)) (wrap64 ((shl .i64 1 a1) - 1))) a2) (rd l0 x14_1) (wrap64 (x10_2 - 1)) l0 (l0.length : Int) x14_1) else (spec_Crc.l1 k2 a1 a2 (Go.bits .and .i64 (wrap64 (x7_2 * 2)) (wrap64 ((shl .i64 1 a1) - 1))) (rd l0 x14_1) (wrap64 (x10_2 - 1)) l0 (l0.length : Int) x14_1)) else (none)) else (none)) = some r := by first | (rw [hji10] at H; exact H) | (simp only [hji10] at H ⊢; exact H)
                    have hji10_ : (x7_2 / 2 ^ min (ji8).toNat 64) = ji10 := hji10
                    have hji10z : (ji8) ≤ 64 → (x7_2 / 2 ^ (ji8).toNat) = ji10 := shr_small hji10
                    by_cases c11 : 0 ≤ x10_2
                    · rw [if_pos c11] at H
                      have c11b0 := eq_true c11
                      have c11b1 : decide (0 ≤ x10_2) = true := decide_eq_true c11
                      clear c11
                      obtain ⟨ji12, hji12⟩ : ∃ j_ : Int, (shr .i64 (wrap64 ((rd l0 x14_1))) x10_2) = j_ := ⟨_, rfl⟩
                      replace H : (if 0 ≤ a1 then (if (Go.bits .xor .i64 (Go.bits .and .i64 (ji10) 1) (Go.bits .and .i64 (ji12) 1)) = 1 then (spec_Crc.l1 k2 a1 a2 (Go.bits .xor .i64 (Go.bits .and .i64 (wrap64 (x7_2 * 2)) (wrap64 ((shl .i64 1 a1) - 1))) a2) (rd l0 x14_1) (wrap64 (x10_2 - 1)) l0 (l0.length : Int) x14_1) else (spec_Crc.l1 k2 a1 a2 (Go.bits .and .i64 (wrap64 (x7_2 * 2)) (wrap64 ((shl .i64 1 a1) - 1))) (rd l0 x14_1) (wrap64 (x10_2 - 1)) l0 (l0.length : Int) x14_1)) else (none)) = some r := by first | (rw [hji12] at H; exact H) | (simp only [hji12] at H ⊢; exact H)
                      have hji12_ : ((wrap64 ((rd l0 x14_1))) / 2 ^ min x10_2.toNat 64) = ji12 := hji12
                      have hji12z : x10_2 ≤ 64 → ((wrap64 ((rd l0 x14_1))) / 2 ^ x10_2.toNat) = ji12 := shr_small hji12
                      by_cases c13 : 0 ≤ a1
                      · rw [if_pos c13] at H
                        have c13b0 := eq_true c13
                        have c13b1 : decide (0 ≤ a1) = true := decide_eq_true c13
                        clear c13
                        obtain ⟨ji14, hji14⟩ : ∃ j_ : Int, (shl .i64 1 a1) = j_ := ⟨_, rfl⟩
                        replace H : (if (Go.bits .xor .i64 (Go.bits .and .i64 (ji10) 1) (Go.bits .and .i64 (ji12) 1)) = 1 then (spec_Crc.l1 k2 a1 a2 (Go.bits .xor .i64 (Go.bits .and .i64 (wrap64 (x7_2 * 2)) (wrap64 ((ji14) - 1))) a2) (rd l0 x14_1) (wrap64 (x10_2 - 1)) l0 (l0.length : Int) x14_1) else (spec_Crc.l1 k2 a1 a2 (Go.bits .and .i64 (wrap64 (x7_2 * 2)) (wrap64 ((ji14) - 1))) (rd l0 x14_1) (wrap64 (x10_2 - 1)) l0 (l0.length : Int) x14_1)) = some r := by first | (rw [hji14] at H; exact H) | (simp only [hji14] at H ⊢; exact H)
                        have hji14_ : (IntKind.i64.wrap (1 * 2 ^ min a1.toNat 64)) = ji14 := hji14
                        have hji14z : a1 ≤ 64 → (IntKind.i64.wrap (1 * 2 ^ a1.toNat)) = ji14 := shl_small hji14
                        have hji14u : (IntKind.i64.wrap (2 ^ min a1.toNat 64)) = ji14 := by have h_ := hji14_; rw [Int.one_mul] at h_; exact h_
                        have hji14v : a1 ≤ 64 → (IntKind.i64.wrap (2 ^ a1.toNat)) = ji14 := fun hle_ => by have h_ := hji14z hle_; rw [Int.one_mul] at h_; exact h_
                        have hji14y : (wrap64 (1 * 2 ^ min a1.toNat 64)) = ji14 := (i64_w _).symm.trans hji14_
                        have hji14x : a1 ≤ 64 → (wrap64 (1 * 2 ^ a1.toNat)) = ji14 := fun h_ => (i64_w _).symm.trans (hji14z h_)
                        by_cases c15 : (Go.bits .xor .i64 (Go.bits .and .i64 (ji10) 1) (Go.bits .and .i64 (ji12) 1)) = 1
                        · rw [if_pos c15] at H
                          have c15b0 : ((Go.bits .xor .i64 (Go.bits .and .i64 (ji10) 1) (Go.bits .and .i64 (ji12) 1)) == 1) = true := beq_iff_eq.mpr c15
                          have c15b1 : ((Go.bits .xor .i64 (Go.bits .and .i64 (ji10) 1) (Go.bits .and .i64 (ji12) 1)) != 1) = false := bne_eq_false_iff_eq.mpr c15
                          clear c15
                          have H' := Aside0.mk H
                          clear H
                          go_wp2
                          repeat (go_quiet (fail); try go_wp2)
                          go_roundg k2
                          case measure => have := HK1.out; have := HK2.out; omega
                          case rel => exact ⟨(Go.bits .xor .i64 (Go.bits .and .i64 (wrap64 (x7_2 * 2)) (wrap64 ((ji14) - 1))) a2), (wrap64 (x10_2 - 1)), (by first | rfl | (simp; done) | (simp only [← hji14] <;> (first | rfl | simp)) | (simp [*]; done)), (by first | rfl | (simp; done) | (simp [*]; done)), H', ⟨by have := HK1.out; have := HK2.out; omega⟩, by repeat (first | exact Drawn0.refl _ | apply Drawn0.step)⟩
                        · rw [if_neg c15] at H
                          have c15b0 : ((Go.bits .xor .i64 (Go.bits .and .i64 (ji10) 1) (Go.bits .and .i64 (ji12) 1)) == 1) = false := beq_eq_false_iff_ne.mpr c15
                          have c15b1 : ((Go.bits .xor .i64 (Go.bits .and .i64 (ji10) 1) (Go.bits .and .i64 (ji12) 1)) != 1) = true := bne_iff_ne.mpr c15
                          have H' := Aside0.mk H
                          clear H
                          go_wp2
                          repeat (go_quiet (fail); try go_wp2)
                          go_roundg k2
                          case measure => have := HK1.out; have := HK2.out; omega
                          case rel => exact ⟨(Go.bits .and .i64 (wrap64 (x7_2 * 2)) (wrap64 ((ji14) - 1))), (wrap64 (x10_2 - 1)), (by first | rfl | (simp; done) | (simp only [← hji14] <;> (first | rfl | simp)) | (simp [*]; done)), (by first | rfl | (simp; done) | (simp [*]; done)), H', ⟨by have := HK1.out; have := HK2.out; omega⟩, by repeat (first | exact Drawn0.refl _ | apply Drawn0.step)⟩
                      · rw [if_neg c13] at H
                        exact absurd H (by simp)
                    · rw [if_neg c11] at H
                      exact absurd H (by simp)
                  · rw [if_neg c9] at H
                    exact absurd H (by simp)
                · rw [if_neg c7] at H
                  have c7b0 : decide (0 ≤ x10_2) = false := decide_eq_false c7
                  clear c7
                  have H' := Aside0.mk H
                  clear H
                  go_wp2
                  repeat (go_quiet (fail); try go_wp2)
                  go_roundg k2
                  case measure => have := HK1.out; have := HK2.out; omega
                  case rel => exact ⟨(x7_2), (wrap64 (x14_1 + 1)), (by first | rfl | (simp; done) | (simp [*]; done)), (by first | rfl | (simp; done) | (simp [*]; done)), H', ⟨by have := HK1.out; have := HK2.out; omega⟩, by repeat (first | exact Drawn0.refl _ | apply Drawn0.step)⟩
          · rw [if_neg c6] at H
            exact absurd H (by simp)
        · rw [if_neg c5] at H
          exact absurd H (by simp)
      · rw [if_neg c4] at H
        have c4b0 : decide (x14_1 < (l0.length : Int)) = false := decide_eq_false c4
        clear c4
        obtain rfl := Option.some.inj H
        go_wp2
        repeat (go_quiet (fail); try go_wp2)
        go_ret
        exact ⟨by first | rfl | (simp; done) | (simp [*]; done), by repeat (first | exact Drawn0.refl _ | apply Drawn0.step)⟩

/-! ### spec_Crc8: function 18 -/
def spec_Crc8.f (k : Nat) (l0 : List Int) : Option (Int) := (spec_Crc.f k l0 8 7).bind fun t102 => (some t102)
theorem spec_Crc8.mono : ∀ a0 k, LeO (spec_Crc8.f k a0) (spec_Crc8.f (k + 1) a0) := by
  intro a0 k
  unfold spec_Crc8.f
  repeat' first
      | (with_reducible exact spec_Crc.mono _ _ _ _)
      | (with_reducible exact LeO.refl _)
      | (with_reducible exact LeO.none _)
      | (with_reducible refine LeO.ite ?_ ?_)
      | (with_reducible refine LeO.bind ?_ (fun _ => ?_))
      | exact spec_Crc.mono _ _ _ _
      | exact LeO.none _
      | refine LeO.ite ?_ ?_
      | refine LeO.bind ?_ (fun _ => ?_)
set_option maxHeartbeats 8000000 in
set_option maxRecDepth 100000 in
theorem spec_Crc8.calls (k : Nat) (A0 : Option Addr) (c0 : Nat) (l0 : List Int) (r : Int) (w : World) (hr0 : Kd.C (Kd.int .u8) w A0 l0.length l0) (hc0 : l0.length ≤ c0) (h : spec_Crc8.f k l0 = some r) :
    Calls Try.prog 18 #[.slice A0 l0.length c0] w fun e w' => e = .returned (.int .i64 r) ∧ Drawn0 w w' := by
  have HR0 := Aside0.mk hr0
  have HC0 := Aside0.mk hc0
  clear hr0 hc0
  have H : ((spec_Crc.f k l0 8 7).bind fun t102 => (some t102)) = some r := h
  clear h
  replace H := Option.bind_eq_some_iff.mp H
  obtain ⟨t102, A20, H⟩ := H
  replace H : (some t102) = some r := H
  have A2 := Aside0.mk A20
  clear A20
  obtain rfl := Option.some.inj H
  go_enter Try.func18, Try.ntmps18
  go_wp2_with (first | ((with_reducible refine gate_callee (f := 23) rfl ?_); refine goesL_ (some 4) rfl rfl Try.func23 (by kernel_rfl) rfl #[.slice A0 l0.length c0, .int .i64 8, .int .i64 7] rfl (by (try simp only [List.map_toArray, List.map_cons, List.map_nil]); first | done | rfl | (simp only [List.length_drop, List.length_take]; rfl)) ?_; (with_reducible refine (spec_Crc.calls k _ _ l0 8 7 t102 _ ?side1 ?side2 A2.out).mono ?_); (case side1 => repeat (first | exact HR0.out | (with_reducible refine Kd.C_alloc ?_ _) | (with_reducible refine Kd.C_drewN ?_ _) | (with_reducible refine Kd.C_drew ?_))); (case side2 => exact HC0.out); rintro e w' ⟨rfl, ⟨nd, rfl⟩⟩; refine ⟨_, rfl, ?_⟩))
  go_ret
  exact ⟨by first | rfl | (simp; done) | (simp [*]; done), by repeat (first | exact Drawn0.refl _ | apply Drawn0.step)⟩

-- NOT PRINTED: function 8 (laws_FnCrc8)

end Go.Proofs.Ytjfibofjbofpbaa.PFnCrc8
