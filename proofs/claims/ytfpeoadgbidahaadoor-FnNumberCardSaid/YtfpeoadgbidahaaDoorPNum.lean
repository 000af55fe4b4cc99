/- The contracts of spec.Number and spec.Coded, as print.sh printed them for FnNumber; three steps of the first mended (wip/pnum.py). -/
import Derived.Test.YtfpeoadgbidahaaDoorPFnNumberx0
namespace Go.Proofs.YtfpeoadgbidahaaDoor.PNum
open Go.Proofs.YtfpeoadgbidahaaDoor.PFnNumber Go.RowKit Go.Proofs.YtfpeoadgbidahaaDoorW.PrintWords Go.Proofs.YtfpeoadgbidahaaDoorW.PrintLast Go.Proofs.YtfpeoadgbidahaaDoorW.PrintMore
attribute [local go_sem] max2_int min2_int max_two min_two max_three min_three max_four min_four   -- for this text's walks alone
set_option linter.unusedVariables false
set_option linter.unusedSimpArgs false

/-! ### spec_Number: function 12 -/
mutual
def spec_Number.j1 : Nat → List Int → Int → Option (Int × Int)
  | 0, _, _ => none
  | k + 1, x0, x4 => if x4 = 0 then (if 0 < (x0.length : Int) then (some (IntKind.u64.wrap (rd x0 0), 1)) else (none)) else (if x4 = 1 then (some (0, 0)) else (if x4 = 8 then (some (0, 0)) else (if (x0.length : Int) < x4 then (some (0, 0)) else (if 0 < (x0.length : Int) then (if 0 ≤ (wrap64 (7 - x4)) then (if 1 ≤ x4 then (if x4 ≤ (x0.length : Int) then (spec_Number.l1 k x4 (Go.bits .and .u64 (IntKind.u64.wrap (rd x0 0)) (IntKind.u64.wrap ((shl .u64 1 (wrap64 (7 - x4))) - 1))) ((x0.take (x4 : Int).toNat).drop 1) (((x0.take (x4 : Int).toNat).drop 1).length : Int) 0) else (none)) else (none)) else (none)) else (none)))))
def spec_Number.l1 : Nat → Int → Int → List Int → Int → Int → Option (Int × Int)
  | 0, _, _, _, _, _ => none
  | k + 1, x4, x5, x56, x57, x58 => if x58 < x57 then (if 0 ≤ x58 then (if x58 < (x56.length : Int) then (if ((rd x56 x58) / 64) = 2 then (spec_Number.l1 k x4 (Go.bits .or .u64 (IntKind.u64.wrap (x5 * 64)) (IntKind.u64.wrap (Go.bits .and .u8 (rd x56 x58) 63))) x56 x57 (wrap64 (x58 + 1))) else (some (0, 0))) else (none)) else (none)) else (some (x5, x4))
def spec_Number.l0 : Nat → List Int → Int → Option (Int × Int)
  | 0, _, _ => none
  | k + 1, x0, x4 => if x4 < 8 then (if 0 < (x0.length : Int) then (if 0 ≤ (wrap64 (7 - x4)) then (if (Go.bits .and .u8 (shr .u8 (rd x0 0) (wrap64 (7 - x4))) 1) = 1 then (spec_Number.l0 k x0 (wrap64 (x4 + 1))) else (spec_Number.j1 k x0 x4)) else (none)) else (none)) else (spec_Number.j1 k x0 x4)
end
def spec_Number.f (k : Nat) (l0 : List Int) : Option (Int × Int) := if (l0.length : Int) = 0 then (some (0, 0)) else (spec_Number.l0 k l0 0)
theorem spec_Number.mono_l : ∀ k, (∀ y0 y1, LeO (spec_Number.j1 k y0 y1) (spec_Number.j1 (k + 1) y0 y1)) ∧ (∀ y0 y1 y2 y3 y4, LeO (spec_Number.l1 k y0 y1 y2 y3 y4) (spec_Number.l1 (k + 1) y0 y1 y2 y3 y4)) ∧ (∀ y0 y1, LeO (spec_Number.l0 k y0 y1) (spec_Number.l0 (k + 1) y0 y1))
  | 0 => ⟨fun _ _ r h => by simp [spec_Number.j1] at h, fun _ _ _ _ _ r h => by simp [spec_Number.l1] at h, fun _ _ r h => by simp [spec_Number.l0] at h⟩
  | k + 1 => by
    obtain ⟨ih0, ih1, ih2⟩ := spec_Number.mono_l k
    refine ⟨?_, ?_, ?_⟩
    · intro y0 y1
      unfold spec_Number.j1
      repeat' first
      | (with_reducible exact ih0 _ _)
      | (with_reducible exact ih1 _ _ _ _ _)
      | (with_reducible exact ih2 _ _)
      | (with_reducible exact LeO.refl _)
      | (with_reducible exact LeO.none _)
      | (with_reducible refine LeO.ite ?_ ?_)
      | (with_reducible refine LeO.bind ?_ (fun _ => ?_))
      | exact ih0 _ _
      | exact ih1 _ _ _ _ _
      | exact ih2 _ _
      | exact LeO.none _
      | refine LeO.ite ?_ ?_
      | refine LeO.bind ?_ (fun _ => ?_)
    · intro y0 y1 y2 y3 y4
      unfold spec_Number.l1
      repeat' first
      | (with_reducible exact ih0 _ _)
      | (with_reducible exact ih1 _ _ _ _ _)
      | (with_reducible exact ih2 _ _)
      | (with_reducible exact LeO.refl _)
      | (with_reducible exact LeO.none _)
      | (with_reducible refine LeO.ite ?_ ?_)
      | (with_reducible refine LeO.bind ?_ (fun _ => ?_))
      | exact ih0 _ _
      | exact ih1 _ _ _ _ _
      | exact ih2 _ _
      | exact LeO.none _
      | refine LeO.ite ?_ ?_
      | refine LeO.bind ?_ (fun _ => ?_)
    · intro y0 y1
      unfold spec_Number.l0
      repeat' first
      | (with_reducible exact ih0 _ _)
      | (with_reducible exact ih1 _ _ _ _ _)
      | (with_reducible exact ih2 _ _)
      | (with_reducible exact LeO.refl _)
      | (with_reducible exact LeO.none _)
      | (with_reducible refine LeO.ite ?_ ?_)
      | (with_reducible refine LeO.bind ?_ (fun _ => ?_))
      | exact ih0 _ _
      | exact ih1 _ _ _ _ _
      | exact ih2 _ _
      | exact LeO.none _
      | refine LeO.ite ?_ ?_
      | refine LeO.bind ?_ (fun _ => ?_)
theorem spec_Number.mono : ∀ a0 k, LeO (spec_Number.f k a0) (spec_Number.f (k + 1) a0) := by
  intro a0 k
  obtain ⟨ih0, ih1, ih2⟩ := spec_Number.mono_l k
  unfold spec_Number.f
  repeat' first
      | (with_reducible exact ih0 _ _)
      | (with_reducible exact ih1 _ _ _ _ _)
      | (with_reducible exact ih2 _ _)
      | (with_reducible exact LeO.refl _)
      | (with_reducible exact LeO.none _)
      | (with_reducible refine LeO.ite ?_ ?_)
      | (with_reducible refine LeO.bind ?_ (fun _ => ?_))
      | exact ih0 _ _
      | exact ih1 _ _ _ _ _
      | exact ih2 _ _
      | exact LeO.none _
      | refine LeO.ite ?_ ?_
      | refine LeO.bind ?_ (fun _ => ?_)
set_option maxHeartbeats 8000000 in
set_option maxRecDepth 100000 in
theorem spec_Number.calls (k : Nat) (A0 : Option Addr) (c0 : Nat) (l0 : List Int) (r1 : Int) (r2 : Int) (w : World) (hr0 : Kd.C (Kd.int .u8) w A0 l0.length l0) (hc0 : l0.length ≤ c0) (h : spec_Number.f k l0 = some (r1, r2)) :
    Calls Tryd.prog 12 #[.slice A0 l0.length c0] w fun e w' => e = .returned (.tuple #[.int .u64 r1, .int .i64 r2]) ∧ Drawn0 w w' := by
  have HR0 := Aside0.mk hr0
  have HC0 := Aside0.mk hc0
  clear hr0 hc0
  have H : (if (l0.length : Int) = 0 then (some (0, 0)) else (spec_Number.l0 k l0 0)) = some (r1, r2) := h
  clear h
  by_cases c2 : (l0.length : Int) = 0
  · rw [if_pos c2] at H
    have c2b0 : ((l0.length : Int) == 0) = true := beq_iff_eq.mpr c2
    have c2b1 : ((l0.length : Int) != 0) = false := bne_eq_false_iff_eq.mpr c2
    clear c2
    simp only [Option.some.injEq, Prod.mk.injEq] at H
    obtain ⟨rfl, rfl⟩ := H
    go_enter Tryd.func12, Tryd.ntmps12
    go_wp2
    repeat (go_quiet (fail); try go_wp2)
    go_ret2
    exact ⟨by first | rfl | (simp; done) | (simp [*]; done), by repeat (first | exact Drawn0.refl _ | apply Drawn0.step)⟩
  · rw [if_neg c2] at H
    have c2b0 : ((l0.length : Int) == 0) = false := beq_eq_false_iff_ne.mpr c2
    have c2b1 : ((l0.length : Int) != 0) = true := bne_iff_ne.mpr c2
    have c2b2 : ¬ (l0 = []) := fun h_ => c2 (by rw [h_]; rfl)
    have HC3 := Aside0.mk H
    clear H
    go_enter Tryd.func12, Tryd.ntmps12
    go_upto_block 0 with (fail)
    repeat (go_quiet (fail); go_upto_block 0 with (fail))
    go_cut [4] (fun v4 wc => ∃ (kq : Nat) (x4_2 : Int), v4 = .int .i64 x4_2 ∧ Aside0 (spec_Number.j1 kq l0 x4_2 = some (r1, r2)) ∧ Aside0 (kq ≤ k) ∧ Drawn0 w wc)
    case first =>
      have H := HC3.out
      clear HC3
      have H' := Aside0.mk H
      clear H
      go_wp2
      repeat (go_quiet (fail); try go_wp2)
      go_loopg [4] k (fun kq v4 w' => ∃ (x4_1 : Int), v4 = .int .i64 x4_1 ∧ Aside0 (spec_Number.l0 kq l0 x4_1 = some (r1, r2)) ∧ Aside0 (kq ≤ k) ∧ Drawn0 w w')
      case atStart => exact ⟨(0), (by first | rfl | (simp; done) | (simp [*]; done)), H', ⟨Nat.le_refl _⟩, by repeat (first | exact Drawn0.refl _ | apply Drawn0.step)⟩
      case round =>
        clear H'
        try clear c1
        try clear c2
        try clear c2b0
        try clear c2b1
        try clear c2b2
        try clear p2
        obtain ⟨x4_1, rfl, HA, HK1, ⟨m1, rfl⟩⟩ := hrel
        cases gk with
        | zero => exact absurd HA.out (by simp [spec_Number.l0])
        | succ k1 =>
          have H := HA.out
          clear HA
          simp only [spec_Number.l0] at H
          by_cases c4 : x4_1 < 8
          · rw [if_pos c4] at H
            have c4b0 : decide (x4_1 < 8) = true := decide_eq_true c4
            clear c4
            (first | rw [c4b0] | (simp only [i64_w, i32_w]; rw [c4b0]) | skip)
            by_cases c5 : 0 < (l0.length : Int)
            · rw [if_pos c5] at H
              have c5b0 : decide (0 < (l0.length : Int)) = true := decide_eq_true c5
              have c5b1 : decide (0 < l0.length) = true := decide_eq_true (by omega)
              clear c5
              obtain ⟨ji6, hji6⟩ : ∃ j_ : Int, (wrap64 (7 - x4_1)) = j_ := ⟨_, rfl⟩
              replace H : (if 0 ≤ (ji6) then (if (Go.bits .and .u8 (shr .u8 (rd l0 0) (ji6)) 1) = 1 then (spec_Number.l0 k1 l0 (wrap64 (x4_1 + 1))) else (spec_Number.j1 k1 l0 x4_1)) else (none)) = some (r1, r2) := by first | (rw [hji6] at H; exact H) | (simp only [hji6] at H ⊢; exact H)
              have hji6w : (IntKind.i64.wrap (7 - x4_1)) = ji6 := (i64_w _).trans hji6
              by_cases c7 : 0 ≤ (ji6)
              · rw [if_pos c7] at H
                have c7b0 := eq_true c7
                have c7b1 : decide (0 ≤ (ji6)) = true := decide_eq_true c7
                clear c7
                obtain ⟨ji8, hji8⟩ : ∃ j_ : Int, (shr .u8 (rd l0 0) (ji6)) = j_ := ⟨_, rfl⟩
                replace H : (if (Go.bits .and .u8 (ji8) 1) = 1 then (spec_Number.l0 k1 l0 (wrap64 (x4_1 + 1))) else (spec_Number.j1 k1 l0 x4_1)) = some (r1, r2) := by first | (rw [hji8] at H; exact H) | (simp only [hji8] at H ⊢; exact H)
                have hji8_ : ((rd l0 0) / 2 ^ min (ji6).toNat 8) = ji8 := hji8
                have hji8z : (ji6) ≤ 8 → ((rd l0 0) / 2 ^ (ji6).toNat) = ji8 := shr_small hji8
                by_cases c9 : (Go.bits .and .u8 (ji8) 1) = 1
                · rw [if_pos c9] at H
                  have c9b0 : ((Go.bits .and .u8 (ji8) 1) == 1) = true := beq_iff_eq.mpr c9
                  have c9b1 : ((Go.bits .and .u8 (ji8) 1) != 1) = false := bne_eq_false_iff_eq.mpr c9
                  clear c9
                  have H' := Aside0.mk H
                  clear H
                  have p101 : 0 ≤ (0 : Int) := (by omega)
                  have q101 : 0 < (l0.length : Int) := of_decide_eq_true (by first | (with_reducible assumption) | assumption)
                  obtain ⟨ad101, e101, hx101_0⟩ := Kd.at_int HR0.out 0 p101 q101
                  cases e101
                  have qi101 : (0 < l0.length) = True := eq_true (by omega)
                  (try rw [show ((0 : Int)).toNat = 0 from rfl] at hx101_0)
                  (try rw [Addr.add_zero'] at hx101_0)
                  replace p101 := eq_true p101
                  replace q101 := eq_true q101
                  go_wp2
                  repeat (go_quiet (fail); try go_wp2)
                  go_roundg k1
                  case measure => have := HK1.out; omega
                  case rel => exact ⟨(wrap64 (x4_1 + 1)), (by first | rfl | (simp; done) | (simp [*]; done)), H', ⟨by have := HK1.out; omega⟩, by repeat (first | exact Drawn0.refl _ | apply Drawn0.step)⟩
                · rw [if_neg c9] at H
                  have c9b0 : ((Go.bits .and .u8 (ji8) 1) == 1) = false := beq_eq_false_iff_ne.mpr c9
                  have c9b1 : ((Go.bits .and .u8 (ji8) 1) != 1) = true := bne_iff_ne.mpr c9
                  have H' := Aside0.mk H
                  clear H
                  have p101 : 0 ≤ (0 : Int) := (by omega)
                  have q101 : 0 < (l0.length : Int) := of_decide_eq_true (by first | (with_reducible assumption) | assumption)
                  obtain ⟨ad101, e101, hx101_0⟩ := Kd.at_int HR0.out 0 p101 q101
                  cases e101
                  have qi101 : (0 < l0.length) = True := eq_true (by omega)
                  (try rw [show ((0 : Int)).toNat = 0 from rfl] at hx101_0)
                  (try rw [Addr.add_zero'] at hx101_0)
                  replace p101 := eq_true p101
                  replace q101 := eq_true q101
                  go_wp2
                  repeat (go_quiet (fail); try go_wp2)
                  go_meet
                  case rel => exact ⟨_, (x4_1), (by first | rfl | (simp; done) | (simp [*]; done)), H', ⟨by have := HK1.out; first | omega | exact Nat.le_refl _⟩, by repeat (first | exact Drawn0.refl _ | apply Drawn0.step)⟩
              · rw [if_neg c7] at H
                exact absurd H (by simp)
            · rw [if_neg c5] at H
              exact absurd H (by simp)
          · rw [if_neg c4] at H
            have c4b0 : decide (x4_1 < 8) = false := decide_eq_false c4
            clear c4
            (first | rw [c4b0] | (simp only [i64_w, i32_w]; rw [c4b0]) | skip)
            have H' := Aside0.mk H
            clear H
            go_wp2
            repeat (go_quiet (fail); try go_wp2)
            go_meet
            case rel => exact ⟨_, (x4_1), (by first | rfl | (simp; done) | (simp [*]; done)), H', ⟨by have := HK1.out; first | omega | exact Nat.le_refl _⟩, by repeat (first | exact Drawn0.refl _ | apply Drawn0.step)⟩
    case rest =>
      clear HC3
      try clear c1
      try clear p1
      try clear q1
      try clear hx1
      try clear qi1
      try clear c2
      try clear c2b0
      try clear c2b1
      try clear c2b2
      try clear p2
      try clear c4
      try clear c4b0
      try clear c5
      try clear c5b0
      try clear c5b1
      try clear p6
      try clear c7
      try clear c7b0
      try clear c7b1
      try clear c9
      try clear c9b0
      try clear c9b1
      try clear hx101_0
      try clear p101
      try clear p2
      try clear q101
      obtain ⟨kq, x4_2, rfl, HA, HJ2, ⟨mc2, rfl⟩⟩ := hcut
      cases kq with
      | zero => exact absurd HA.out (by simp [spec_Number.j1])
      | succ kj2 =>
        have H := HA.out
        clear HA
        simp only [spec_Number.j1] at H
        by_cases c10 : x4_2 = 0
        · rw [if_pos c10] at H
          have c10b0 : (x4_2 == 0) = true := beq_iff_eq.mpr c10
          have c10b1 : (x4_2 != 0) = false := bne_eq_false_iff_eq.mpr c10
          clear c10
          by_cases c11 : 0 < (l0.length : Int)
          · rw [if_pos c11] at H
            have c11b0 : decide (0 < (l0.length : Int)) = true := decide_eq_true c11
            have c11b1 : decide (0 < l0.length) = true := decide_eq_true (by omega)
            clear c11
            simp only [Option.some.injEq, Prod.mk.injEq] at H
            obtain ⟨rfl, rfl⟩ := H
            have p102 : 0 ≤ (0 : Int) := (by omega)
            have q102 : 0 < (l0.length : Int) := of_decide_eq_true (by first | (with_reducible assumption) | assumption)
            obtain ⟨ad102, e102, hx102_0⟩ := Kd.at_int HR0.out 0 p102 q102
            cases e102
            have qi102 : (0 < l0.length) = True := eq_true (by omega)
            (try rw [show ((0 : Int)).toNat = 0 from rfl] at hx102_0)
            (try rw [Addr.add_zero'] at hx102_0)
            replace p102 := eq_true p102
            replace q102 := eq_true q102
            go_wp2
            repeat (go_quiet (fail); try go_wp2)
            go_ret2
            exact ⟨by first | rfl | (simp; done) | (simp [*]; done), by repeat (first | exact Drawn0.refl _ | apply Drawn0.step)⟩
          · rw [if_neg c11] at H
            exact absurd H (by simp)
        · rw [if_neg c10] at H
          have c10b0 : (x4_2 == 0) = false := beq_eq_false_iff_ne.mpr c10
          have c10b1 : (x4_2 != 0) = true := bne_iff_ne.mpr c10
          by_cases c12 : x4_2 = 1
          · rw [if_pos c12] at H
            have c12b0 : (x4_2 == 1) = true := beq_iff_eq.mpr c12
            have c12b1 : (x4_2 != 1) = false := bne_eq_false_iff_eq.mpr c12
            clear c12
            simp only [Option.some.injEq, Prod.mk.injEq] at H
            obtain ⟨rfl, rfl⟩ := H
            go_wp2
            repeat (go_quiet (fail); try go_wp2)
            go_ret2
            exact ⟨by first | rfl | (simp; done) | (simp [*]; done), by repeat (first | exact Drawn0.refl _ | apply Drawn0.step)⟩
          · rw [if_neg c12] at H
            have c12b0 : (x4_2 == 1) = false := beq_eq_false_iff_ne.mpr c12
            have c12b1 : (x4_2 != 1) = true := bne_iff_ne.mpr c12
            by_cases c13 : x4_2 = 8
            · rw [if_pos c13] at H
              have c13b0 : (x4_2 == 8) = true := beq_iff_eq.mpr c13
              have c13b1 : (x4_2 != 8) = false := bne_eq_false_iff_eq.mpr c13
              clear c13
              simp only [Option.some.injEq, Prod.mk.injEq] at H
              obtain ⟨rfl, rfl⟩ := H
              go_wp2
              repeat (go_quiet (fail); try go_wp2)
              go_ret2
              exact ⟨by first | rfl | (simp; done) | (simp [*]; done), by repeat (first | exact Drawn0.refl _ | apply Drawn0.step)⟩
            · rw [if_neg c13] at H
              have c13b0 : (x4_2 == 8) = false := beq_eq_false_iff_ne.mpr c13
              have c13b1 : (x4_2 != 8) = true := bne_iff_ne.mpr c13
              by_cases c14 : (l0.length : Int) < x4_2
              · rw [if_pos c14] at H
                have c14b0 : decide ((l0.length : Int) < x4_2) = true := decide_eq_true c14
                clear c14
                simp only [Option.some.injEq, Prod.mk.injEq] at H
                obtain ⟨rfl, rfl⟩ := H
                go_wp2
                repeat (go_quiet (fail); try go_wp2)
                go_ret2
                exact ⟨by first | rfl | (simp; done) | (simp [*]; done), by repeat (first | exact Drawn0.refl _ | apply Drawn0.step)⟩
              · rw [if_neg c14] at H
                have c14b0 : decide ((l0.length : Int) < x4_2) = false := decide_eq_false c14
                clear c14
                by_cases c15 : 0 < (l0.length : Int)
                · rw [if_pos c15] at H
                  have c15b0 : decide (0 < (l0.length : Int)) = true := decide_eq_true c15
                  have c15b1 : decide (0 < l0.length) = true := decide_eq_true (by omega)
                  clear c15
                  obtain ⟨ji16, hji16⟩ : ∃ j_ : Int, (wrap64 (7 - x4_2)) = j_ := ⟨_, rfl⟩
                  replace H : (if 0 ≤ (ji16) then (if 1 ≤ x4_2 then (if x4_2 ≤ (l0.length : Int) then (spec_Number.l1 kj2 x4_2 (Go.bits .and .u64 (IntKind.u64.wrap (rd l0 0)) (IntKind.u64.wrap ((shl .u64 1 (ji16)) - 1))) ((l0.take (x4_2 : Int).toNat).drop 1) (((l0.take (x4_2 : Int).toNat).drop 1).length : Int) 0) else (none)) else (none)) else (none)) = some (r1, r2) := by first | (rw [hji16] at H; exact H) | (simp only [hji16] at H ⊢; exact H)
                  have hji16w : (IntKind.i64.wrap (7 - x4_2)) = ji16 := (i64_w _).trans hji16
                  by_cases c17 : 0 ≤ (ji16)
                  · rw [if_pos c17] at H
                    have c17b0 := eq_true c17
                    have c17b1 : decide (0 ≤ (ji16)) = true := decide_eq_true c17
                    clear c17
                    obtain ⟨ji18, hji18⟩ : ∃ j_ : Int, (shl .u64 1 (ji16)) = j_ := ⟨_, rfl⟩
                    replace H : (if 1 ≤ x4_2 then (if x4_2 ≤ (l0.length : Int) then (spec_Number.l1 kj2 x4_2 (Go.bits .and .u64 (IntKind.u64.wrap (rd l0 0)) (IntKind.u64.wrap ((ji18) - 1))) ((l0.take (x4_2 : Int).toNat).drop 1) (((l0.take (x4_2 : Int).toNat).drop 1).length : Int) 0) else (none)) else (none)) = some (r1, r2) := by first | (rw [hji18] at H; exact H) | (simp only [hji18] at H ⊢; exact H)
                    have hji18_ : (IntKind.u64.wrap (1 * 2 ^ min (ji16).toNat 64)) = ji18 := hji18
                    have hji18z : (ji16) ≤ 64 → (IntKind.u64.wrap (1 * 2 ^ (ji16).toNat)) = ji18 := shl_small hji18
                    have hji18u : (IntKind.u64.wrap (2 ^ min (ji16).toNat 64)) = ji18 := by have h_ := hji18_; rw [Int.one_mul] at h_; exact h_
                    have hji18v : (ji16) ≤ 64 → (IntKind.u64.wrap (2 ^ (ji16).toNat)) = ji18 := fun hle_ => by have h_ := hji18z hle_; rw [Int.one_mul] at h_; exact h_
                    by_cases c19 : 1 ≤ x4_2
                    · rw [if_pos c19] at H
                      have c19b0 := eq_true c19
                      have c19b1 : decide (1 ≤ x4_2) = true := decide_eq_true c19
                      clear c19
                      by_cases c20 : x4_2 ≤ (l0.length : Int)
                      · rw [if_pos c20] at H
                        have c20b0 := eq_true c20
                        have c20b1 : decide (x4_2 ≤ (l0.length : Int)) = true := decide_eq_true c20
                        have C20 := Aside0.mk c20b1
                        clear c20
                        have H' := Aside0.mk H
                        clear H
                        have p103 : 0 ≤ (0 : Int) := (by omega)
                        have q103 : 0 < (l0.length : Int) := of_decide_eq_true (by first | (with_reducible assumption) | assumption)
                        obtain ⟨ad103, e103, hx103_0⟩ := Kd.at_int HR0.out 0 p103 q103
                        cases e103
                        have qi103 : (0 < l0.length) = True := eq_true (by omega)
                        (try rw [show ((0 : Int)).toNat = 0 from rfl] at hx103_0)
                        (try rw [Addr.add_zero'] at hx103_0)
                        replace p103 := eq_true p103
                        replace q103 := eq_true q103
                        obtain ⟨i021, hi021, _, hsz21, _⟩ := info_parts info5
                        obtain ⟨A21, hcut21, hA21, hC21⟩ := print_mid_of (P := Tryd.prog) (Value.int .u8) 0 22 5 .i64 .i64 Tryd.underlying22 hi021 hsz21 (some ad103) c0 l0 1 x4_2 (by omega) (by first | omega | exact of_decide_eq_true (by first | (with_reducible assumption) | assumption)) (of_decide_eq_true (by first | (with_reducible assumption) | assumption)) HC0.out
                        have HR104 := Aside0.mk (Kd.C_of_reads (h1 := fun _ => rfl) (hA21 _ (Kd.reads_of_C HR0.out)))
                        have HC104 := Aside0.mk hC21
                        clear hA21 hC21 hi021 hsz21
                        go_wp2
                        repeat (go_quiet (fail); try go_wp2)
                        go_loopg [5, 58] kj2 (fun kq v5 v58 w' => ∃ (x5_2 : Int) (x58_2 : Int), v5 = .int .u64 x5_2 ∧ v58 = .int .i64 x58_2 ∧ Aside0 (spec_Number.l1 kq x4_2 x5_2 ((l0.take (x4_2 : Int).toNat).drop 1) (((l0.take (x4_2 : Int).toNat).drop 1).length : Int) x58_2 = some (r1, r2)) ∧ Aside0 (kq ≤ kj2) ∧ Drawn0 w w')
                        case atStart => exact ⟨(Go.bits .and .u64 (IntKind.u64.wrap (rd l0 0)) (IntKind.u64.wrap ((ji18) - 1))), (0), (by first | rfl | (simp; done) | (simp only [← hji18] <;> (first | rfl | simp)) | (simp [*]; done)), (by first | rfl | (simp; done) | (simp [*]; done)), H', ⟨Nat.le_refl _⟩, by repeat (first | exact Drawn0.refl _ | apply Drawn0.step)⟩
                        case round =>
                          clear H'
                          try clear c1
                          try clear p1
                          try clear q1
                          try clear hx1
                          try clear qi1
                          try clear c2
                          try clear c2b0
                          try clear c2b1
                          try clear c2b2
                          try clear p2
                          try clear c4
                          try clear c4b0
                          try clear c5
                          try clear c5b0
                          try clear c5b1
                          try clear p6
                          try clear c7
                          try clear c7b0
                          try clear c7b1
                          try clear c9
                          try clear c9b0
                          try clear c9b1
                          try clear c10
                          try clear c10b0
                          try clear c10b1
                          try clear p10
                          try clear q10
                          try clear hx10
                          try clear qi10
                          try clear c11
                          try clear c11b0
                          try clear c11b1
                          try clear c12
                          try clear c12b0
                          try clear c12b1
                          try clear c13
                          try clear c13b0
                          try clear c13b1
                          try clear c14
                          try clear c14b0
                          try clear c15
                          try clear c15b0
                          try clear c15b1
                          try clear c17
                          try clear c17b0
                          try clear c17b1
                          try clear c19
                          try clear c19b0
                          try clear c19b1
                          try clear c20
                          try clear c20b0
                          try clear c20b1
                          try clear hx101_0
                          try clear hx102_0
                          try clear hx103_0
                          try clear p1
                          try clear p101
                          try clear p102
                          try clear p103
                          try clear p2
                          try clear p6
                          try clear q1
                          try clear q101
                          try clear q102
                          try clear q103
                          obtain ⟨x5_2, x58_2, rfl, rfl, HA, HK2, ⟨m2, rfl⟩⟩ := hrel
                          cases gk with
                          | zero => exact absurd HA.out (by simp [spec_Number.l1])
                          | succ k2 =>
                            have H := HA.out
                            clear HA
                            simp only [spec_Number.l1] at H
                            by_cases c22 : x58_2 < (((l0.take (x4_2 : Int).toNat).drop 1).length : Int)
                            · rw [if_pos c22] at H
                              have c22b0 : decide (x58_2 < (((l0.take (x4_2 : Int).toNat).drop 1).length : Int)) = true := decide_eq_true c22
                              have c22n : x58_2 < ((x4_2.toNat - 1 : Nat) : Int) := by have h := of_decide_eq_true c22b0; simp only [List.length_drop, List.length_take] at h; omega
                              clear c22
                              by_cases c23 : 0 ≤ x58_2
                              · rw [if_pos c23] at H
                                have c23b0 : decide (0 ≤ x58_2) = true := decide_eq_true c23
                                clear c23
                                by_cases c24 : x58_2 < (((l0.take (x4_2 : Int).toNat).drop 1).length : Int)
                                · rw [if_pos c24] at H
                                  have c24b0 : decide (x58_2 < (((l0.take (x4_2 : Int).toNat).drop 1).length : Int)) = true := decide_eq_true c24
                                  clear c24
                                  by_cases c25 : ((rd ((l0.take (x4_2 : Int).toNat).drop 1) x58_2) / 64) = 2
                                  · rw [if_pos c25] at H
                                    have c25b0 : (((rd ((l0.take (x4_2 : Int).toNat).drop 1) x58_2) / 64) == 2) = true := beq_iff_eq.mpr c25
                                    have c25b1 : (((rd ((l0.take (x4_2 : Int).toNat).drop 1) x58_2) / 64) != 2) = false := bne_eq_false_iff_eq.mpr c25
                                    have c25n : ((rd (List.take x4_2.toNat l0).tail x58_2 / 64) != 2) = false := by rw [← List.drop_one]; exact c25b1
                                    clear c25
                                    have H' := Aside0.mk H
                                    clear H
                                    have p105 : 0 ≤ (x58_2 : Int) := of_decide_eq_true (by first | (with_reducible assumption) | assumption)
                                    have q105 : x58_2 < (((l0.take (x4_2 : Int).toNat).drop 1).length : Int) := of_decide_eq_true (by first | (with_reducible assumption) | assumption)
                                    obtain ⟨ad105, e105, hx105_0⟩ := Kd.at_int HR104.out x58_2 p105 q105
                                    cases e105
                                    replace p105 := eq_true p105
                                    replace q105 := eq_true q105
                                    go_wp2
                                    repeat (go_quiet (fail); try go_wp2)
                                    go_roundg k2
                                    case measure => have := HJ2.out; have := HK2.out; omega
                                    case rel => exact ⟨(Go.bits .or .u64 (IntKind.u64.wrap (x5_2 * 64)) (IntKind.u64.wrap (Go.bits .and .u8 (rd ((l0.take (x4_2 : Int).toNat).drop 1) x58_2) 63))), (wrap64 (x58_2 + 1)), (by first | rfl | (simp; done) | (simp [*]; done)), (by first | rfl | (simp; done) | (simp [*]; done)), H', ⟨by have := HJ2.out; have := HK2.out; omega⟩, by repeat (first | exact Drawn0.refl _ | apply Drawn0.step)⟩
                                  · rw [if_neg c25] at H
                                    have c25b0 : (((rd ((l0.take (x4_2 : Int).toNat).drop 1) x58_2) / 64) == 2) = false := beq_eq_false_iff_ne.mpr c25
                                    have c25b1 : (((rd ((l0.take (x4_2 : Int).toNat).drop 1) x58_2) / 64) != 2) = true := bne_iff_ne.mpr c25
                                    have c25n : ((rd (List.take x4_2.toNat l0).tail x58_2 / 64) != 2) = true := by rw [← List.drop_one]; exact c25b1
                                    simp only [Option.some.injEq, Prod.mk.injEq] at H
                                    obtain ⟨rfl, rfl⟩ := H
                                    have p105 : 0 ≤ (x58_2 : Int) := of_decide_eq_true (by first | (with_reducible assumption) | assumption)
                                    have q105 : x58_2 < (((l0.take (x4_2 : Int).toNat).drop 1).length : Int) := of_decide_eq_true (by first | (with_reducible assumption) | assumption)
                                    obtain ⟨ad105, e105, hx105_0⟩ := Kd.at_int HR104.out x58_2 p105 q105
                                    cases e105
                                    replace p105 := eq_true p105
                                    replace q105 := eq_true q105
                                    go_wp2
                                    repeat (go_quiet (fail); try go_wp2)
                                    go_ret2
                                    exact ⟨by first | rfl | (simp; done) | (simp only [← hji16, ← hji18] <;> (first | rfl | simp)) | (simp [*]; done), by repeat (first | exact Drawn0.refl _ | apply Drawn0.step)⟩
                                · rw [if_neg c24] at H
                                  exact absurd H (by simp)
                              · rw [if_neg c23] at H
                                exact absurd H (by simp)
                            · rw [if_neg c22] at H
                              have c22b0 : decide (x58_2 < (((l0.take (x4_2 : Int).toNat).drop 1).length : Int)) = false := decide_eq_false c22
                              have c22n : ¬ x58_2 < ((x4_2.toNat - 1 : Nat) : Int) := by have h := of_decide_eq_false c22b0; have h2 := of_decide_eq_true C20.out; simp only [List.length_drop, List.length_take] at h; omega
                              clear c22
                              simp only [Option.some.injEq, Prod.mk.injEq] at H
                              obtain ⟨rfl, rfl⟩ := H
                              go_wp2
                              repeat (go_quiet (fail); try go_wp2)
                              go_ret2
                              exact ⟨by first | rfl | (simp; done) | (simp only [← hji16, ← hji18] <;> (first | rfl | simp)) | (simp [*]; done), by repeat (first | exact Drawn0.refl _ | apply Drawn0.step)⟩
                      · rw [if_neg c20] at H
                        exact absurd H (by simp)
                    · rw [if_neg c19] at H
                      exact absurd H (by simp)
                  · rw [if_neg c17] at H
                    exact absurd H (by simp)
                · rw [if_neg c15] at H
                  exact absurd H (by simp)

/-! ### spec_Coded: function 13 -/
mutual
def spec_Coded.l0 : Nat → Int → Int → Option (List Int)
  | 0, _, _ => none
  | k + 1, x0, x3 => if 0 ≤ (wrap64 ((wrap64 (5 * x3)) + 1)) then (if (shr .u64 x0 (wrap64 ((wrap64 (5 * x3)) + 1))) > 0 then (spec_Coded.l0 k x0 (wrap64 (x3 + 1))) else (spec_Coded.l1 k x0 x3 (([] : List Int)) (wrap64 (x3 - 1)) 0)) else (none)
def spec_Coded.l1 : Nat → Int → Int → List Int → Int → Int → Option (List Int)
  | 0, _, _, _, _, _ => none
  | k + 1, x0, x3, x4, x20, x21 => if x21 < x20 then ((some (([(Go.bits .or .u64 128 (Go.bits .and .u64 x0 63)) % 256] : List Int) : List Int)).bind fun y112 => (if y112.length + x4.length < 140737488355328 then (spec_Coded.l1 k (x0 / 64) x3 (y112 ++ x4) x20 (wrap64 (x21 + 1))) else (none))) else (if 0 ≤ x3 then ((some (([Go.bits .or .u8 ((Go.bits .and .u64 (shr .u64 65280 x3) 255) % 256) ((x0) % 256)] : List Int) : List Int)).bind fun y118 => (if y118.length + x4.length < 140737488355328 then (some (y118 ++ x4)) else (none))) else (none))
end
def spec_Coded.f (k : Nat) (a0 : Int) : Option (List Int) := if a0 < 128 then (some (([(a0) % 256] : List Int))) else (spec_Coded.l0 k a0 2)
theorem spec_Coded.mono_l : ∀ k, (∀ y0 y1, LeO (spec_Coded.l0 k y0 y1) (spec_Coded.l0 (k + 1) y0 y1)) ∧ (∀ y0 y1 y2 y3 y4, LeO (spec_Coded.l1 k y0 y1 y2 y3 y4) (spec_Coded.l1 (k + 1) y0 y1 y2 y3 y4))
  | 0 => ⟨fun _ _ r h => by simp [spec_Coded.l0] at h, fun _ _ _ _ _ r h => by simp [spec_Coded.l1] at h⟩
  | k + 1 => by
    obtain ⟨ih0, ih1⟩ := spec_Coded.mono_l k
    refine ⟨?_, ?_⟩
    · intro y0 y1
      unfold spec_Coded.l0
      repeat' first
      | (with_reducible exact ih0 _ _)
      | (with_reducible exact ih1 _ _ _ _ _)
      | (with_reducible exact LeO.refl _)
      | (with_reducible exact LeO.none _)
      | (with_reducible refine LeO.ite ?_ ?_)
      | (with_reducible refine LeO.bind ?_ (fun _ => ?_))
      | exact ih0 _ _
      | exact ih1 _ _ _ _ _
      | exact LeO.none _
      | refine LeO.ite ?_ ?_
      | refine LeO.bind ?_ (fun _ => ?_)
    · intro y0 y1 y2 y3 y4
      unfold spec_Coded.l1
      repeat' first
      | (with_reducible exact ih0 _ _)
      | (with_reducible exact ih1 _ _ _ _ _)
      | (with_reducible exact LeO.refl _)
      | (with_reducible exact LeO.none _)
      | (with_reducible refine LeO.ite ?_ ?_)
      | (with_reducible refine LeO.bind ?_ (fun _ => ?_))
      | exact ih0 _ _
      | exact ih1 _ _ _ _ _
      | exact LeO.none _
      | refine LeO.ite ?_ ?_
      | refine LeO.bind ?_ (fun _ => ?_)
theorem spec_Coded.mono : ∀ a0 k, LeO (spec_Coded.f k a0) (spec_Coded.f (k + 1) a0) := by
  intro a0 k
  obtain ⟨ih0, ih1⟩ := spec_Coded.mono_l k
  unfold spec_Coded.f
  repeat' first
      | (with_reducible exact ih0 _ _)
      | (with_reducible exact ih1 _ _ _ _ _)
      | (with_reducible exact LeO.refl _)
      | (with_reducible exact LeO.none _)
      | (with_reducible refine LeO.ite ?_ ?_)
      | (with_reducible refine LeO.bind ?_ (fun _ => ?_))
      | exact ih0 _ _
      | exact ih1 _ _ _ _ _
      | exact LeO.none _
      | refine LeO.ite ?_ ?_
      | refine LeO.bind ?_ (fun _ => ?_)
set_option maxHeartbeats 8000000 in
set_option maxRecDepth 100000 in
theorem spec_Coded.calls (k : Nat) (a0 : Int) (r : List Int) (w : World) (h : spec_Coded.f k a0 = some r) :
    Calls Tryd.prog 13 #[.int .u64 a0] w fun e w' => ∃ v0_ : Value, e = .returned (v0_) ∧ Kd.R (Kd.int .u8) 5 w' w.heap.size (fun _ => True) v0_ r ∧ Below w.heap.size w w' := by
  have HB := Aside0.mk (Below.refl w.heap.size w)
  have H : (if a0 < 128 then (some (([(a0) % 256] : List Int))) else (spec_Coded.l0 k a0 2)) = some r := h
  clear h
  by_cases c2 : a0 < 128
  · rw [if_pos c2] at H
    have c2b0 : decide (a0 < 128) = true := decide_eq_true c2
    clear c2
    obtain ⟨y106, hy106⟩ : ∃ y_ : List Int, y_ = (([(a0) % 256] : List Int)) := ⟨_, rfl⟩
    replace H : (some y106) = some r := by first | (rw [hy106]; with_reducible exact H) | (have H2_ := (Option.bind_some _ _).symm.trans H; rw [hy106]; with_reducible exact H2_) | (have H2_ := (Option.bind_some _ _).symm.trans H; with_reducible exact H2_) | with_reducible exact H | (rw [hy106]; exact H) | exact H
    have Ny106 := Aside0.mk hy106
    clear hy106
    obtain rfl := Option.some.inj H
    go_enter Tryd.func13, Tryd.ntmps13
    go_wp2_with (first | ((with_reducible refine gate_dst (N := 9) rfl ?_); refine Kd.R_lit (Kd.int .u8) _ 5 ?hg (N := 9) ?hd (xs := ([(a0) % 256] : List Int)) (inner := [.int .u8 ((a0) % 256)]) (ok := fun _ => True) (okp := fun _ => True) ?hr ?hp (fun _ hk => hk) trivial (Below.refl _ _) (Nat.le_refl _) (by simp) ?_; (case hd => rfl); (case hg => rfl); (case hr => first | (go_simp; done) | (go_simp; rfl)); (case hp => exact (Reps.one (show Kd.M (Kd.int .u8) _ _ _ ((a0) % 256) [.int .u8 ((a0) % 256)] from rfl) (Reps.none _ _))); intro v107 w3 ho4 hb hg_ hnew_; clear hg_ hnew_; (first | rw [← Ny106.out] at ho4 | (simp only [Int.reduceToNat] at ho4; rw [← Ny106.out] at ho4)); have n0_ := Aside0.mk (Kd.R_lower ho4 (below_size (by repeat (first | (with_reducible first | exact HB.out | apply below_alloc | apply pw_below_drewN | apply below_drew1) | exact HB.out)))); have n1_ := Aside0.mk (below_step (by repeat (first | (with_reducible first | exact HB.out | apply below_alloc | apply pw_below_drewN | apply below_drew1) | exact HB.out)) hb); clear HB; have HO108 := n0_; have HB := n1_; clear n0_ n1_; clear hb ho4))
    go_ret
    exact ⟨_, by first | rfl | (simp [errW_none, errW_some] <;> rfl) | (simp [*, errW_none, errW_some] <;> rfl), by (with_reducible repeat (first | apply Kd.R_alloc | apply Kd.R_drewN | apply Kd.R_drew)); exact HO108.out, by repeat (first | (with_reducible first | exact HB.out | apply below_alloc | apply pw_below_drewN | apply below_drew1) | exact HB.out)⟩
  · rw [if_neg c2] at H
    have c2b0 : decide (a0 < 128) = false := decide_eq_false c2
    clear c2
    have H' := Aside0.mk H
    clear H
    go_enter Tryd.func13, Tryd.ntmps13
    go_wp2
    go_loopg [3] k (fun kq v3 w' => ∃ (x3_1 : Int), v3 = .int .i64 x3_1 ∧ Aside0 (spec_Coded.l0 kq a0 x3_1 = some r) ∧ Aside0 (kq ≤ k) ∧ Aside0 (Below w.heap.size w w'))
    case atStart => exact ⟨(2), (by first | rfl | (simp; done) | (simp [*]; done)), H', ⟨Nat.le_refl _⟩, ⟨by repeat (first | (with_reducible first | exact HB.out | apply below_alloc | apply pw_below_drewN | apply below_drew1) | exact HB.out)⟩⟩
    case round =>
      clear H'
      try clear c1
      try clear c2
      try clear c2b0
      try clear p2
      obtain ⟨x3_1, rfl, HA, HK1, HB⟩ := hrel
      cases gk with
      | zero => exact absurd HA.out (by simp [spec_Coded.l0])
      | succ k1 =>
        have H := HA.out
        clear HA
        simp only [spec_Coded.l0] at H
        obtain ⟨ji5, hji5⟩ : ∃ j_ : Int, (wrap64 ((wrap64 (5 * x3_1)) + 1)) = j_ := ⟨_, rfl⟩
        replace H : (if 0 ≤ (ji5) then (if (shr .u64 a0 (ji5)) > 0 then (spec_Coded.l0 k1 a0 (wrap64 (x3_1 + 1))) else (spec_Coded.l1 k1 a0 x3_1 (([] : List Int)) (wrap64 (x3_1 - 1)) 0)) else (none)) = some r := by first | (rw [hji5] at H; exact H) | (simp only [hji5] at H ⊢; exact H)
        have hji5w : (IntKind.i64.wrap ((wrap64 (5 * x3_1)) + 1)) = ji5 := (i64_w _).trans hji5
        by_cases c6 : 0 ≤ (ji5)
        · rw [if_pos c6] at H
          have c6b0 := eq_true c6
          have c6b1 : decide (0 ≤ (ji5)) = true := decide_eq_true c6
          clear c6
          obtain ⟨ji7, hji7⟩ : ∃ j_ : Int, (shr .u64 a0 (ji5)) = j_ := ⟨_, rfl⟩
          replace H : (if (ji7) > 0 then (spec_Coded.l0 k1 a0 (wrap64 (x3_1 + 1))) else (spec_Coded.l1 k1 a0 x3_1 (([] : List Int)) (wrap64 (x3_1 - 1)) 0)) = some r := by first | (rw [hji7] at H; exact H) | (simp only [hji7] at H ⊢; exact H)
          have hji7_ : (a0 / 2 ^ min (ji5).toNat 64) = ji7 := hji7
          have hji7z : (ji5) ≤ 64 → (a0 / 2 ^ (ji5).toNat) = ji7 := shr_small hji7
          by_cases c8 : (ji7) > 0
          · rw [if_pos c8] at H
            have c8b0 : decide (0 < (ji7)) = true := decide_eq_true c8
            clear c8
            have H' := Aside0.mk H
            clear H
            go_wp2
            go_roundg k1
            case measure => have := HK1.out; omega
            case rel => exact ⟨(wrap64 (x3_1 + 1)), (by first | rfl | (simp; done) | (simp [*]; done)), H', ⟨by have := HK1.out; omega⟩, ⟨by repeat (first | (with_reducible first | exact HB.out | apply below_alloc | apply pw_below_drewN | apply below_drew1) | exact HB.out)⟩⟩
          · rw [if_neg c8] at H
            have c8b0 : decide (0 < (ji7)) = false := decide_eq_false c8
            clear c8
            obtain ⟨y109, hy109⟩ : ∃ y_ : List Int, y_ = (([] : List Int)) := ⟨_, rfl⟩
            replace H : (spec_Coded.l1 k1 a0 x3_1 y109 (wrap64 (x3_1 - 1)) 0) = some r := by first | (rw [hy109]; with_reducible exact H) | (have H2_ := (Option.bind_some _ _).symm.trans H; rw [hy109]; with_reducible exact H2_) | (have H2_ := (Option.bind_some _ _).symm.trans H; with_reducible exact H2_) | with_reducible exact H | (rw [hy109]; exact H) | exact H
            have Ny109 := Aside0.mk hy109
            clear hy109
            have H' := Aside0.mk H
            clear H
            go_wp2_with (first | ((with_reducible refine gate_dst (N := 18) rfl ?_); refine Kd.R_lit (Kd.int .u8) _ 5 ?hg (N := 18) ?hd (xs := ([] : List Int)) (inner := []) (ok := fun _ => True) (okp := fun _ => True) ?hr ?hp (fun _ hk => hk) trivial (Below.refl _ _) (Nat.le_refl _) (by simp) ?_; (case hd => rfl); (case hg => rfl); (case hr => first | (go_simp; done) | (go_simp; rfl)); (case hp => exact (Reps.none _ _)); intro v110 w9 ho10 hb hg_ hnew_; clear hg_ hnew_; (first | rw [← Ny109.out] at ho10 | (simp only [Int.reduceToNat] at ho10; rw [← Ny109.out] at ho10)); have n0_ := Aside0.mk (Kd.R_lower ho10 (below_size (by repeat (first | (with_reducible first | exact HB.out | apply below_alloc | apply pw_below_drewN | apply below_drew1) | exact HB.out)))); have n1_ := Aside0.mk (below_step (by repeat (first | (with_reducible first | exact HB.out | apply below_alloc | apply pw_below_drewN | apply below_drew1) | exact HB.out)) hb); clear HB; have HO111 := n0_; have HB := n1_; clear n0_ n1_; clear hb ho10))
            go_loopg [0, 4, 21] k1 (fun kq v0 v4 v21 w' => ∃ (x0_2 : Int) (x4_2 : List Int) (x21_2 : Int), v0 = .int .u64 x0_2 ∧ v21 = .int .i64 x21_2 ∧ Aside0 (spec_Coded.l1 kq x0_2 x3_1 x4_2 (wrap64 (x3_1 - 1)) x21_2 = some r) ∧ Aside0 (kq ≤ k1) ∧ Aside0 (Kd.R (Kd.int .u8) 5 w' w.heap.size (fun _ => True) v4 x4_2) ∧ Aside0 (Below w.heap.size w w'))
            case atStart => exact ⟨(a0), (y109), (0), (by first | rfl | (simp; done) | (simp [*]; done)), (by first | rfl | (simp; done) | (simp [*]; done)), H', ⟨Nat.le_refl _⟩, ⟨by (with_reducible repeat (first | apply Kd.R_alloc | apply Kd.R_drewN | apply Kd.R_drew)); exact HO111.out⟩, ⟨by repeat (first | (with_reducible first | exact HB.out | apply below_alloc | apply pw_below_drewN | apply below_drew1) | exact HB.out)⟩⟩
            case round =>
              clear H'
              try clear c1
              try clear c2
              try clear c2b0
              try clear p2
              try clear c6
              try clear c6b0
              try clear c6b1
              try clear p6
              try clear c8
              try clear c8b0
              try clear p2
              obtain ⟨x0_2, x4_2, x21_2, rfl, rfl, HA, HK2, HO_4, HB⟩ := hrel
              cases gk with
              | zero => exact absurd HA.out (by simp [spec_Coded.l1])
              | succ k2 =>
                have H := HA.out
                clear HA
                simp only [spec_Coded.l1] at H
                by_cases c11 : x21_2 < (wrap64 (x3_1 - 1))
                · rw [if_pos c11] at H
                  have c11b0 : decide (x21_2 < (wrap64 (x3_1 - 1))) = true := decide_eq_true c11
                  clear c11
                  obtain ⟨y112, hy112⟩ : ∃ y_ : List Int, y_ = (([(Go.bits .or .u64 128 (Go.bits .and .u64 x0_2 63)) % 256] : List Int)) := ⟨_, rfl⟩
                  replace H : (if y112.length + x4_2.length < 140737488355328 then (spec_Coded.l1 k2 (x0_2 / 64) x3_1 (y112 ++ x4_2) (wrap64 (x3_1 - 1)) (wrap64 (x21_2 + 1))) else (none)) = some r := by first | (rw [hy112]; with_reducible exact H) | (have H2_ := (Option.bind_some _ _).symm.trans H; rw [hy112]; with_reducible exact H2_) | (have H2_ := (Option.bind_some _ _).symm.trans H; with_reducible exact H2_) | with_reducible exact H | (rw [hy112]; exact H) | exact H
                  have Ny112 := Aside0.mk hy112
                  clear hy112
                  by_cases c12 : y112.length + x4_2.length < 140737488355328
                  · rw [if_pos c12] at H
                    have LMc12 := Aside0.mk c12
                    clear c12
                    obtain ⟨y115, hy115⟩ : ∃ y_ : List Int, y_ = (y112 ++ x4_2) := ⟨_, rfl⟩
                    replace H : (spec_Coded.l1 k2 (x0_2 / 64) x3_1 y115 (wrap64 (x3_1 - 1)) (wrap64 (x21_2 + 1))) = some r := by first | (rw [hy115]; with_reducible exact H) | (have H2_ := (Option.bind_some _ _).symm.trans H; rw [hy115]; with_reducible exact H2_) | (have H2_ := (Option.bind_some _ _).symm.trans H; with_reducible exact H2_) | with_reducible exact H | (rw [hy115]; exact H) | exact H
                    have Ny115 := Aside0.mk hy115
                    clear hy115
                    have H' := Aside0.mk H
                    clear H
                    go_wp2_with (first | ((with_reducible refine gate_dst (N := 27) rfl ?_); refine Kd.R_lit (Kd.int .u8) _ 5 ?hg (N := 27) ?hd (xs := ([(Go.bits .or .u64 128 (Go.bits .and .u64 x0_2 63)) % 256] : List Int)) (inner := [.int .u8 ((Go.bits .or .u64 128 (Go.bits .and .u64 x0_2 63)) % 256)]) (ok := fun _ => True) (okp := fun _ => True) ?hr ?hp (fun _ hk => hk) trivial (Below.refl _ _) (Nat.le_refl _) (by simp) ?_; (case hd => rfl); (case hg => rfl); (case hr => first | (go_simp; done) | (go_simp; rfl)); (case hp => exact (Reps.one (show Kd.M (Kd.int .u8) _ _ _ ((Go.bits .or .u64 128 (Go.bits .and .u64 x0_2 63)) % 256) [.int .u8 ((Go.bits .or .u64 128 (Go.bits .and .u64 x0_2 63)) % 256)] from rfl) (Reps.none _ _))); intro v113 w13 ho14 hb hg_ hnew_; clear hg_ hnew_; (first | rw [← Ny112.out] at ho14 | (simp only [Int.reduceToNat] at ho14; rw [← Ny112.out] at ho14)); have n0_ := Aside0.mk (Kd.R_elder' (by (with_reducible repeat (first | apply Kd.R_alloc | apply Kd.R_drewN | apply Kd.R_drew)); exact HO_4.out) (Kd.R_base ho14) hb); have n1_ := Aside0.mk (Kd.R_lower (Kd.R_new' ho14 (Kd.R_lt (by (with_reducible repeat (first | apply Kd.R_alloc | apply Kd.R_drewN | apply Kd.R_drew)); exact HO_4.out))) (below_size (by repeat (first | (with_reducible first | exact HB.out | apply below_alloc | apply pw_below_drewN | apply below_drew1) | exact HB.out)))); have n2_ := Aside0.mk (below_step (by repeat (first | (with_reducible first | exact HB.out | apply below_alloc | apply pw_below_drewN | apply below_drew1) | exact HB.out)) hb); clear HO_4; clear HB; have HO_4 := n0_; have HO114 := n1_; have HB := n2_; clear n0_ n1_ n2_; clear hb ho14; obtain ⟨Ao16, co16, eo16⟩ := Kd.R_slice HO_4.out; subst eo16) | ((with_reducible refine gate_builtin (b := .append) (xs := #[.tmp 27, .tmp 28]) rfl ?_); at_builtin; refine Kd.R_append_rows (Kd.int .u8) (w0 := w) w.heap.size rfl (.tmp 27) (.tmp 28) 22 5 (.int .u8 0) 1 rfl Tryd.underlying22 info5 rfl (by decide) (by omega) v113 y112 x4_2 _ _ _ (fun k_ => some k_ ≠ (.slice Ao16 x4_2.length co16 : Value).ownBlock) (fun _ => False) rfl rfl ?aO ?aR (fun _ _ h => h) (fun _ h => h.elim) ?aF ?aB ?aS ?aL ?_; (case aR => repeat (first | exact (Kd.R_reads' HO_4.out).2.2 | (with_reducible refine Kd.C_alloc ?_ _) | (with_reducible refine Kd.C_drewN ?_ _) | (with_reducible refine Kd.C_drew ?_))); (case aB => exact (by repeat (first | (with_reducible first | exact HB.out | apply below_alloc | apply pw_below_drewN | apply below_drew1) | exact HB.out))); (case aF => exact (fun k_ hk => Kd.fresh' (Kd.R_lt (by (with_reducible repeat (first | apply Kd.R_alloc | apply Kd.R_drewN | apply Kd.R_drew)); exact HO_4.out)) k_ hk)); (case aO => exact (by (with_reducible repeat (first | apply Kd.R_alloc | apply Kd.R_drewN | apply Kd.R_drew)); exact Kd.R_mono HO114.out (fun _ hk => hk.2))); (case aS => exact (below_size (by repeat (first | (with_reducible first | exact HB.out | apply below_alloc | apply pw_below_drewN | apply below_drew1) | exact HB.out)))); (case aL => have := LMc12.out; omega); intro v116 w15 ho hb hg hat; rw [← Ny115.out] at ho; have n0_ := Aside0.mk (Kd.R_after (ok := (fun _ => True)) (by (with_reducible repeat (first | apply Kd.R_alloc | apply Kd.R_drewN | apply Kd.R_drew)); exact HO_4.out) hg hat); have n1_ := Aside0.mk (hb); have n2_ := Aside0.mk (ho); clear HO_4; clear HB; clear HO114; have HO_4 := n0_; have HB := n1_; have HO117 := n2_; clear n0_ n1_ n2_; clear ho hb hg hat))
                    go_roundg k2
                    case measure => have := HK1.out; have := HK2.out; omega
                    case rel => exact ⟨(x0_2 / 64), (y115), (wrap64 (x21_2 + 1)), (by first | rfl | (simp; done) | (simp [*]; done)), (by first | rfl | (simp; done) | (simp [*]; done)), H', ⟨by have := HK1.out; have := HK2.out; omega⟩, ⟨by (with_reducible repeat (first | apply Kd.R_alloc | apply Kd.R_drewN | apply Kd.R_drew)); exact Kd.R_mono HO117.out (fun _ hk => trivial)⟩, ⟨by repeat (first | (with_reducible first | exact HB.out | apply below_alloc | apply pw_below_drewN | apply below_drew1) | exact HB.out)⟩⟩
                  · rw [if_neg c12] at H
                    exact absurd H (by simp)
                · rw [if_neg c11] at H
                  have c11b0 : decide (x21_2 < (wrap64 (x3_1 - 1))) = false := decide_eq_false c11
                  clear c11
                  by_cases c17 : 0 ≤ x3_1
                  · rw [if_pos c17] at H
                    have c17b0 := eq_true c17
                    have c17b1 : decide (0 ≤ x3_1) = true := decide_eq_true c17
                    clear c17
                    obtain ⟨ji18, hji18⟩ : ∃ j_ : Int, (shr .u64 65280 x3_1) = j_ := ⟨_, rfl⟩
                    replace H : ((some (([Go.bits .or .u8 ((Go.bits .and .u64 (ji18) 255) % 256) ((x0_2) % 256)] : List Int) : List Int)).bind fun y118 => (if y118.length + x4_2.length < 140737488355328 then (some (y118 ++ x4_2)) else (none))) = some r := by first | (rw [hji18] at H; exact H) | (simp only [hji18] at H ⊢; exact H)
                    have hji18_ : (65280 / 2 ^ min x3_1.toNat 64) = ji18 := hji18
                    have hji18z : x3_1 ≤ 64 → (65280 / 2 ^ x3_1.toNat) = ji18 := shr_small hji18
                    obtain ⟨y118, hy118⟩ : ∃ y_ : List Int, y_ = (([Go.bits .or .u8 ((Go.bits .and .u64 (ji18) 255) % 256) ((x0_2) % 256)] : List Int)) := ⟨_, rfl⟩
                    replace H : (if y118.length + x4_2.length < 140737488355328 then (some (y118 ++ x4_2)) else (none)) = some r := by first | (rw [hy118]; with_reducible exact H) | (have H2_ := (Option.bind_some _ _).symm.trans H; rw [hy118]; with_reducible exact H2_) | (have H2_ := (Option.bind_some _ _).symm.trans H; with_reducible exact H2_) | with_reducible exact H | (rw [hy118]; exact H) | exact H
                    have Ny118 := Aside0.mk hy118
                    clear hy118
                    by_cases c19 : y118.length + x4_2.length < 140737488355328
                    · rw [if_pos c19] at H
                      have LMc19 := Aside0.mk c19
                      clear c19
                      obtain ⟨y121, hy121⟩ : ∃ y_ : List Int, y_ = (y118 ++ x4_2) := ⟨_, rfl⟩
                      replace H : (some y121) = some r := by first | (rw [hy121]; with_reducible exact H) | (have H2_ := (Option.bind_some _ _).symm.trans H; rw [hy121]; with_reducible exact H2_) | (have H2_ := (Option.bind_some _ _).symm.trans H; with_reducible exact H2_) | with_reducible exact H | (rw [hy121]; exact H) | exact H
                      have Ny121 := Aside0.mk hy121
                      clear hy121
                      obtain rfl := Option.some.inj H
                      go_wp2_with (first | ((with_reducible refine gate_dst (N := 40) rfl ?_); refine Kd.R_lit (Kd.int .u8) _ 5 ?hg (N := 40) ?hd (xs := ([Go.bits .or .u8 ((Go.bits .and .u64 (ji18) 255) % 256) ((x0_2) % 256)] : List Int)) (inner := [.int .u8 (Go.bits .or .u8 ((Go.bits .and .u64 (ji18) 255) % 256) ((x0_2) % 256))]) (ok := fun _ => True) (okp := fun _ => True) ?hr ?hp (fun _ hk => hk) trivial (Below.refl _ _) (Nat.le_refl _) (by simp) ?_; (case hd => rfl); (case hg => rfl); (case hr => first | (go_simp; done) | (go_simp; rfl)); (case hp => exact (Reps.one (show Kd.M (Kd.int .u8) _ _ _ (Go.bits .or .u8 ((Go.bits .and .u64 (ji18) 255) % 256) ((x0_2) % 256)) [.int .u8 (Go.bits .or .u8 ((Go.bits .and .u64 (ji18) 255) % 256) ((x0_2) % 256))] from rfl) (Reps.none _ _))); intro v119 w20 ho21 hb hg_ hnew_; clear hg_ hnew_; (first | rw [← Ny118.out] at ho21 | (simp only [Int.reduceToNat] at ho21; rw [← Ny118.out] at ho21)); have n0_ := Aside0.mk (Kd.R_elder' (by (with_reducible repeat (first | apply Kd.R_alloc | apply Kd.R_drewN | apply Kd.R_drew)); exact HO_4.out) (Kd.R_base ho21) hb); have n1_ := Aside0.mk (Kd.R_lower (Kd.R_new' ho21 (Kd.R_lt (by (with_reducible repeat (first | apply Kd.R_alloc | apply Kd.R_drewN | apply Kd.R_drew)); exact HO_4.out))) (below_size (by repeat (first | (with_reducible first | exact HB.out | apply below_alloc | apply pw_below_drewN | apply below_drew1) | exact HB.out)))); have n2_ := Aside0.mk (below_step (by repeat (first | (with_reducible first | exact HB.out | apply below_alloc | apply pw_below_drewN | apply below_drew1) | exact HB.out)) hb); clear HO_4; clear HB; have HO_4 := n0_; have HO120 := n1_; have HB := n2_; clear n0_ n1_ n2_; clear hb ho21; obtain ⟨Ao23, co23, eo23⟩ := Kd.R_slice HO_4.out; subst eo23) | ((with_reducible refine gate_builtin (b := .append) (xs := #[.tmp 40, .tmp 41]) rfl ?_); at_builtin; refine Kd.R_append_rows (Kd.int .u8) (w0 := w) w.heap.size rfl (.tmp 40) (.tmp 41) 22 5 (.int .u8 0) 1 rfl Tryd.underlying22 info5 rfl (by decide) (by omega) v119 y118 x4_2 _ _ _ (fun k_ => some k_ ≠ (.slice Ao23 x4_2.length co23 : Value).ownBlock) (fun _ => False) rfl rfl ?aO ?aR (fun _ _ h => h) (fun _ h => h.elim) ?aF ?aB ?aS ?aL ?_; (case aR => repeat (first | exact (Kd.R_reads' HO_4.out).2.2 | (with_reducible refine Kd.C_alloc ?_ _) | (with_reducible refine Kd.C_drewN ?_ _) | (with_reducible refine Kd.C_drew ?_))); (case aB => exact (by repeat (first | (with_reducible first | exact HB.out | apply below_alloc | apply pw_below_drewN | apply below_drew1) | exact HB.out))); (case aF => exact (fun k_ hk => Kd.fresh' (Kd.R_lt (by (with_reducible repeat (first | apply Kd.R_alloc | apply Kd.R_drewN | apply Kd.R_drew)); exact HO_4.out)) k_ hk)); (case aO => exact (by (with_reducible repeat (first | apply Kd.R_alloc | apply Kd.R_drewN | apply Kd.R_drew)); exact Kd.R_mono HO120.out (fun _ hk => hk.2))); (case aS => exact (below_size (by repeat (first | (with_reducible first | exact HB.out | apply below_alloc | apply pw_below_drewN | apply below_drew1) | exact HB.out)))); (case aL => have := LMc19.out; omega); intro v122 w22 ho hb hg hat; rw [← Ny121.out] at ho; have n0_ := Aside0.mk (Kd.R_after (ok := (fun _ => True)) (by (with_reducible repeat (first | apply Kd.R_alloc | apply Kd.R_drewN | apply Kd.R_drew)); exact HO_4.out) hg hat); have n1_ := Aside0.mk (hb); have n2_ := Aside0.mk (ho); clear HO_4; clear HB; clear HO120; have HO_4 := n0_; have HB := n1_; have HO123 := n2_; clear n0_ n1_ n2_; clear ho hb hg hat))
                      go_ret
                      exact ⟨_, by first | rfl | (simp [errW_none, errW_some] <;> rfl) | (simp only [← hji5, ← hji7, ← hji18]; first | rfl | (simp [errW_none, errW_some] <;> rfl)) | (simp [*, errW_none, errW_some] <;> rfl), by (with_reducible repeat (first | apply Kd.R_alloc | apply Kd.R_drewN | apply Kd.R_drew)); exact Kd.R_mono HO123.out (fun _ hk => trivial), by repeat (first | (with_reducible first | exact HB.out | apply below_alloc | apply pw_below_drewN | apply below_drew1) | exact HB.out)⟩
                    · rw [if_neg c19] at H
                      exact absurd H (by simp)
                  · rw [if_neg c17] at H
                    exact absurd H (by simp)
        · rw [if_neg c6] at H
          exact absurd H (by simp)
end Go.Proofs.YtfpeoadgbidahaaDoor.PNum
