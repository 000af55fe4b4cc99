/- The contracts of spec.Number and spec.Coded, as print.sh printed them for FnNumber; three steps of the first mended (wip/pnum.py). -/
/- What the reference's reader of words tells (plain). -/
/- The plain part of the laws on coded numbers: what spec.Number and spec.Coded compute. -/
import Derived.Test.YtcdfbcanebjmfaaDoorPFnHeaderTurnedx0
import Derived.Test.YtcdfbcanebjmfaaDoorSw
import Derived.Test.YtcdfbcanebjmfaaDoorPFnHeaderTurnedx1
import Derived.Test.YtcdfbcanebjmfaaDoorDecA
import Derived.Test.YtcdfbcanebjmfaaDoorCod
namespace Go.Proofs.YtcdfbcanebjmfaaDoor.PNum
open Go.Proofs.YtcdfbcanebjmfaaDoor.PFnHeaderTurned Go.RowKit Go.Proofs.YtcdfbcanebjmfaaDoorW.PrintWords Go.Proofs.YtcdfbcanebjmfaaDoorW.PrintLast Go.Proofs.YtcdfbcanebjmfaaDoorW.PrintMore
attribute [local go_sem] max2_int min2_int max_two min_two max_three min_three max_four min_four   -- for this text's walks alone
set_option linter.unusedVariables false
set_option linter.unusedSimpArgs false

/-! ### spec_Number: function 17 -/
mutual
def spec_Number.j1 : Nat → List Int → Int → Option (Int × Int)
  | 0, _, _ => none
  | k + 1, x0, x4 => if x4 = 0 then (if 0 < (x0.length : Int) then (some (IntKind.u64.wrap (rd x0 0), 1)) else (none)) else (if x4 = 1 then (some (0, 0)) else (if x4 = 8 then (some (0, 0)) else (if (x0.length : Int) < x4 then (some (0, 0)) else (if 0 < (x0.length : Int) then (if 0 ≤ (wrap64 (7 - x4)) then (if 1 ≤ x4 then (if x4 ≤ (x0.length : Int) then (spec_Number.l1 k x4 (Go.bits .and .u64 (IntKind.u64.wrap (rd x0 0)) (IntKind.u64.wrap ((shl .u64 1 (wrap64 (7 - x4))) - 1))) ((x0.take (x4 : Int).toNat).drop 1) (((x0.take (x4 : Int).toNat).drop 1).length : Int) 0) else (none)) else (none)) else (none)) else (none)))))
def spec_Number.l1 : Nat → Int → Int → List Int → Int → Int → Option (Int × Int)
  | 0, _, _, _, _, _ => none
  | k + 1, x4, x5, x56, x57, x58 => if x58 < x57 then (if 0 ≤ x58 then (if x58 < (x56.length : Int) then (if ((rd x56 x58) / 64) = 2 then (spec_Number.l1 k x4 (Go.bits .or .u64 (IntKind.u64.wrap (x5 * 64)) (IntKind.u64.wrap (Go.bits .and .u8 (rd x56 x58) 63))) x56 x57 (wrap64 (x58 + 1))) else (some (0, 0))) else (none)) else (none)) else (some (x5, x4))
def spec_Number.l0 : Nat → List Int → Int → Option (Int × Int)
  | 0, _, _ => none
  | k + 1, x0, x4 => if x4 < 8 then (if 0 < (x0.length : Int) then (if 0 ≤ (wrap64 (7 - x4)) then (if (Go.bits .and .u8 (shr .u8 (rd x0 0) (wrap64 (7 - x4))) 1) = 1 then (spec_Number.l0 k x0 (wrap64 (x4 + 1))) else (spec_Number.j1 k x0 x4)) else (none)) else (none)) else (spec_Number.j1 k x0 x4)
end
def spec_Number.f (k : Nat) (l0 : List Int) : Option (Int × Int) := if (l0.length : Int) = 0 then (some (0, 0)) else (spec_Number.l0 k l0 0)
theorem spec_Number.mono_l : ∀ k, (∀ y0 y1, LeO (spec_Number.j1 k y0 y1) (spec_Number.j1 (k + 1) y0 y1)) ∧ (∀ y0 y1 y2 y3 y4, LeO (spec_Number.l1 k y0 y1 y2 y3 y4) (spec_Number.l1 (k + 1) y0 y1 y2 y3 y4)) ∧ (∀ y0 y1, LeO (spec_Number.l0 k y0 y1) (spec_Number.l0 (k + 1) y0 y1))
  | 0 => ⟨fun _ _ r h => by simp [spec_Number.j1] at h, fun _ _ _ _ _ r h => by simp [spec_Number.l1] at h, fun _ _ r h => by simp [spec_Number.l0] at h⟩
  | k + 1 => by
    obtain ⟨ih0, ih1, ih2⟩ := spec_Number.mono_l k
    refine ⟨?_, ?_, ?_⟩
    · intro y0 y1
      unfold spec_Number.j1
      repeat' first
      | (with_reducible exact ih0 _ _)
      | (with_reducible exact ih1 _ _ _ _ _)
      | (with_reducible exact ih2 _ _)
      | (with_reducible exact LeO.refl _)
      | (with_reducible exact LeO.none _)
      | (with_reducible refine LeO.ite ?_ ?_)
      | (with_reducible refine LeO.bind ?_ (fun _ => ?_))
      | exact ih0 _ _
      | exact ih1 _ _ _ _ _
      | exact ih2 _ _
      | exact LeO.none _
      | refine LeO.ite ?_ ?_
      | refine LeO.bind ?_ (fun _ => ?_)
    · intro y0 y1 y2 y3 y4
      unfold spec_Number.l1
      repeat' first
      | (with_reducible exact ih0 _ _)
      | (with_reducible exact ih1 _ _ _ _ _)
      | (with_reducible exact ih2 _ _)
      | (with_reducible exact LeO.refl _)
      | (with_reducible exact LeO.none _)
      | (with_reducible refine LeO.ite ?_ ?_)
      | (with_reducible refine LeO.bind ?_ (fun _ => ?_))
      | exact ih0 _ _
      | exact ih1 _ _ _ _ _
      | exact ih2 _ _
      | exact LeO.none _
      | refine LeO.ite ?_ ?_
      | refine LeO.bind ?_ (fun _ => ?_)
    · intro y0 y1
      unfold spec_Number.l0
      repeat' first
      | (with_reducible exact ih0 _ _)
      | (with_reducible exact ih1 _ _ _ _ _)
      | (with_reducible exact ih2 _ _)
      | (with_reducible exact LeO.refl _)
      | (with_reducible exact LeO.none _)
      | (with_reducible refine LeO.ite ?_ ?_)
      | (with_reducible refine LeO.bind ?_ (fun _ => ?_))
      | exact ih0 _ _
      | exact ih1 _ _ _ _ _
      | exact ih2 _ _
      | exact LeO.none _
      | refine LeO.ite ?_ ?_
      | refine LeO.bind ?_ (fun _ => ?_)
theorem spec_Number.mono : ∀ a0 k, LeO (spec_Number.f k a0) (spec_Number.f (k + 1) a0) := by
  intro a0 k
  obtain ⟨ih0, ih1, ih2⟩ := spec_Number.mono_l k
  unfold spec_Number.f
  repeat' first
      | (with_reducible exact ih0 _ _)
      | (with_reducible exact ih1 _ _ _ _ _)
      | (with_reducible exact ih2 _ _)
      | (with_reducible exact LeO.refl _)
      | (with_reducible exact LeO.none _)
      | (with_reducible refine LeO.ite ?_ ?_)
      | (with_reducible refine LeO.bind ?_ (fun _ => ?_))
      | exact ih0 _ _
      | exact ih1 _ _ _ _ _
      | exact ih2 _ _
      | exact LeO.none _
      | refine LeO.ite ?_ ?_
      | refine LeO.bind ?_ (fun _ => ?_)
set_option maxHeartbeats 8000000 in
set_option maxRecDepth 100000 in
theorem spec_Number.calls (k : Nat) (A0 : Option Addr) (c0 : Nat) (l0 : List Int) (r1 : Int) (r2 : Int) (w : World) (hr0 : Kd.C (Kd.int .u8) w A0 l0.length l0) (hc0 : l0.length ≤ c0) (h : spec_Number.f k l0 = some (r1, r2)) :
    Calls Tryd.prog 17 #[.slice A0 l0.length c0] w fun e w' => e = .returned (.tuple #[.int .u64 r1, .int .i64 r2]) ∧ Drawn0 w w' := by
  have HR0 := Aside0.mk hr0
  have HC0 := Aside0.mk hc0
  clear hr0 hc0
  have H : (if (l0.length : Int) = 0 then (some (0, 0)) else (spec_Number.l0 k l0 0)) = some (r1, r2) := h
  clear h
  by_cases c2 : (l0.length : Int) = 0
  · rw [if_pos c2] at H
    have c2b0 : ((l0.length : Int) == 0) = true := beq_iff_eq.mpr c2
    have c2b1 : ((l0.length : Int) != 0) = false := bne_eq_false_iff_eq.mpr c2
    clear c2
    simp only [Option.some.injEq, Prod.mk.injEq] at H
    obtain ⟨rfl, rfl⟩ := H
    go_enter Tryd.func17, Tryd.ntmps17
    go_wp2
    repeat (go_quiet (fail); try go_wp2)
    go_ret2
    exact ⟨by first | rfl | (simp; done) | (simp [*]; done), by repeat (first | exact Drawn0.refl _ | apply Drawn0.step)⟩
  · rw [if_neg c2] at H
    have c2b0 : ((l0.length : Int) == 0) = false := beq_eq_false_iff_ne.mpr c2
    have c2b1 : ((l0.length : Int) != 0) = true := bne_iff_ne.mpr c2
    have c2b2 : ¬ (l0 = []) := fun h_ => c2 (by rw [h_]; rfl)
    have HC3 := Aside0.mk H
    clear H
    go_enter Tryd.func17, Tryd.ntmps17
    go_upto_block 0 with (fail)
    repeat (go_quiet (fail); go_upto_block 0 with (fail))
    go_cut [4] (fun v4 wc => ∃ (kq : Nat) (x4_2 : Int), v4 = .int .i64 x4_2 ∧ Aside0 (spec_Number.j1 kq l0 x4_2 = some (r1, r2)) ∧ Aside0 (kq ≤ k) ∧ Drawn0 w wc)
    case first =>
      have H := HC3.out
      clear HC3
      have H' := Aside0.mk H
      clear H
      go_wp2
      repeat (go_quiet (fail); try go_wp2)
      go_loopg [4] k (fun kq v4 w' => ∃ (x4_1 : Int), v4 = .int .i64 x4_1 ∧ Aside0 (spec_Number.l0 kq l0 x4_1 = some (r1, r2)) ∧ Aside0 (kq ≤ k) ∧ Drawn0 w w')
      case atStart => exact ⟨(0), (by first | rfl | (simp; done) | (simp [*]; done)), H', ⟨Nat.le_refl _⟩, by repeat (first | exact Drawn0.refl _ | apply Drawn0.step)⟩
      case round =>
        clear H'
        try clear c1
        try clear c2
        try clear c2b0
        try clear c2b1
        try clear c2b2
        try clear p2
        obtain ⟨x4_1, rfl, HA, HK1, ⟨m1, rfl⟩⟩ := hrel
        cases gk with
        | zero => exact absurd HA.out (by simp [spec_Number.l0])
        | succ k1 =>
          have H := HA.out
          clear HA
          simp only [spec_Number.l0] at H
          by_cases c4 : x4_1 < 8
          · rw [if_pos c4] at H
            have c4b0 : decide (x4_1 < 8) = true := decide_eq_true c4
            clear c4
            (first | rw [c4b0] | (simp only [i64_w, i32_w]; rw [c4b0]) | skip)
            by_cases c5 : 0 < (l0.length : Int)
            · rw [if_pos c5] at H
              have c5b0 : decide (0 < (l0.length : Int)) = true := decide_eq_true c5
              have c5b1 : decide (0 < l0.length) = true := decide_eq_true (by omega)
              clear c5
              obtain ⟨ji6, hji6⟩ : ∃ j_ : Int, (wrap64 (7 - x4_1)) = j_ := ⟨_, rfl⟩
              replace H : (if 0 ≤ (ji6) then (if (Go.bits .and .u8 (shr .u8 (rd l0 0) (ji6)) 1) = 1 then (spec_Number.l0 k1 l0 (wrap64 (x4_1 + 1))) else (spec_Number.j1 k1 l0 x4_1)) else (none)) = some (r1, r2) := by first | (rw [hji6] at H; exact H) | (simp only [hji6] at H ⊢; exact H)
              have hji6w : (IntKind.i64.wrap (7 - x4_1)) = ji6 := (i64_w _).trans hji6
              by_cases c7 : 0 ≤ (ji6)
              · rw [if_pos c7] at H
                have c7b0 := eq_true c7
                have c7b1 : decide (0 ≤ (ji6)) = true := decide_eq_true c7
                clear c7
                obtain ⟨ji8, hji8⟩ : ∃ j_ : Int, (shr .u8 (rd l0 0) (ji6)) = j_ := ⟨_, rfl⟩
                replace H : (if (Go.bits .and .u8 (ji8) 1) = 1 then (spec_Number.l0 k1 l0 (wrap64 (x4_1 + 1))) else (spec_Number.j1 k1 l0 x4_1)) = some (r1, r2) := by first | (rw [hji8] at H; exact H) | (simp only [hji8] at H ⊢; exact H)
                have hji8_ : ((rd l0 0) / 2 ^ min (ji6).toNat 8) = ji8 := hji8
                have hji8z : (ji6) ≤ 8 → ((rd l0 0) / 2 ^ (ji6).toNat) = ji8 := shr_small hji8
                by_cases c9 : (Go.bits .and .u8 (ji8) 1) = 1
                · rw [if_pos c9] at H
                  have c9b0 : ((Go.bits .and .u8 (ji8) 1) == 1) = true := beq_iff_eq.mpr c9
                  have c9b1 : ((Go.bits .and .u8 (ji8) 1) != 1) = false := bne_eq_false_iff_eq.mpr c9
                  clear c9
                  have H' := Aside0.mk H
                  clear H
                  have p140 : 0 ≤ (0 : Int) := (by omega)
                  have q140 : 0 < (l0.length : Int) := of_decide_eq_true (by first | (with_reducible assumption) | assumption)
                  obtain ⟨ad140, e140, hx140_0⟩ := Kd.at_int HR0.out 0 p140 q140
                  cases e140
                  have qi140 : (0 < l0.length) = True := eq_true (by omega)
                  (try rw [show ((0 : Int)).toNat = 0 from rfl] at hx140_0)
                  (try rw [Addr.add_zero'] at hx140_0)
                  replace p140 := eq_true p140
                  replace q140 := eq_true q140
                  go_wp2
                  repeat (go_quiet (fail); try go_wp2)
                  go_roundg k1
                  case measure => have := HK1.out; omega
                  case rel => exact ⟨(wrap64 (x4_1 + 1)), (by first | rfl | (simp; done) | (simp [*]; done)), H', ⟨by have := HK1.out; omega⟩, by repeat (first | exact Drawn0.refl _ | apply Drawn0.step)⟩
                · rw [if_neg c9] at H
                  have c9b0 : ((Go.bits .and .u8 (ji8) 1) == 1) = false := beq_eq_false_iff_ne.mpr c9
                  have c9b1 : ((Go.bits .and .u8 (ji8) 1) != 1) = true := bne_iff_ne.mpr c9
                  have H' := Aside0.mk H
                  clear H
                  have p140 : 0 ≤ (0 : Int) := (by omega)
                  have q140 : 0 < (l0.length : Int) := of_decide_eq_true (by first | (with_reducible assumption) | assumption)
                  obtain ⟨ad140, e140, hx140_0⟩ := Kd.at_int HR0.out 0 p140 q140
                  cases e140
                  have qi140 : (0 < l0.length) = True := eq_true (by omega)
                  (try rw [show ((0 : Int)).toNat = 0 from rfl] at hx140_0)
                  (try rw [Addr.add_zero'] at hx140_0)
                  replace p140 := eq_true p140
                  replace q140 := eq_true q140
                  go_wp2
                  repeat (go_quiet (fail); try go_wp2)
                  go_meet
                  case rel => exact ⟨_, (x4_1), (by first | rfl | (simp; done) | (simp [*]; done)), H', ⟨by have := HK1.out; first | omega | exact Nat.le_refl _⟩, by repeat (first | exact Drawn0.refl _ | apply Drawn0.step)⟩
              · rw [if_neg c7] at H
                exact absurd H (by simp)
            · rw [if_neg c5] at H
              exact absurd H (by simp)
          · rw [if_neg c4] at H
            have c4b0 : decide (x4_1 < 8) = false := decide_eq_false c4
            clear c4
            (first | rw [c4b0] | (simp only [i64_w, i32_w]; rw [c4b0]) | skip)
            have H' := Aside0.mk H
            clear H
            go_wp2
            repeat (go_quiet (fail); try go_wp2)
            go_meet
            case rel => exact ⟨_, (x4_1), (by first | rfl | (simp; done) | (simp [*]; done)), H', ⟨by have := HK1.out; first | omega | exact Nat.le_refl _⟩, by repeat (first | exact Drawn0.refl _ | apply Drawn0.step)⟩
    case rest =>
      clear HC3
      try clear c1
      try clear p1
      try clear q1
      try clear hx1
      try clear qi1
      try clear c2
      try clear c2b0
      try clear c2b1
      try clear c2b2
      try clear p2
      try clear c4
      try clear c4b0
      try clear c5
      try clear c5b0
      try clear c5b1
      try clear p6
      try clear c7
      try clear c7b0
      try clear c7b1
      try clear c9
      try clear c9b0
      try clear c9b1
      try clear hx140_0
      try clear p140
      try clear p2
      try clear q140
      obtain ⟨kq, x4_2, rfl, HA, HJ2, ⟨mc2, rfl⟩⟩ := hcut
      cases kq with
      | zero => exact absurd HA.out (by simp [spec_Number.j1])
      | succ kj2 =>
        have H := HA.out
        clear HA
        simp only [spec_Number.j1] at H
        by_cases c10 : x4_2 = 0
        · rw [if_pos c10] at H
          have c10b0 : (x4_2 == 0) = true := beq_iff_eq.mpr c10
          have c10b1 : (x4_2 != 0) = false := bne_eq_false_iff_eq.mpr c10
          clear c10
          by_cases c11 : 0 < (l0.length : Int)
          · rw [if_pos c11] at H
            have c11b0 : decide (0 < (l0.length : Int)) = true := decide_eq_true c11
            have c11b1 : decide (0 < l0.length) = true := decide_eq_true (by omega)
            clear c11
            simp only [Option.some.injEq, Prod.mk.injEq] at H
            obtain ⟨rfl, rfl⟩ := H
            have p141 : 0 ≤ (0 : Int) := (by omega)
            have q141 : 0 < (l0.length : Int) := of_decide_eq_true (by first | (with_reducible assumption) | assumption)
            obtain ⟨ad141, e141, hx141_0⟩ := Kd.at_int HR0.out 0 p141 q141
            cases e141
            have qi141 : (0 < l0.length) = True := eq_true (by omega)
            (try rw [show ((0 : Int)).toNat = 0 from rfl] at hx141_0)
            (try rw [Addr.add_zero'] at hx141_0)
            replace p141 := eq_true p141
            replace q141 := eq_true q141
            go_wp2
            repeat (go_quiet (fail); try go_wp2)
            go_ret2
            exact ⟨by first | rfl | (simp; done) | (simp [*]; done), by repeat (first | exact Drawn0.refl _ | apply Drawn0.step)⟩
          · rw [if_neg c11] at H
            exact absurd H (by simp)
        · rw [if_neg c10] at H
          have c10b0 : (x4_2 == 0) = false := beq_eq_false_iff_ne.mpr c10
          have c10b1 : (x4_2 != 0) = true := bne_iff_ne.mpr c10
          by_cases c12 : x4_2 = 1
          · rw [if_pos c12] at H
            have c12b0 : (x4_2 == 1) = true := beq_iff_eq.mpr c12
            have c12b1 : (x4_2 != 1) = false := bne_eq_false_iff_eq.mpr c12
            clear c12
            simp only [Option.some.injEq, Prod.mk.injEq] at H
            obtain ⟨rfl, rfl⟩ := H
            go_wp2
            repeat (go_quiet (fail); try go_wp2)
            go_ret2
            exact ⟨by first | rfl | (simp; done) | (simp [*]; done), by repeat (first | exact Drawn0.refl _ | apply Drawn0.step)⟩
          · rw [if_neg c12] at H
            have c12b0 : (x4_2 == 1) = false := beq_eq_false_iff_ne.mpr c12
            have c12b1 : (x4_2 != 1) = true := bne_iff_ne.mpr c12
            by_cases c13 : x4_2 = 8
            · rw [if_pos c13] at H
              have c13b0 : (x4_2 == 8) = true := beq_iff_eq.mpr c13
              have c13b1 : (x4_2 != 8) = false := bne_eq_false_iff_eq.mpr c13
              clear c13
              simp only [Option.some.injEq, Prod.mk.injEq] at H
              obtain ⟨rfl, rfl⟩ := H
              go_wp2
              repeat (go_quiet (fail); try go_wp2)
              go_ret2
              exact ⟨by first | rfl | (simp; done) | (simp [*]; done), by repeat (first | exact Drawn0.refl _ | apply Drawn0.step)⟩
            · rw [if_neg c13] at H
              have c13b0 : (x4_2 == 8) = false := beq_eq_false_iff_ne.mpr c13
              have c13b1 : (x4_2 != 8) = true := bne_iff_ne.mpr c13
              by_cases c14 : (l0.length : Int) < x4_2
              · rw [if_pos c14] at H
                have c14b0 : decide ((l0.length : Int) < x4_2) = true := decide_eq_true c14
                clear c14
                simp only [Option.some.injEq, Prod.mk.injEq] at H
                obtain ⟨rfl, rfl⟩ := H
                go_wp2
                repeat (go_quiet (fail); try go_wp2)
                go_ret2
                exact ⟨by first | rfl | (simp; done) | (simp [*]; done), by repeat (first | exact Drawn0.refl _ | apply Drawn0.step)⟩
              · rw [if_neg c14] at H
                have c14b0 : decide ((l0.length : Int) < x4_2) = false := decide_eq_false c14
                clear c14
                by_cases c15 : 0 < (l0.length : Int)
                · rw [if_pos c15] at H
                  have c15b0 : decide (0 < (l0.length : Int)) = true := decide_eq_true c15
                  have c15b1 : decide (0 < l0.length) = true := decide_eq_true (by omega)
                  clear c15
                  obtain ⟨ji16, hji16⟩ : ∃ j_ : Int, (wrap64 (7 - x4_2)) = j_ := ⟨_, rfl⟩
                  replace H : (if 0 ≤ (ji16) then (if 1 ≤ x4_2 then (if x4_2 ≤ (l0.length : Int) then (spec_Number.l1 kj2 x4_2 (Go.bits .and .u64 (IntKind.u64.wrap (rd l0 0)) (IntKind.u64.wrap ((shl .u64 1 (ji16)) - 1))) ((l0.take (x4_2 : Int).toNat).drop 1) (((l0.take (x4_2 : Int).toNat).drop 1).length : Int) 0) else (none)) else (none)) else (none)) = some (r1, r2) := by first | (rw [hji16] at H; exact H) | (simp only [hji16] at H ⊢; exact H)
                  have hji16w : (IntKind.i64.wrap (7 - x4_2)) = ji16 := (i64_w _).trans hji16
                  by_cases c17 : 0 ≤ (ji16)
                  · rw [if_pos c17] at H
                    have c17b0 := eq_true c17
                    have c17b1 : decide (0 ≤ (ji16)) = true := decide_eq_true c17
                    clear c17
                    obtain ⟨ji18, hji18⟩ : ∃ j_ : Int, (shl .u64 1 (ji16)) = j_ := ⟨_, rfl⟩
                    replace H : (if 1 ≤ x4_2 then (if x4_2 ≤ (l0.length : Int) then (spec_Number.l1 kj2 x4_2 (Go.bits .and .u64 (IntKind.u64.wrap (rd l0 0)) (IntKind.u64.wrap ((ji18) - 1))) ((l0.take (x4_2 : Int).toNat).drop 1) (((l0.take (x4_2 : Int).toNat).drop 1).length : Int) 0) else (none)) else (none)) = some (r1, r2) := by first | (rw [hji18] at H; exact H) | (simp only [hji18] at H ⊢; exact H)
                    have hji18_ : (IntKind.u64.wrap (1 * 2 ^ min (ji16).toNat 64)) = ji18 := hji18
                    have hji18z : (ji16) ≤ 64 → (IntKind.u64.wrap (1 * 2 ^ (ji16).toNat)) = ji18 := shl_small hji18
                    have hji18u : (IntKind.u64.wrap (2 ^ min (ji16).toNat 64)) = ji18 := by have h_ := hji18_; rw [Int.one_mul] at h_; exact h_
                    have hji18v : (ji16) ≤ 64 → (IntKind.u64.wrap (2 ^ (ji16).toNat)) = ji18 := fun hle_ => by have h_ := hji18z hle_; rw [Int.one_mul] at h_; exact h_
                    by_cases c19 : 1 ≤ x4_2
                    · rw [if_pos c19] at H
                      have c19b0 := eq_true c19
                      have c19b1 : decide (1 ≤ x4_2) = true := decide_eq_true c19
                      clear c19
                      by_cases c20 : x4_2 ≤ (l0.length : Int)
                      · rw [if_pos c20] at H
                        have c20b0 := eq_true c20
                        have c20b1 : decide (x4_2 ≤ (l0.length : Int)) = true := decide_eq_true c20
                        have C20 := Aside0.mk c20b1
                        clear c20
                        have H' := Aside0.mk H
                        clear H
                        have p142 : 0 ≤ (0 : Int) := (by omega)
                        have q142 : 0 < (l0.length : Int) := of_decide_eq_true (by first | (with_reducible assumption) | assumption)
                        obtain ⟨ad142, e142, hx142_0⟩ := Kd.at_int HR0.out 0 p142 q142
                        cases e142
                        have qi142 : (0 < l0.length) = True := eq_true (by omega)
                        (try rw [show ((0 : Int)).toNat = 0 from rfl] at hx142_0)
                        (try rw [Addr.add_zero'] at hx142_0)
                        replace p142 := eq_true p142
                        replace q142 := eq_true q142
                        obtain ⟨i021, hi021, _, hsz21, _⟩ := info_parts info5
                        obtain ⟨A21, hcut21, hA21, hC21⟩ := print_mid_of (P := Tryd.prog) (Value.int .u8) 0 25 5 .i64 .i64 Tryd.underlying25 hi021 hsz21 (some ad142) c0 l0 1 x4_2 (by omega) (by first | omega | exact of_decide_eq_true (by first | (with_reducible assumption) | assumption)) (of_decide_eq_true (by first | (with_reducible assumption) | assumption)) HC0.out
                        have HR143 := Aside0.mk (Kd.C_of_reads (h1 := fun _ => rfl) (hA21 _ (Kd.reads_of_C HR0.out)))
                        have HC143 := Aside0.mk hC21
                        clear hA21 hC21 hi021 hsz21
                        go_wp2
                        repeat (go_quiet (fail); try go_wp2)
                        go_loopg [5, 58] kj2 (fun kq v5 v58 w' => ∃ (x5_2 : Int) (x58_2 : Int), v5 = .int .u64 x5_2 ∧ v58 = .int .i64 x58_2 ∧ Aside0 (spec_Number.l1 kq x4_2 x5_2 ((l0.take (x4_2 : Int).toNat).drop 1) (((l0.take (x4_2 : Int).toNat).drop 1).length : Int) x58_2 = some (r1, r2)) ∧ Aside0 (kq ≤ kj2) ∧ Drawn0 w w')
                        case atStart => exact ⟨(Go.bits .and .u64 (IntKind.u64.wrap (rd l0 0)) (IntKind.u64.wrap ((ji18) - 1))), (0), (by first | rfl | (simp; done) | (simp only [← hji18] <;> (first | rfl | simp)) | (simp [*]; done)), (by first | rfl | (simp; done) | (simp [*]; done)), H', ⟨Nat.le_refl _⟩, by repeat (first | exact Drawn0.refl _ | apply Drawn0.step)⟩
                        case round =>
                          clear H'
                          try clear c1
                          try clear p1
                          try clear q1
                          try clear hx1
                          try clear qi1
                          try clear c2
                          try clear c2b0
                          try clear c2b1
                          try clear c2b2
                          try clear p2
                          try clear c4
                          try clear c4b0
                          try clear c5
                          try clear c5b0
                          try clear c5b1
                          try clear p6
                          try clear c7
                          try clear c7b0
                          try clear c7b1
                          try clear c9
                          try clear c9b0
                          try clear c9b1
                          try clear c10
                          try clear c10b0
                          try clear c10b1
                          try clear c11
                          try clear c11b0
                          try clear c11b1
                          try clear c12
                          try clear c12b0
                          try clear c12b1
                          try clear c13
                          try clear c13b0
                          try clear c13b1
                          try clear c14
                          try clear c14b0
                          try clear p14
                          try clear q14
                          try clear hx14
                          try clear qi14
                          try clear c15
                          try clear c15b0
                          try clear c15b1
                          try clear c17
                          try clear c17b0
                          try clear c17b1
                          try clear c19
                          try clear c19b0
                          try clear c19b1
                          try clear c20
                          try clear c20b0
                          try clear c20b1
                          try clear hx140_0
                          try clear hx141_0
                          try clear hx142_0
                          try clear p1
                          try clear p140
                          try clear p141
                          try clear p142
                          try clear p2
                          try clear p6
                          try clear q1
                          try clear q140
                          try clear q141
                          try clear q142
                          obtain ⟨x5_2, x58_2, rfl, rfl, HA, HK2, ⟨m2, rfl⟩⟩ := hrel
                          cases gk with
                          | zero => exact absurd HA.out (by simp [spec_Number.l1])
                          | succ k2 =>
                            have H := HA.out
                            clear HA
                            simp only [spec_Number.l1] at H
                            by_cases c22 : x58_2 < (((l0.take (x4_2 : Int).toNat).drop 1).length : Int)
                            · rw [if_pos c22] at H
                              have c22b0 : decide (x58_2 < (((l0.take (x4_2 : Int).toNat).drop 1).length : Int)) = true := decide_eq_true c22
                              have c22n : x58_2 < ((x4_2.toNat - 1 : Nat) : Int) := by have h := of_decide_eq_true c22b0; simp only [List.length_drop, List.length_take] at h; omega
                              clear c22
                              by_cases c23 : 0 ≤ x58_2
                              · rw [if_pos c23] at H
                                have c23b0 : decide (0 ≤ x58_2) = true := decide_eq_true c23
                                clear c23
                                by_cases c24 : x58_2 < (((l0.take (x4_2 : Int).toNat).drop 1).length : Int)
                                · rw [if_pos c24] at H
                                  have c24b0 : decide (x58_2 < (((l0.take (x4_2 : Int).toNat).drop 1).length : Int)) = true := decide_eq_true c24
                                  clear c24
                                  by_cases c25 : ((rd ((l0.take (x4_2 : Int).toNat).drop 1) x58_2) / 64) = 2
                                  · rw [if_pos c25] at H
                                    have c25b0 : (((rd ((l0.take (x4_2 : Int).toNat).drop 1) x58_2) / 64) == 2) = true := beq_iff_eq.mpr c25
                                    have c25b1 : (((rd ((l0.take (x4_2 : Int).toNat).drop 1) x58_2) / 64) != 2) = false := bne_eq_false_iff_eq.mpr c25
                                    have c25n : ((rd (List.take x4_2.toNat l0).tail x58_2 / 64) != 2) = false := by rw [← List.drop_one]; exact c25b1
                                    clear c25
                                    have H' := Aside0.mk H
                                    clear H
                                    have p144 : 0 ≤ (x58_2 : Int) := of_decide_eq_true (by first | (with_reducible assumption) | assumption)
                                    have q144 : x58_2 < (((l0.take (x4_2 : Int).toNat).drop 1).length : Int) := of_decide_eq_true (by first | (with_reducible assumption) | assumption)
                                    obtain ⟨ad144, e144, hx144_0⟩ := Kd.at_int HR143.out x58_2 p144 q144
                                    cases e144
                                    replace p144 := eq_true p144
                                    replace q144 := eq_true q144
                                    go_wp2
                                    repeat (go_quiet (fail); try go_wp2)
                                    go_roundg k2
                                    case measure => have := HJ2.out; have := HK2.out; omega
                                    case rel => exact ⟨(Go.bits .or .u64 (IntKind.u64.wrap (x5_2 * 64)) (IntKind.u64.wrap (Go.bits .and .u8 (rd ((l0.take (x4_2 : Int).toNat).drop 1) x58_2) 63))), (wrap64 (x58_2 + 1)), (by first | rfl | (simp; done) | (simp [*]; done)), (by first | rfl | (simp; done) | (simp [*]; done)), H', ⟨by have := HJ2.out; have := HK2.out; omega⟩, by repeat (first | exact Drawn0.refl _ | apply Drawn0.step)⟩
                                  · rw [if_neg c25] at H
                                    have c25b0 : (((rd ((l0.take (x4_2 : Int).toNat).drop 1) x58_2) / 64) == 2) = false := beq_eq_false_iff_ne.mpr c25
                                    have c25b1 : (((rd ((l0.take (x4_2 : Int).toNat).drop 1) x58_2) / 64) != 2) = true := bne_iff_ne.mpr c25
                                    have c25n : ((rd (List.take x4_2.toNat l0).tail x58_2 / 64) != 2) = true := by rw [← List.drop_one]; exact c25b1
                                    simp only [Option.some.injEq, Prod.mk.injEq] at H
                                    obtain ⟨rfl, rfl⟩ := H
                                    have p144 : 0 ≤ (x58_2 : Int) := of_decide_eq_true (by first | (with_reducible assumption) | assumption)
                                    have q144 : x58_2 < (((l0.take (x4_2 : Int).toNat).drop 1).length : Int) := of_decide_eq_true (by first | (with_reducible assumption) | assumption)
                                    obtain ⟨ad144, e144, hx144_0⟩ := Kd.at_int HR143.out x58_2 p144 q144
                                    cases e144
                                    replace p144 := eq_true p144
                                    replace q144 := eq_true q144
                                    go_wp2
                                    repeat (go_quiet (fail); try go_wp2)
                                    go_ret2
                                    exact ⟨by first | rfl | (simp; done) | (simp only [← hji16, ← hji18] <;> (first | rfl | simp)) | (simp [*]; done), by repeat (first | exact Drawn0.refl _ | apply Drawn0.step)⟩
                                · rw [if_neg c24] at H
                                  exact absurd H (by simp)
                              · rw [if_neg c23] at H
                                exact absurd H (by simp)
                            · rw [if_neg c22] at H
                              have c22b0 : decide (x58_2 < (((l0.take (x4_2 : Int).toNat).drop 1).length : Int)) = false := decide_eq_false c22
                              have c22n : ¬ x58_2 < ((x4_2.toNat - 1 : Nat) : Int) := by have h := of_decide_eq_false c22b0; have h2 := of_decide_eq_true C20.out; simp only [List.length_drop, List.length_take] at h; omega
                              clear c22
                              simp only [Option.some.injEq, Prod.mk.injEq] at H
                              obtain ⟨rfl, rfl⟩ := H
                              go_wp2
                              repeat (go_quiet (fail); try go_wp2)
                              go_ret2
                              exact ⟨by first | rfl | (simp; done) | (simp only [← hji16, ← hji18] <;> (first | rfl | simp)) | (simp [*]; done), by repeat (first | exact Drawn0.refl _ | apply Drawn0.step)⟩
                      · rw [if_neg c20] at H
                        exact absurd H (by simp)
                    · rw [if_neg c19] at H
                      exact absurd H (by simp)
                  · rw [if_neg c17] at H
                    exact absurd H (by simp)
                · rw [if_neg c15] at H
                  exact absurd H (by simp)

-- NOT PRINTED: function 7 (spec_ReadHead)

-- NOT PRINTED: function 4 (laws_FnHeaderTurned)
end Go.Proofs.YtcdfbcanebjmfaaDoor.PNum
namespace Go.Proofs.YtcdfbcanebjmfaaDoor.Walk
set_option linter.unusedVariables false
set_option linter.unusedSimpArgs false
open Go Go.RowKit Go.Proofs.YtcdfbcanebjmfaaDoorW.PrintWords Go.Proofs.YtcdfbcanebjmfaaDoorW.PrintLast Go.Proofs.YtcdfbcanebjmfaaDoorW.PrintMore Go.Proofs.YtcdfbcanebjmfaaDoor.Num Go.Proofs.YtcdfbcanebjmfaaDoor.PFnHeaderTurned

theorem or1_i64 (x t : Nat) (hx : x < 1073741824) (ht : t < 2) : Go.bits .or .i64 ((x : Int) * 2) (t : Int) = ((2 * x + t : Nat) : Int) := by
  have h1 : Go.bits .or .i64 ((x : Int) * 2) (t : Int) = IntKind.i64.wrap ((BitVec.ofInt 64 ((x : Int) * 2) ||| BitVec.ofInt 64 (t : Int)).toNat : Int) := rfl
  have h2 : 2 ^ 1 * x + t = 2 ^ 1 * x ||| t := Nat.two_pow_add_eq_or_of_lt (by omega) x
  have e : (x : Int) * 2 = ((2 * x : Nat) : Int) := by omega
  rw [h1, e, BitVec.ofInt_natCast, BitVec.ofInt_natCast, BitVec.toNat_or, BitVec.toNat_ofNat, BitVec.toNat_ofNat, Nat.mod_eq_of_lt (by omega), Nat.mod_eq_of_lt (by omega), IntKind.wrap_i64]
  rw [Nat.pow_one] at h2
  rw [← h2]
  omega
theorem wrap64_nat (a : Nat) (h : a < 4611686018427387904) : wrap64 (a : Int) = (a : Int) := by unfold wrap64; omega
theorem rword_l0 (l : List Int) (hb : ∀ i, l.getD i 0 = (byteAt l i : Int) ∧ byteAt l i < 256) : ∀ (d k x i n at_ : Nat) (sh : Bool), i + d = n → n ≤ 16 → x < 2 ^ i → at_ + d ≤ 1000000 → (8 * l.length < at_ → sh = true) →
    ∃ (v : Nat) (sh' : Bool), spec_reader_word.l0 (k + 1 + d) (x : Int) (n : Int) (i : Int) l (at_ : Int) sh = some ((v : Int), ((at_ + d : Nat) : Int), sh') ∧ v < 2 ^ n ∧ (at_ + d ≤ 8 * l.length → v = x * 2 ^ d + num l at_ d ∧ sh' = sh) ∧ (8 * l.length < at_ + d → sh' = true) ∧ (sh = true → sh' = true)
  | 0, k, x, i, n, at_, sh, hin, hn, hx, hat, hsh => by
    obtain rfl : i = n := by omega
    refine ⟨x, sh, ?_, hx, fun _ => ⟨by simp [num], rfl⟩, fun h => hsh h, id⟩
    rw [Nat.add_zero, spec_reader_word.l0, if_neg (by omega)]; rfl
  | d + 1, k, x, i, n, at_, sh, hin, hn, hx, hat, hsh => by
    have hx16 : 2 ^ i ≤ 2 ^ 16 := Nat.pow_le_pow_right (by decide) (by omega)
    have hx2 : x < 65536 := by omega
    have e1 : wrap64 ((i : Int) + 1) = ((i + 1 : Nat) : Int) := by rw [show (i : Int) + 1 = ((i + 1 : Nat) : Int) by omega, wrap64_nat _ (by omega)]
    have e2 : wrap64 ((at_ : Int) + 1) = ((at_ + 1 : Nat) : Int) := by rw [show (at_ : Int) + 1 = ((at_ + 1 : Nat) : Int) by omega, wrap64_nat _ (by omega)]
    have e3 : wrap64 ((x : Int) * 2) = ((2 * x : Nat) : Int) := by rw [show (x : Int) * 2 = ((2 * x : Nat) : Int) by omega, wrap64_nat _ (by omega)]
    rw [← Nat.add_assoc, spec_reader_word.l0, if_pos (by omega), e1, e2, e3]
    by_cases hlt : at_ / 8 < l.length
    · have h7 : wrap64 (7 - Go.bits .and .i64 (at_ : Int) 7) = ((7 - at_ % 8 : Nat) : Int) := by
        rw [and7_i64 at_ (by omega)]; unfold wrap64; omega
      have hr : wrap64 (rd l ((at_ : Int) / 8)) = ((byteAt l (at_ / 8) : Nat) : Int) := by
        have : ((at_ : Int) / 8).toNat = at_ / 8 := by omega
        rw [rd, this, (hb _).1, wrap64_nat _ (by have := (hb (at_ / 8)).2; omega)]
      have hs : Go.bits .and .i64 (shr .i64 (byteAt l (at_ / 8) : Int) ((7 - at_ % 8 : Nat) : Int)) 1 = ((bitAt l at_ : Nat) : Int) := by
        have e : shr .i64 (byteAt l (at_ / 8) : Int) ((7 - at_ % 8 : Nat) : Int) = ((byteAt l (at_ / 8) / 2 ^ (7 - at_ % 8) : Nat) : Int) := by
          unfold shr
          rw [Int.toNat_natCast, Nat.min_eq_left (by show 7 - at_ % 8 ≤ 64; omega)]
          simp
        have hq : byteAt l (at_ / 8) / 2 ^ (7 - at_ % 8) ≤ byteAt l (at_ / 8) := Nat.div_le_self _ _
        have := (hb (at_ / 8)).2
        rw [e, and1_i64 _ (by omega)]; rfl
      have ht := bitAt_lt l at_
      have ho : Go.bits .or .i64 ((2 * x : Nat) : Int) ((bitAt l at_ : Nat) : Int) = ((2 * x + bitAt l at_ : Nat) : Int) := by
        have h := or1_i64 x (bitAt l at_) (by omega) ht
        rw [show (x : Int) * 2 = ((2 * x : Nat) : Int) by omega] at h; exact h
      rw [if_pos (by omega), if_pos (by omega), h7, if_pos (by omega), hr, hs, ho]
      have hx3 : 2 * x + bitAt l at_ < 2 ^ (i + 1) := by rw [Nat.pow_succ]; omega
      obtain ⟨v, sh', h1, h2, h3, h4, h5⟩ := rword_l0 l hb d k (2 * x + bitAt l at_) (i + 1) n (at_ + 1) sh (by omega) hn hx3 (by omega) (fun h => by omega)
      refine ⟨v, sh', by rw [h1, show at_ + 1 + d = at_ + (d + 1) by omega], h2, fun h => ?_, fun h => h4 (by omega), h5⟩
      obtain ⟨h6, h7⟩ := h3 (by omega)
      refine ⟨?_, h7⟩
      have hn1 : num l at_ 1 = bitAt l at_ := by simp [num]
      rw [h6, show d + 1 = 1 + d by omega, num_add, hn1, Nat.add_mul, Nat.pow_add, Nat.pow_one, ← Nat.mul_assoc, Nat.mul_comm x 2]
      omega
    · rw [if_neg (by omega)]
      have hx3 : 2 * x < 2 ^ (i + 1) := by rw [Nat.pow_succ]; omega
      obtain ⟨v, sh', h1, h2, h3, h4, h5⟩ := rword_l0 l hb d k (2 * x) (i + 1) n (at_ + 1) true (by omega) hn hx3 (by omega) (fun _ => rfl)
      exact ⟨v, sh', by rw [h1, show at_ + 1 + d = at_ + (d + 1) by omega], h2, fun h => by omega, fun _ => h5 rfl, fun _ => h5 rfl⟩
/-- A word of n bits. -/
theorem rword (l : List Int) (hb : ∀ i, l.getD i 0 = (byteAt l i : Int) ∧ byteAt l i < 256) (n at_ : Nat) (sh : Bool) (hn : n ≤ 16) (hat : at_ + n ≤ 1000000) (hsh : 8 * l.length < at_ → sh = true) :
    ∃ (v : Nat) (sh' : Bool), spec_reader_word.f (1 + n) l (at_ : Int) sh (n : Int) = some ((v : Int), ((at_ + n : Nat) : Int), sh') ∧ v < 2 ^ n ∧ (at_ + n ≤ 8 * l.length → v = num l at_ n ∧ sh' = sh) ∧ (8 * l.length < at_ + n → sh' = true) ∧ (sh = true → sh' = true) := by
  obtain ⟨v, sh', h1, h2, h3, h4⟩ := rword_l0 l hb n 0 0 0 n at_ sh (by omega) hn (by decide) hat hsh
  refine ⟨v, sh', by rw [Nat.zero_add] at h1; exact h1, h2, fun h => ?_, h4⟩
  obtain ⟨h5, h6⟩ := h3 h
  exact ⟨by rw [h5]; omega, h6⟩
end Go.Proofs.YtcdfbcanebjmfaaDoor.Walk
namespace Go.Proofs.YtcdfbcanebjmfaaDoor.Walk
set_option linter.unusedVariables false
set_option linter.unusedSimpArgs false
open Go Go.RowKit Go.Proofs.YtcdfbcanebjmfaaDoorW.PrintWords Go.Proofs.YtcdfbcanebjmfaaDoorW.PrintLast Go.Proofs.YtcdfbcanebjmfaaDoorW.PrintMore Go.Proofs.YtcdfbcanebjmfaaDoor.Num Go.Proofs.YtcdfbcanebjmfaaDoor.PNum

theorem bitTab : ∀ c : Fin 256, ∀ t : Fin 8, Go.bits .and .u8 (shr .u8 (c.val : Int) (wrap64 (7 - (t.val : Int)))) 1 = ((c.val / 2 ^ (7 - t.val) % 2 : Nat) : Int) := by decide +kernel
theorem maskTab : ∀ c : Fin 256, ∀ n : Fin 8, Go.bits .and .u64 (IntKind.u64.wrap (c.val : Int)) (IntKind.u64.wrap ((shl .u64 1 (wrap64 (7 - (n.val : Int)))) - 1)) = ((c.val % 2 ^ (7 - n.val) : Nat) : Int) := by decide +kernel

theorem l0_step (k : Nat) (x0 : List Int) (c0 t : Nat) (hl : 0 < x0.length) (hr : rd x0 0 = (c0 : Int)) (hc : c0 < 256) (ht : t < 8) :
    spec_Number.l0 (k + 1) x0 (t : Int) = if c0 / 2 ^ (7 - t) % 2 = 1 then spec_Number.l0 k x0 ((t + 1 : Nat) : Int) else spec_Number.j1 k x0 (t : Int) := by
  have hb := bitTab ⟨c0, hc⟩ ⟨t, ht⟩
  simp only at hb
  rw [spec_Number.l0, if_pos (by omega), if_pos (by omega), if_pos (by unfold wrap64; omega), hr, hb, w64 t (by omega)]
  by_cases h : c0 / 2 ^ (7 - t) % 2 = 1
  · rw [if_pos h, if_pos (by rw [h]; rfl)]
  · rw [if_neg h, if_neg (by omega)]
theorem l0_lead (k : Nat) (x0 : List Int) (c0 n : Nat) (hl : 0 < x0.length) (hr : rd x0 0 = (c0 : Int)) (hc : c0 < 256) (hn : n < 8) (h1 : ∀ i : Fin n, c0 / 2 ^ (7 - i.val) % 2 = 1) (h0 : c0 / 2 ^ (7 - n) % 2 ≠ 1) :
    ∀ d t, t + d = n → spec_Number.l0 (k + 1 + d) x0 (t : Int) = spec_Number.j1 k x0 (n : Int)
  | 0, t, h => by
    obtain rfl : t = n := by omega
    rw [Nat.add_zero, l0_step k x0 c0 t hl hr hc hn, if_neg h0]
  | d + 1, t, h => by
    rw [← Nat.add_assoc, l0_step _ x0 c0 t hl hr hc (by omega), if_pos (h1 ⟨t, by omega⟩)]
    exact l0_lead k x0 c0 n hl hr hc hn h1 h0 d (t + 1) (by omega)
theorem leads0 : ∀ c : Fin 256, 0 ≤ c.val → c.val < 128 → (∀ i : Fin 0, c.val / 2 ^ (7 - i.val) % 2 = 1) ∧ c.val / 2 ^ (7 - 0) % 2 ≠ 1 := by decide +kernel
theorem leads1 : ∀ c : Fin 256, 128 ≤ c.val → c.val < 192 → (∀ i : Fin 1, c.val / 2 ^ (7 - i.val) % 2 = 1) ∧ c.val / 2 ^ (7 - 1) % 2 ≠ 1 := by decide +kernel
theorem leads2 : ∀ c : Fin 256, 192 ≤ c.val → c.val < 224 → (∀ i : Fin 2, c.val / 2 ^ (7 - i.val) % 2 = 1) ∧ c.val / 2 ^ (7 - 2) % 2 ≠ 1 := by decide +kernel
theorem leads3 : ∀ c : Fin 256, 224 ≤ c.val → c.val < 240 → (∀ i : Fin 3, c.val / 2 ^ (7 - i.val) % 2 = 1) ∧ c.val / 2 ^ (7 - 3) % 2 ≠ 1 := by decide +kernel
theorem leads4 : ∀ c : Fin 256, 240 ≤ c.val → c.val < 248 → (∀ i : Fin 4, c.val / 2 ^ (7 - i.val) % 2 = 1) ∧ c.val / 2 ^ (7 - 4) % 2 ≠ 1 := by decide +kernel
theorem leads5 : ∀ c : Fin 256, 248 ≤ c.val → c.val < 252 → (∀ i : Fin 5, c.val / 2 ^ (7 - i.val) % 2 = 1) ∧ c.val / 2 ^ (7 - 5) % 2 ≠ 1 := by decide +kernel
theorem leads6 : ∀ c : Fin 256, 252 ≤ c.val → c.val < 254 → (∀ i : Fin 6, c.val / 2 ^ (7 - i.val) % 2 = 1) ∧ c.val / 2 ^ (7 - 6) % 2 ≠ 1 := by decide +kernel
theorem leads7 : ∀ c : Fin 256, 254 ≤ c.val → c.val < 255 → (∀ i : Fin 7, c.val / 2 ^ (7 - i.val) % 2 = 1) ∧ c.val / 2 ^ (7 - 7) % 2 ≠ 1 := by decide +kernel
/-- A class's facts: how many ones lead, and the mask. -/
theorem Cls.facts {c0 L m1 mx : Nat} (h : Cls c0 L m1 mx) : 1 ≤ L ∧ L ≤ 6 ∧ m1 = 2 ^ (7 - (L + 1)) ∧ c0 < 256 ∧ (∀ i : Fin (L + 1), c0 / 2 ^ (7 - i.val) % 2 = 1) ∧ c0 / 2 ^ (7 - (L + 1)) % 2 ≠ 1 := by
  have hc : c0 < 256 := by cases h <;> omega
  cases h with
  | one a b => exact ⟨by decide, by decide, rfl, hc, (leads2 ⟨c0, hc⟩ a b).1, (leads2 ⟨c0, hc⟩ a b).2⟩
  | two a b => exact ⟨by decide, by decide, rfl, hc, (leads3 ⟨c0, hc⟩ a b).1, (leads3 ⟨c0, hc⟩ a b).2⟩
  | three a b => exact ⟨by decide, by decide, rfl, hc, (leads4 ⟨c0, hc⟩ a b).1, (leads4 ⟨c0, hc⟩ a b).2⟩
  | four a b => exact ⟨by decide, by decide, rfl, hc, (leads5 ⟨c0, hc⟩ a b).1, (leads5 ⟨c0, hc⟩ a b).2⟩
  | five a b => exact ⟨by decide, by decide, rfl, hc, (leads6 ⟨c0, hc⟩ a b).1, (leads6 ⟨c0, hc⟩ a b).2⟩
  | six a b => exact ⟨by decide, by decide, rfl, hc, (leads7 ⟨c0, hc⟩ a b).1, (leads7 ⟨c0, hc⟩ a b).2⟩

theorem rd_tail (l : List Int) (L i : Nat) (hi : i < L) : rd ((l.take (L + 1)).drop 1) (i : Int) = l.getD (1 + i) 0 := by
  unfold rd
  rw [Int.toNat_natCast, List.getD_eq_getElem?_getD, List.getD_eq_getElem?_getD, List.getElem?_drop, List.getElem?_take, if_pos (by omega)]
theorem l1_good (l : List Int) (hb : ∀ i, l.getD i 0 = (byteAt l i : Int) ∧ byteAt l i < 256) (L x0 : Nat) (hL : L ≤ 6) (hx : x0 < 2 ^ (6 - L)) (hlen : L + 1 ≤ l.length) (x4 : Int) (k : Nat) :
    ∀ d j, j + d = L → (∀ i, j ≤ i → i < L → 128 ≤ byteAt l (1 + i) ∧ byteAt l (1 + i) < 192) →
      spec_Number.l1 (k + 1 + d) x4 (vals l 1 x0 j : Int) ((l.take (L + 1)).drop 1) (L : Int) (j : Int) = some ((vals l 1 x0 L : Int), x4)
  | 0, j, h, _ => by
    obtain rfl : j = L := by omega
    rw [Nat.add_zero, spec_Number.l1, if_neg (by omega)]
  | d + 1, j, h, hok => by
    have hj := hok j (Nat.le_refl _) (by omega)
    have hlt : ((l.take (L + 1)).drop 1).length = L := by rw [List.length_drop, List.length_take]; omega
    have hv := vals_lt l 1 x0 (6 - L) hx j
    have h30 : 2 ^ (6 - L + 6 * j) ≤ 68719476736 := Nat.le_trans (Nat.pow_le_pow_right (by decide) (by omega : _ ≤ 36)) (by decide)
    rw [← Nat.add_assoc, spec_Number.l1, if_pos (by omega), if_pos (by omega), if_pos (by rw [hlt]; omega), rd_tail l L j (by omega), (hb (1 + j)).1, if_pos (by omega), and_63 _ (hb (1 + j)).2, w64 j (by omega)]
    have e1 : IntKind.u64.wrap ((vals l 1 x0 j : Int) * 64) = (vals l 1 x0 j : Int) * 64 := by rw [IntKind.wrap_u64]; omega
    have e2 : IntKind.u64.wrap ((byteAt l (1 + j) % 64 : Nat) : Int) = ((byteAt l (1 + j) % 64 : Nat) : Int) := u64_small _ (by omega)
    rw [e1, e2, or_six _ _ (by omega)]
    exact l1_good l hb L x0 hL hx hlen x4 k d (j + 1) (by omega) (fun i h1 h2 => hok i (by omega) h2)
theorem l1_bad (l : List Int) (hb : ∀ i, l.getD i 0 = (byteAt l i : Int) ∧ byteAt l i < 256) (L : Nat) (hL : L ≤ 6) (hlen : L + 1 ≤ l.length) (x4 : Int) (k : Nat) :
    ∀ d j (v : Int), j + d = L → ¬ (∀ i, j ≤ i → i < L → 128 ≤ byteAt l (1 + i) ∧ byteAt l (1 + i) < 192) →
      spec_Number.l1 (k + 1 + d) x4 v ((l.take (L + 1)).drop 1) (L : Int) (j : Int) = some (0, 0)
  | 0, j, v, h, hno => absurd (fun i h1 h2 => by omega) hno
  | d + 1, j, v, h, hno => by
    have hlt : ((l.take (L + 1)).drop 1).length = L := by rw [List.length_drop, List.length_take]; omega
    have hc := (hb (1 + j)).2
    rw [← Nat.add_assoc, spec_Number.l1, if_pos (by omega), if_pos (by omega), if_pos (by rw [hlt]; omega), rd_tail l L j (by omega), (hb (1 + j)).1, w64 j (by omega)]
    by_cases hok : 128 ≤ byteAt l (1 + j) ∧ byteAt l (1 + j) < 192
    · rw [if_pos (by omega)]
      refine l1_bad l hb L hL hlen x4 k d (j + 1) _ (by omega) (fun hall => hno fun i h1 h2 => ?_)
      rcases Nat.lt_or_ge j i with h3 | h3
      · exact hall i (by omega) h2
      · obtain rfl : i = j := by omega
        exact hok
    · rw [if_neg (by omega)]

set_option maxHeartbeats 1000000 in
/-- What spec.Number tells. -/
theorem spec_number (l : List Int) (hb : ∀ i, l.getD i 0 = (byteAt l i : Int) ∧ byteAt l i < 256) (hff : 0 < l.length → byteAt l 0 ≠ 255) :
    ∃ v n : Nat, spec_Number.f 30 l = some ((v : Int), (n : Int)) ∧ ((n = 0 ∧ ∀ v' n', ¬ GoodAt l 0 v' n') ∨
      (0 < n ∧ n ≤ l.length ∧ v < 68719476736 ∧ (GoodAt l 0 v n ∨ ∃ L m1 mx, Cls (byteAt l 0) L m1 mx ∧ n = L + 1 ∧ v ≤ mx))) := by
  unfold spec_Number.f
  by_cases h0 : l.length = 0
  · rw [if_pos (by omega)]
    exact ⟨0, 0, rfl, .inl ⟨rfl, fun v n h => by have := h.1; omega⟩⟩
  rw [if_neg (by omega)]
  obtain ⟨c0, hc0⟩ : ∃ c0, byteAt l 0 = c0 := ⟨_, rfl⟩
  have hc := hb 0
  rw [hc0] at hc
  have hr : rd l 0 = (c0 : Int) := by unfold rd; exact hc.1
  have hff2 := hff (by omega)
  rw [hc0] at hff2
  have t0 := leads0 ⟨c0, hc.2⟩ (Nat.zero_le _)
  have t1 := leads1 ⟨c0, hc.2⟩
  simp only at t0 t1
  by_cases hlow : c0 < 128
  · have := l0_lead 29 l c0 0 (by omega) hr hc.2 (by decide) (t0 hlow).1 (t0 hlow).2 0 0 rfl
    rw [show (29 + 1 + 0 : Nat) = 30 from rfl, show ((0 : Nat) : Int) = 0 from rfl] at this
    rw [this, spec_Number.j1, if_pos rfl, if_pos (by omega), hr, u64_small c0 (by omega)]
    refine ⟨c0, 1, rfl, .inr ⟨by decide, by omega, by omega, .inl ⟨by omega, .inl ⟨by rw [hc0]; exact hlow, hc0.symm, rfl⟩⟩⟩⟩
  by_cases hmid : c0 < 192
  · have := l0_lead 28 l c0 1 (by omega) hr hc.2 (by decide) (t1 (by omega) hmid).1 (t1 (by omega) hmid).2 1 0 rfl
    rw [show (28 + 1 + 1 : Nat) = 30 from rfl, show ((0 : Nat) : Int) = 0 from rfl] at this
    rw [this, spec_Number.j1, if_neg (by decide), if_pos (by rfl)]
    refine ⟨0, 0, rfl, .inl ⟨rfl, ?_⟩⟩
    rintro v n ⟨_, ⟨h1, _⟩ | ⟨L, m1, mx, c, _⟩⟩
    · omega
    · rw [hc0] at c; have := c.ge; omega
  · obtain ⟨L, m1, mx, hC⟩ := cls_of (c0 := c0) (by omega) (by omega)
    obtain ⟨f1, f2, f3, f4, f5, f6⟩ := hC.facts
    have hl0 := l0_lead (30 - 1 - (L + 1)) l c0 (L + 1) (by omega) hr hc.2 (by omega) f5 f6 (L + 1) 0 (by omega)
    rw [show 30 - 1 - (L + 1) + 1 + (L + 1) = 30 by omega] at hl0
    rw [show ((0 : Nat) : Int) = 0 from rfl] at hl0
    rw [hl0, show 30 - 1 - (L + 1) = (27 - L) + 1 by omega, spec_Number.j1, if_neg (by omega), if_neg (by omega), if_neg (by omega)]
    by_cases hlen : l.length < L + 1
    · rw [if_pos (by omega)]
      refine ⟨0, 0, rfl, .inl ⟨rfl, ?_⟩⟩
      rintro v n ⟨_, ⟨h1, _⟩ | ⟨L', m1', mx', c, f, _⟩⟩
      · omega
      · rw [hc0] at c
        obtain ⟨rfl, _, _⟩ := hC.same c
        have := f.1; omega
    · have hmask := maskTab ⟨c0, hc.2⟩ ⟨L + 1, by omega⟩
      simp only at hmask
      have hto : ((L + 1 : Nat) : Int).toNat = L + 1 := by omega
      have hlt : ((l.take (L + 1)).drop 1).length = L := by rw [List.length_drop, List.length_take]; omega
      rw [if_neg (by omega), if_pos (by omega), if_pos (by unfold wrap64; omega), if_pos (by omega), if_pos (by omega), hr, hmask, hto, hlt, ← f3]
      have hx : c0 % m1 < 2 ^ (6 - L) := by
        rw [f3, show 7 - (L + 1) = 6 - L by omega]
        exact Nat.mod_lt _ (Nat.two_pow_pos _)
      have hv0 : vals l 1 (c0 % m1) 0 = c0 % m1 := rfl
      by_cases hok : ∀ i, 0 ≤ i → i < L → 128 ≤ byteAt l (1 + i) ∧ byteAt l (1 + i) < 192
      · have hg := l1_good l hb L (c0 % m1) f2 hx (by omega) ((L + 1 : Nat) : Int) (26 - L - L) L 0 (by omega) hok
        rw [hv0, show 26 - L - L + 1 + L = 27 - L by omega, show ((0 : Nat) : Int) = 0 from rfl] at hg
        rw [hg]
        have hvl := vals_lt l 1 (c0 % m1) (6 - L) hx L
        have h36 : 2 ^ (6 - L + 6 * L) ≤ 68719476736 := Nat.le_trans (Nat.pow_le_pow_right (by decide) (by omega : _ ≤ 36)) (by decide)
        refine ⟨_, L + 1, rfl, .inr ⟨by omega, by omega, by omega, ?_⟩⟩
        by_cases hbig : mx < vals l 1 (c0 % m1) L
        · exact .inl ⟨by omega, .inr ⟨L, m1, mx, by rw [hc0]; exact hC, ⟨by omega, fun i hi => hok i (by omega) hi⟩, by rw [hc0]; exact hbig, by rw [hc0], rfl⟩⟩
        · exact .inr ⟨L, m1, mx, by rw [hc0]; exact hC, rfl, by omega⟩
      · have hg := l1_bad l hb L f2 (by omega) ((L + 1 : Nat) : Int) (26 - L - L) L 0 ((c0 % m1 : Nat) : Int) (by omega) hok
        rw [show 26 - L - L + 1 + L = 27 - L by omega, show ((0 : Nat) : Int) = 0 from rfl] at hg
        rw [hg]
        refine ⟨0, 0, rfl, .inl ⟨rfl, ?_⟩⟩
        rintro v n ⟨_, ⟨h1, _⟩ | ⟨L', m1', mx', c, f, _⟩⟩
        · omega
        · rw [hc0] at c
          obtain ⟨rfl, _, _⟩ := hC.same c
          exact hok (fun i _ hi => f.2 i hi)

/-- A number in more bytes than it needs is coded in another number of bytes. -/
theorem over_len {c0 L m1 mx v : Nat} (h : Cls c0 L m1 mx) (hv : v ≤ mx) : (coded v).length ≠ L + 1 := by
  rw [coded_len]
  unfold more
  cases h <;> (repeat' split) <;> omega
theorem spec_number_ff (l : List Int) (h0 : 0 < l.length) (hf : l.getD 0 0 = 255) : spec_Number.f 30 l = some (0, 0) := by
  have hr : rd l 0 = ((255 : Nat) : Int) := hf
  unfold spec_Number.f
  rw [if_neg (by omega)]
  show spec_Number.l0 (29 + 1) l ((0 : Nat) : Int) = _
  rw [l0_step _ l 255 0 h0 hr (by decide) (by decide), if_pos (by decide)]
  show spec_Number.l0 (28 + 1) l ((1 : Nat) : Int) = _
  rw [l0_step _ l 255 1 h0 hr (by decide) (by decide), if_pos (by decide)]
  show spec_Number.l0 (27 + 1) l ((2 : Nat) : Int) = _
  rw [l0_step _ l 255 2 h0 hr (by decide) (by decide), if_pos (by decide)]
  show spec_Number.l0 (26 + 1) l ((3 : Nat) : Int) = _
  rw [l0_step _ l 255 3 h0 hr (by decide) (by decide), if_pos (by decide)]
  show spec_Number.l0 (25 + 1) l ((4 : Nat) : Int) = _
  rw [l0_step _ l 255 4 h0 hr (by decide) (by decide), if_pos (by decide)]
  show spec_Number.l0 (24 + 1) l ((5 : Nat) : Int) = _
  rw [l0_step _ l 255 5 h0 hr (by decide) (by decide), if_pos (by decide)]
  show spec_Number.l0 (23 + 1) l ((6 : Nat) : Int) = _
  rw [l0_step _ l 255 6 h0 hr (by decide) (by decide), if_pos (by decide)]
  show spec_Number.l0 (22 + 1) l ((7 : Nat) : Int) = _
  rw [l0_step _ l 255 7 h0 hr (by decide) (by decide), if_pos (by decide)]
  show spec_Number.l0 (21 + 1) l 8 = _
  rw [spec_Number.l0, if_neg (by decide)]
  show spec_Number.j1 (20 + 1) l 8 = _
  rw [spec_Number.j1, if_neg (by decide), if_neg (by decide), if_pos rfl]
end Go.Proofs.YtcdfbcanebjmfaaDoor.Walk
