/- Contracts that print.sh printed for this claim (spec_Number), cut out and mended in places by wip/pcut.py. -/
import Derived.Test.YtmcllndnjdemaaaGreatDoorPFnEncodex0
namespace Go.Proofs.YtmcllndnjdemaaaGreatDoor.PFnEncode
open Go.RowKit Go.Proofs.YtmcllndnjdemaaaGreatDoorW.PrintWords Go.Proofs.YtmcllndnjdemaaaGreatDoorW.PrintLast Go.Proofs.YtmcllndnjdemaaaGreatDoorW.PrintMore
attribute [local go_sem] max2_int min2_int max_two min_two max_three min_three max_four min_four   -- for this text's walks alone
set_option linter.unusedVariables false
set_option linter.unusedSimpArgs false
mutual
def spec_Number.j1 : Nat → List Int → Int → Option (Int × Int)
 | 0, _, _ => none
 | k + 1, x0, x4 => if x4 = 0 then (if 0 < (x0.length : Int) then (some (IntKind.u64.wrap (rd x0 0), 1)) else (none)) else (if x4 = 1 then (some (0, 0)) else (if x4 = 8 then (some (0, 0)) else (if (x0.length : Int) < x4 then (some (0, 0)) else (if 0 < (x0.length : Int) then (if 0 ≤ (wrap64 (7 - x4)) then (if 1 ≤ x4 then (if x4 ≤ (x0.length : Int) then (spec_Number.l1 k x4 (Go.bits .and .u64 (IntKind.u64.wrap (rd x0 0)) (IntKind.u64.wrap ((shl .u64 1 (wrap64 (7 - x4))) - 1))) ((x0.take (x4 : Int).toNat).drop 1) (((x0.take (x4 : Int).toNat).drop 1).length : Int) 0) else (none)) else (none)) else (none)) else (none)))))
def spec_Number.l1 : Nat → Int → Int → List Int → Int → Int → Option (Int × Int)
 | 0, _, _, _, _, _ => none
 | k + 1, x4, x5, x56, x57, x58 => if x58 < x57 then (if 0 ≤ x58 then (if x58 < (x56.length : Int) then (if ((rd x56 x58) / 64) = 2 then (spec_Number.l1 k x4 (Go.bits .or .u64 (IntKind.u64.wrap (x5 * 64)) (IntKind.u64.wrap (Go.bits .and .u8 (rd x56 x58) 63))) x56 x57 (wrap64 (x58 + 1))) else (some (0, 0))) else (none)) else (none)) else (some (x5, x4))
def spec_Number.l0 : Nat → List Int → Int → Option (Int × Int)
 | 0, _, _ => none
 | k + 1, x0, x4 => if x4 < 8 then (if 0 < (x0.length : Int) then (if 0 ≤ (wrap64 (7 - x4)) then (if (Go.bits .and .u8 (shr .u8 (rd x0 0) (wrap64 (7 - x4))) 1) = 1 then (spec_Number.l0 k x0 (wrap64 (x4 + 1))) else (spec_Number.j1 k x0 x4)) else (none)) else (none)) else (spec_Number.j1 k x0 x4)
end
def spec_Number.f (k : Nat) (l0 : List Int) : Option (Int × Int) := if (l0.length : Int) = 0 then (some (0, 0)) else (spec_Number.l0 k l0 0)
set_option maxHeartbeats 8000000 in
set_option maxRecDepth 100000 in
theorem spec_Number.calls (k : Nat) (A0 : Option Addr) (c0 : Nat) (l0 : List Int) (r1 : Int) (r2 : Int) (w : World) (hr0 : Kd.C (Kd.int .u8) w A0 l0.length l0) (hc0 : l0.length ≤ c0) (h : spec_Number.f k l0 = some (r1, r2)) :
  Calls Tryz.prog 49 #[.slice A0 l0.length c0] w fun e w' => e = .returned (.tuple #[.int .u64 r1, .int .i64 r2]) ∧ Drawn0 w w' := by
 have HR0 := Aside0.mk hr0
 have HC0 := Aside0.mk hc0
 clear hr0 hc0
 have H : (if (l0.length : Int) = 0 then (some (0, 0)) else (spec_Number.l0 k l0 0)) = some (r1, r2) := h
 clear h
 by_cases c2 : (l0.length : Int) = 0
 ·rw [if_pos c2] at H
  have c2b0 : ((l0.length : Int) == 0) = true := beq_iff_eq.mpr c2
  have c2b1 : ((l0.length : Int) != 0) = false := bne_eq_false_iff_eq.mpr c2
  clear c2
  simp only [Option.some.injEq, Prod.mk.injEq] at H
  obtain ⟨rfl, rfl⟩ := H
  go_enter Tryz.func49, Tryz.ntmps49
  go_wp2
  repeat (go_quiet (fail); try go_wp2)
  go_ret2
  exact ⟨by first | rfl | (simp; done) | (simp [*]; done), by repeat (first | exact Drawn0.refl _ | apply Drawn0.step)⟩
 ·rw [if_neg c2] at H
  have c2b0 : ((l0.length : Int) == 0) = false := beq_eq_false_iff_ne.mpr c2
  have c2b1 : ((l0.length : Int) != 0) = true := bne_iff_ne.mpr c2
  have c2b2 : ¬ (l0 = []) := fun h_ => c2 (by rw [h_]; rfl)
  have HC3 := Aside0.mk H
  clear H
  go_enter Tryz.func49, Tryz.ntmps49
  go_upto_block 0 with (fail)
  repeat (go_quiet (fail); go_upto_block 0 with (fail))
  go_cut [4] (fun v4 wc => ∃ (kq : Nat) (x4_2 : Int), v4 = .int .i64 x4_2 ∧ Aside0 (spec_Number.j1 kq l0 x4_2 = some (r1, r2)) ∧ Aside0 (kq ≤ k) ∧ Drawn0 w wc)
  case first =>
   have H := HC3.out
   clear HC3
   have H' := Aside0.mk H
   clear H
   go_wp2
   repeat (go_quiet (fail); try go_wp2)
   go_loopg [4] k (fun kq v4 w' => ∃ (x4_1 : Int), v4 = .int .i64 x4_1 ∧ Aside0 (spec_Number.l0 kq l0 x4_1 = some (r1, r2)) ∧ Aside0 (kq ≤ k) ∧ Drawn0 w w')
   case atStart => exact ⟨(0), (by first | rfl | (simp; done) | (simp [*]; done)), H', ⟨Nat.le_refl _⟩, by repeat (first | exact Drawn0.refl _ | apply Drawn0.step)⟩
   case round =>
    clear H'
    try clear c2
    try clear c2b0
    try clear c2b1
    try clear c2b2
    try clear p2
    obtain ⟨x4_1, rfl, HA, HK1, ⟨m1, rfl⟩⟩ := hrel
    cases gk with
    | zero => exact absurd HA.out (by simp [spec_Number.l0])
    | succ k1 =>
     have H := HA.out
     clear HA
     simp only [spec_Number.l0] at H
     by_cases c4 : x4_1 < 8
     ·rw [if_pos c4] at H
      have c4b0 : decide (x4_1 < 8) = true := decide_eq_true c4
      clear c4
      (first | rw [c4b0] | (simp only [i64_w, i32_w]; rw [c4b0]) | skip)
      by_cases c5 : 0 < (l0.length : Int)
      ·rw [if_pos c5] at H
       have c5b0 : decide (0 < (l0.length : Int)) = true := decide_eq_true c5
       have c5b1 : decide (0 < l0.length) = true := decide_eq_true (by omega)
       clear c5
       obtain ⟨ji6, hji6⟩ : ∃ j_ : Int, (wrap64 (7 - x4_1)) = j_ := ⟨_, rfl⟩
       replace H : (if 0 ≤ (ji6) then (if (Go.bits .and .u8 (shr .u8 (rd l0 0) (ji6)) 1) = 1 then (spec_Number.l0 k1 l0 (wrap64 (x4_1 + 1))) else (spec_Number.j1 k1 l0 x4_1)) else (none)) = some (r1, r2) := by first | (rw [hji6] at H; exact H) | (simp only [hji6] at H ⊢; exact H)
       have hji6w : (IntKind.i64.wrap (7 - x4_1)) = ji6 := (i64_w _).trans hji6
       by_cases c7 : 0 ≤ (ji6)
       ·rw [if_pos c7] at H
        have c7b0 := eq_true c7
        have c7b1 : decide (0 ≤ (ji6)) = true := decide_eq_true c7
        clear c7
        obtain ⟨ji8, hji8⟩ : ∃ j_ : Int, (shr .u8 (rd l0 0) (ji6)) = j_ := ⟨_, rfl⟩
        replace H : (if (Go.bits .and .u8 (ji8) 1) = 1 then (spec_Number.l0 k1 l0 (wrap64 (x4_1 + 1))) else (spec_Number.j1 k1 l0 x4_1)) = some (r1, r2) := by first | (rw [hji8] at H; exact H) | (simp only [hji8] at H ⊢; exact H)
        have hji8_ : ((rd l0 0) / 2 ^ min (ji6).toNat 8) = ji8 := hji8
        have hji8z : (ji6) ≤ 8 → ((rd l0 0) / 2 ^ (ji6).toNat) = ji8 := shr_small hji8
        by_cases c9 : (Go.bits .and .u8 (ji8) 1) = 1
        ·rw [if_pos c9] at H
         have c9b0 : ((Go.bits .and .u8 (ji8) 1) == 1) = true := beq_iff_eq.mpr c9
         have c9b1 : ((Go.bits .and .u8 (ji8) 1) != 1) = false := bne_eq_false_iff_eq.mpr c9
         clear c9
         have H' := Aside0.mk H
         clear H
         have p442 : 0 ≤ (0 : Int) := (by omega)
         have q442 : 0 < (l0.length : Int) := of_decide_eq_true (by first | (with_reducible assumption) | assumption)
         obtain ⟨ad442, e442, hx442_0⟩ := Kd.at_int HR0.out 0 p442 q442
         cases e442
         have qi442 : (0 < l0.length) = True := eq_true (by omega)
         (try rw [show ((0 : Int)).toNat = 0 from rfl] at hx442_0)
         (try rw [Addr.add_zero'] at hx442_0)
         replace p442 := eq_true p442
         replace q442 := eq_true q442
         go_wp2
         repeat (go_quiet (fail); try go_wp2)
         go_roundg k1
         case measure => have := HK1.out; omega
         case rel => exact ⟨(wrap64 (x4_1 + 1)), (by first | rfl | (simp; done) | (simp [*]; done)), H', ⟨by have := HK1.out; omega⟩, by repeat (first | exact Drawn0.refl _ | apply Drawn0.step)⟩
        ·rw [if_neg c9] at H
         have c9b0 : ((Go.bits .and .u8 (ji8) 1) == 1) = false := beq_eq_false_iff_ne.mpr c9
         have c9b1 : ((Go.bits .and .u8 (ji8) 1) != 1) = true := bne_iff_ne.mpr c9
         have H' := Aside0.mk H
         clear H
         have p442 : 0 ≤ (0 : Int) := (by omega)
         have q442 : 0 < (l0.length : Int) := of_decide_eq_true (by first | (with_reducible assumption) | assumption)
         obtain ⟨ad442, e442, hx442_0⟩ := Kd.at_int HR0.out 0 p442 q442
         cases e442
         have qi442 : (0 < l0.length) = True := eq_true (by omega)
         (try rw [show ((0 : Int)).toNat = 0 from rfl] at hx442_0)
         (try rw [Addr.add_zero'] at hx442_0)
         replace p442 := eq_true p442
         replace q442 := eq_true q442
         go_wp2
         repeat (go_quiet (fail); try go_wp2)
         go_meet
         case rel => exact ⟨_, (x4_1), (by first | rfl | (simp; done) | (simp [*]; done)), H', ⟨by have := HK1.out; first | omega | exact Nat.le_refl _⟩, by repeat (first | exact Drawn0.refl _ | apply Drawn0.step)⟩
       ·rw [if_neg c7] at H
        exact absurd H (by simp)
      ·rw [if_neg c5] at H
       exact absurd H (by simp)
     ·rw [if_neg c4] at H
      have c4b0 : decide (x4_1 < 8) = false := decide_eq_false c4
      clear c4
      (first | rw [c4b0] | (simp only [i64_w, i32_w]; rw [c4b0]) | skip)
      have H' := Aside0.mk H
      clear H
      go_wp2
      repeat (go_quiet (fail); try go_wp2)
      go_meet
      case rel => exact ⟨_, (x4_1), (by first | rfl | (simp; done) | (simp [*]; done)), H', ⟨by have := HK1.out; first | omega | exact Nat.le_refl _⟩, by repeat (first | exact Drawn0.refl _ | apply Drawn0.step)⟩
  case rest =>
   clear HC3
   try clear c2
   try clear c2b0
   try clear c2b1
   try clear c2b2
   try clear p2
   try clear c4
   try clear c4b0
   try clear p4
   try clear q4
   try clear hx4
   try clear qi4
   try clear c5
   try clear c5b0
   try clear c5b1
   try clear p6
   try clear c7
   try clear c7b0
   try clear c7b1
   try clear c9
   try clear c9b0
   try clear c9b1
   try clear hx442_0
   try clear p2
   try clear p442
   try clear q442
   obtain ⟨kq, x4_2, rfl, HA, HJ2, ⟨mc2, rfl⟩⟩ := hcut
   cases kq with
   | zero => exact absurd HA.out (by simp [spec_Number.j1])
   | succ kj2 =>
    have H := HA.out
    clear HA
    simp only [spec_Number.j1] at H
    by_cases c10 : x4_2 = 0
    ·rw [if_pos c10] at H
     have c10b0 : (x4_2 == 0) = true := beq_iff_eq.mpr c10
     have c10b1 : (x4_2 != 0) = false := bne_eq_false_iff_eq.mpr c10
     clear c10
     by_cases c11 : 0 < (l0.length : Int)
     ·rw [if_pos c11] at H
      have c11b0 : decide (0 < (l0.length : Int)) = true := decide_eq_true c11
      have c11b1 : decide (0 < l0.length) = true := decide_eq_true (by omega)
      clear c11
      simp only [Option.some.injEq, Prod.mk.injEq] at H
      obtain ⟨rfl, rfl⟩ := H
      have p443 : 0 ≤ (0 : Int) := (by omega)
      have q443 : 0 < (l0.length : Int) := of_decide_eq_true (by first | (with_reducible assumption) | assumption)
      obtain ⟨ad443, e443, hx443_0⟩ := Kd.at_int HR0.out 0 p443 q443
      cases e443
      have qi443 : (0 < l0.length) = True := eq_true (by omega)
      (try rw [show ((0 : Int)).toNat = 0 from rfl] at hx443_0)
      (try rw [Addr.add_zero'] at hx443_0)
      replace p443 := eq_true p443
      replace q443 := eq_true q443
      go_wp2
      repeat (go_quiet (fail); try go_wp2)
      go_ret2
      exact ⟨by first | rfl | (simp; done) | (simp [*]; done), by repeat (first | exact Drawn0.refl _ | apply Drawn0.step)⟩
     ·rw [if_neg c11] at H
      exact absurd H (by simp)
    ·rw [if_neg c10] at H
     have c10b0 : (x4_2 == 0) = false := beq_eq_false_iff_ne.mpr c10
     have c10b1 : (x4_2 != 0) = true := bne_iff_ne.mpr c10
     by_cases c12 : x4_2 = 1
     ·rw [if_pos c12] at H
      have c12b0 : (x4_2 == 1) = true := beq_iff_eq.mpr c12
      have c12b1 : (x4_2 != 1) = false := bne_eq_false_iff_eq.mpr c12
      clear c12
      simp only [Option.some.injEq, Prod.mk.injEq] at H
      obtain ⟨rfl, rfl⟩ := H
      go_wp2
      repeat (go_quiet (fail); try go_wp2)
      go_ret2
      exact ⟨by first | rfl | (simp; done) | (simp [*]; done), by repeat (first | exact Drawn0.refl _ | apply Drawn0.step)⟩
     ·rw [if_neg c12] at H
      have c12b0 : (x4_2 == 1) = false := beq_eq_false_iff_ne.mpr c12
      have c12b1 : (x4_2 != 1) = true := bne_iff_ne.mpr c12
      by_cases c13 : x4_2 = 8
      ·rw [if_pos c13] at H
       have c13b0 : (x4_2 == 8) = true := beq_iff_eq.mpr c13
       have c13b1 : (x4_2 != 8) = false := bne_eq_false_iff_eq.mpr c13
       clear c13
       simp only [Option.some.injEq, Prod.mk.injEq] at H
       obtain ⟨rfl, rfl⟩ := H
       go_wp2
       repeat (go_quiet (fail); try go_wp2)
       go_ret2
       exact ⟨by first | rfl | (simp; done) | (simp [*]; done), by repeat (first | exact Drawn0.refl _ | apply Drawn0.step)⟩
      ·rw [if_neg c13] at H
       have c13b0 : (x4_2 == 8) = false := beq_eq_false_iff_ne.mpr c13
       have c13b1 : (x4_2 != 8) = true := bne_iff_ne.mpr c13
       by_cases c14 : (l0.length : Int) < x4_2
       ·rw [if_pos c14] at H
        have c14b0 : decide ((l0.length : Int) < x4_2) = true := decide_eq_true c14
        clear c14
        simp only [Option.some.injEq, Prod.mk.injEq] at H
        obtain ⟨rfl, rfl⟩ := H
        go_wp2
        repeat (go_quiet (fail); try go_wp2)
        go_ret2
        exact ⟨by first | rfl | (simp; done) | (simp [*]; done), by repeat (first | exact Drawn0.refl _ | apply Drawn0.step)⟩
       ·rw [if_neg c14] at H
        have c14b0 : decide ((l0.length : Int) < x4_2) = false := decide_eq_false c14
        clear c14
        by_cases c15 : 0 < (l0.length : Int)
        ·rw [if_pos c15] at H
         have c15b0 : decide (0 < (l0.length : Int)) = true := decide_eq_true c15
         have c15b1 : decide (0 < l0.length) = true := decide_eq_true (by omega)
         clear c15
         obtain ⟨ji16, hji16⟩ : ∃ j_ : Int, (wrap64 (7 - x4_2)) = j_ := ⟨_, rfl⟩
         replace H : (if 0 ≤ (ji16) then (if 1 ≤ x4_2 then (if x4_2 ≤ (l0.length : Int) then (spec_Number.l1 kj2 x4_2 (Go.bits .and .u64 (IntKind.u64.wrap (rd l0 0)) (IntKind.u64.wrap ((shl .u64 1 (ji16)) - 1))) ((l0.take (x4_2 : Int).toNat).drop 1) (((l0.take (x4_2 : Int).toNat).drop 1).length : Int) 0) else (none)) else (none)) else (none)) = some (r1, r2) := by first | (rw [hji16] at H; exact H) | (simp only [hji16] at H ⊢; exact H)
         have hji16w : (IntKind.i64.wrap (7 - x4_2)) = ji16 := (i64_w _).trans hji16
         by_cases c17 : 0 ≤ (ji16)
         ·rw [if_pos c17] at H
          have c17b0 := eq_true c17
          have c17b1 : decide (0 ≤ (ji16)) = true := decide_eq_true c17
          clear c17
          obtain ⟨ji18, hji18⟩ : ∃ j_ : Int, (shl .u64 1 (ji16)) = j_ := ⟨_, rfl⟩
          replace H : (if 1 ≤ x4_2 then (if x4_2 ≤ (l0.length : Int) then (spec_Number.l1 kj2 x4_2 (Go.bits .and .u64 (IntKind.u64.wrap (rd l0 0)) (IntKind.u64.wrap ((ji18) - 1))) ((l0.take (x4_2 : Int).toNat).drop 1) (((l0.take (x4_2 : Int).toNat).drop 1).length : Int) 0) else (none)) else (none)) = some (r1, r2) := by first | (rw [hji18] at H; exact H) | (simp only [hji18] at H ⊢; exact H)
          have hji18_ : (IntKind.u64.wrap (1 * 2 ^ min (ji16).toNat 64)) = ji18 := hji18
          have hji18z : (ji16) ≤ 64 → (IntKind.u64.wrap (1 * 2 ^ (ji16).toNat)) = ji18 := shl_small hji18
          have hji18u : (IntKind.u64.wrap (2 ^ min (ji16).toNat 64)) = ji18 := by have h_ := hji18_; rw [Int.one_mul] at h_; exact h_
          have hji18v : (ji16) ≤ 64 → (IntKind.u64.wrap (2 ^ (ji16).toNat)) = ji18 := fun hle_ => by have h_ := hji18z hle_; rw [Int.one_mul] at h_; exact h_
          by_cases c19 : 1 ≤ x4_2
          ·rw [if_pos c19] at H
           have c19b0 := eq_true c19
           have c19b1 : decide (1 ≤ x4_2) = true := decide_eq_true c19
           clear c19
           by_cases c20 : x4_2 ≤ (l0.length : Int)
           ·rw [if_pos c20] at H
            have c20b0 := eq_true c20
            have c20b1 : decide (x4_2 ≤ (l0.length : Int)) = true := decide_eq_true c20
            have C20 := Aside0.mk c20b1
            clear c20
            have H' := Aside0.mk H
            clear H
            have p444 : 0 ≤ (0 : Int) := (by omega)
            have q444 : 0 < (l0.length : Int) := of_decide_eq_true (by first | (with_reducible assumption) | assumption)
            obtain ⟨ad444, e444, hx444_0⟩ := Kd.at_int HR0.out 0 p444 q444
            cases e444
            have qi444 : (0 < l0.length) = True := eq_true (by omega)
            (try rw [show ((0 : Int)).toNat = 0 from rfl] at hx444_0)
            (try rw [Addr.add_zero'] at hx444_0)
            replace p444 := eq_true p444
            replace q444 := eq_true q444
            obtain ⟨i021, hi021, _, hsz21, _⟩ := info_parts info5
            obtain ⟨A21, hcut21, hA21, hC21⟩ := print_mid_of (P := Tryz.prog) (Value.int .u8) 0 23 5 .i64 .i64 Tryz.underlying23 hi021 hsz21 (some ad444) c0 l0 1 x4_2 (by omega) (by first | omega | exact of_decide_eq_true (by first | (with_reducible assumption) | assumption)) (of_decide_eq_true (by first | (with_reducible assumption) | assumption)) HC0.out
            have HR445 := Aside0.mk (Kd.C_of_reads (h1 := fun _ => rfl) (hA21 _ (Kd.reads_of_C HR0.out)))
            have HC445 := Aside0.mk hC21
            clear hA21 hC21 hi021 hsz21
            go_wp2
            repeat (go_quiet (fail); try go_wp2)
            go_loopg [5, 58] kj2 (fun kq v5 v58 w' => ∃ (x5_2 : Int) (x58_2 : Int), v5 = .int .u64 x5_2 ∧ v58 = .int .i64 x58_2 ∧ Aside0 (spec_Number.l1 kq x4_2 x5_2 ((l0.take (x4_2 : Int).toNat).drop 1) (((l0.take (x4_2 : Int).toNat).drop 1).length : Int) x58_2 = some (r1, r2)) ∧ Aside0 (kq ≤ kj2) ∧ Drawn0 w w')
            case atStart => exact ⟨(Go.bits .and .u64 (IntKind.u64.wrap (rd l0 0)) (IntKind.u64.wrap ((ji18) - 1))), (0), (by first | rfl | (simp; done) | (simp only [← hji18] <;> (first | rfl | simp)) | (simp [*]; done)), (by first | rfl | (simp; done) | (simp [*]; done)), H', ⟨Nat.le_refl _⟩, by repeat (first | exact Drawn0.refl _ | apply Drawn0.step)⟩
            case round =>
             clear H'
             try clear c1
             try clear c2
             try clear c2b0
             try clear c2b1
             try clear c2b2
             try clear p2
             try clear c4
             try clear c4b0
             try clear p4
             try clear q4
             try clear hx4
             try clear qi4
             try clear c5
             try clear c5b0
             try clear c5b1
             try clear p6
             try clear c7
             try clear c7b0
             try clear c7b1
             try clear c9
             try clear c9b0
             try clear c9b1
             try clear c10
             try clear c10b0
             try clear c10b1
             try clear c11
             try clear c11b0
             try clear c11b1
             try clear c12
             try clear c12b0
             try clear c12b1
             try clear c13
             try clear c13b0
             try clear c13b1
             try clear c14
             try clear c14b0
             try clear c15
             try clear c15b0
             try clear c15b1
             try clear c17
             try clear c17b0
             try clear c17b1
             try clear c19
             try clear c19b0
             try clear c19b1
             try clear c20
             try clear c20b0
             try clear c20b1
             try clear hx442_0
             try clear hx443_0
             try clear hx444_0
             try clear p2
             try clear p4
             try clear p442
             try clear p443
             try clear p444
             try clear p6
             try clear q4
             try clear q442
             try clear q443
             try clear q444
             obtain ⟨x5_2, x58_2, rfl, rfl, HA, HK2, ⟨m2, rfl⟩⟩ := hrel
             cases gk with
             | zero => exact absurd HA.out (by simp [spec_Number.l1])
             | succ k2 =>
              have H := HA.out
              clear HA
              simp only [spec_Number.l1] at H
              by_cases c22 : x58_2 < (((l0.take (x4_2 : Int).toNat).drop 1).length : Int)
              ·rw [if_pos c22] at H
               have c22b0 : decide (x58_2 < (((l0.take (x4_2 : Int).toNat).drop 1).length : Int)) = true := decide_eq_true c22
               have c22n : x58_2 < ((x4_2.toNat - 1 : Nat) : Int) := by have h := of_decide_eq_true c22b0; simp only [List.length_drop, List.length_take] at h; omega
               clear c22
               by_cases c23 : 0 ≤ x58_2
               ·rw [if_pos c23] at H
                have c23b0 : decide (0 ≤ x58_2) = true := decide_eq_true c23
                clear c23
                by_cases c24 : x58_2 < (((l0.take (x4_2 : Int).toNat).drop 1).length : Int)
                ·rw [if_pos c24] at H
                 have c24b0 : decide (x58_2 < (((l0.take (x4_2 : Int).toNat).drop 1).length : Int)) = true := decide_eq_true c24
                 clear c24
                 by_cases c25 : ((rd ((l0.take (x4_2 : Int).toNat).drop 1) x58_2) / 64) = 2
                 ·rw [if_pos c25] at H
                  have c25b0 : (((rd ((l0.take (x4_2 : Int).toNat).drop 1) x58_2) / 64) == 2) = true := beq_iff_eq.mpr c25
                  have c25b1 : (((rd ((l0.take (x4_2 : Int).toNat).drop 1) x58_2) / 64) != 2) = false := bne_eq_false_iff_eq.mpr c25
                  have c25n : ((rd (List.take x4_2.toNat l0).tail x58_2 / 64) != 2) = false := by rw [← List.drop_one]; exact c25b1
                  clear c25
                  have H' := Aside0.mk H
                  clear H
                  have p446 : 0 ≤ (x58_2 : Int) := of_decide_eq_true (by first | (with_reducible assumption) | assumption)
                  have q446 : x58_2 < (((l0.take (x4_2 : Int).toNat).drop 1).length : Int) := of_decide_eq_true (by first | (with_reducible assumption) | assumption)
                  obtain ⟨ad446, e446, hx446_0⟩ := Kd.at_int HR445.out x58_2 p446 q446
                  cases e446
                  replace p446 := eq_true p446
                  replace q446 := eq_true q446
                  go_wp2
                  repeat (go_quiet (fail); try go_wp2)
                  go_roundg k2
                  case measure => have := HJ2.out; have := HK2.out; omega
                  case rel => exact ⟨(Go.bits .or .u64 (IntKind.u64.wrap (x5_2 * 64)) (IntKind.u64.wrap (Go.bits .and .u8 (rd ((l0.take (x4_2 : Int).toNat).drop 1) x58_2) 63))), (wrap64 (x58_2 + 1)), (by first | rfl | (simp; done) | (simp [*]; done)), (by first | rfl | (simp; done) | (simp [*]; done)), H', ⟨by have := HJ2.out; have := HK2.out; omega⟩, by repeat (first | exact Drawn0.refl _ | apply Drawn0.step)⟩
                 ·rw [if_neg c25] at H
                  have c25b0 : (((rd ((l0.take (x4_2 : Int).toNat).drop 1) x58_2) / 64) == 2) = false := beq_eq_false_iff_ne.mpr c25
                  have c25b1 : (((rd ((l0.take (x4_2 : Int).toNat).drop 1) x58_2) / 64) != 2) = true := bne_iff_ne.mpr c25
                  have c25n : ((rd (List.take x4_2.toNat l0).tail x58_2 / 64) != 2) = true := by rw [← List.drop_one]; exact c25b1
                  simp only [Option.some.injEq, Prod.mk.injEq] at H
                  obtain ⟨rfl, rfl⟩ := H
                  have p446 : 0 ≤ (x58_2 : Int) := of_decide_eq_true (by first | (with_reducible assumption) | assumption)
                  have q446 : x58_2 < (((l0.take (x4_2 : Int).toNat).drop 1).length : Int) := of_decide_eq_true (by first | (with_reducible assumption) | assumption)
                  obtain ⟨ad446, e446, hx446_0⟩ := Kd.at_int HR445.out x58_2 p446 q446
                  cases e446
                  replace p446 := eq_true p446
                  replace q446 := eq_true q446
                  go_wp2
                  repeat (go_quiet (fail); try go_wp2)
                  go_ret2
                  exact ⟨by first | rfl | (simp; done) | (simp only [← hji16, ← hji18] <;> (first | rfl | simp)) | (simp [*]; done), by repeat (first | exact Drawn0.refl _ | apply Drawn0.step)⟩
                ·rw [if_neg c24] at H
                 exact absurd H (by simp)
               ·rw [if_neg c23] at H
                exact absurd H (by simp)
              ·rw [if_neg c22] at H
               have c22b0 : decide (x58_2 < (((l0.take (x4_2 : Int).toNat).drop 1).length : Int)) = false := decide_eq_false c22
               have c22n : ¬ x58_2 < ((x4_2.toNat - 1 : Nat) : Int) := by have h := of_decide_eq_false c22b0; have h2 := of_decide_eq_true C20.out; simp only [List.length_drop, List.length_take] at h; omega
               clear c22
               simp only [Option.some.injEq, Prod.mk.injEq] at H
               obtain ⟨rfl, rfl⟩ := H
               go_wp2
               repeat (go_quiet (fail); try go_wp2)
               go_ret2
               exact ⟨by first | rfl | (simp; done) | (simp only [← hji16, ← hji18] <;> (first | rfl | simp)) | (simp [*]; done), by repeat (first | exact Drawn0.refl _ | apply Drawn0.step)⟩
           ·rw [if_neg c20] at H
            exact absurd H (by simp)
          ·rw [if_neg c19] at H
           exact absurd H (by simp)
         ·rw [if_neg c17] at H
          exact absurd H (by simp)
        ·rw [if_neg c15] at H
         exact absurd H (by simp)
end Go.Proofs.YtmcllndnjdemaaaGreatDoor.PFnEncode
