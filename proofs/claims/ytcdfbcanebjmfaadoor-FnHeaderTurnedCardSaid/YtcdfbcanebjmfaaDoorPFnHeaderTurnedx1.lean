-- PRINTED BY print.sh 35421559b90ae4d0a3588c463048766b98c2df88dd9212a6774a882060cdf62d: not written by this session
import Derived.Test.YtcdfbcanebjmfaaDoorPFnHeaderTurnedx0
namespace Go.Proofs.YtcdfbcanebjmfaaDoor.PFnHeaderTurned
open Go.RowKit Go.Proofs.YtcdfbcanebjmfaaDoorW.PrintWords Go.Proofs.YtcdfbcanebjmfaaDoorW.PrintLast Go.Proofs.YtcdfbcanebjmfaaDoorW.PrintMore
attribute [local go_sem] max2_int min2_int max_two min_two max_three min_three max_four min_four   -- for this text's walks alone
set_option linter.unusedVariables false
set_option linter.unusedSimpArgs false

-- NOT PRINTED: function 8 (spec_writer_word)

/-! ### spec_sizeOf: function 9 -/
def spec_sizeOf.f (a0 : Int) : Option (Int) := if a0 = 1 then (some 192) else (if a0 < 6 then (if 0 ≤ a0 then (some (shl .i64 144 a0)) else (none)) else (if a0 < 8 then (some 0) else (if 0 ≤ a0 then (some (shl .i64 1 a0)) else (none))))
set_option maxHeartbeats 8000000 in
set_option maxRecDepth 100000 in
theorem spec_sizeOf.calls (a0 : Int) (r : Int) (w : World) (h : spec_sizeOf.f a0 = some r) :
    Calls Tryd.prog 9 #[.int .i64 a0] w fun e w' => e = .returned (.int .i64 r) ∧ Drawn0 w w' := by
  have H : (if a0 = 1 then (some 192) else (if a0 < 6 then (if 0 ≤ a0 then (some (shl .i64 144 a0)) else (none)) else (if a0 < 8 then (some 0) else (if 0 ≤ a0 then (some (shl .i64 1 a0)) else (none))))) = some r := h
  clear h
  by_cases c2 : a0 = 1
  · rw [if_pos c2] at H
    have c2b0 : (a0 == 1) = true := beq_iff_eq.mpr c2
    have c2b1 : (a0 != 1) = false := bne_eq_false_iff_eq.mpr c2
    clear c2
    obtain rfl := Option.some.inj H
    go_enter Tryd.func9, Tryd.ntmps9
    go_wp2
    go_ret
    exact ⟨by first | rfl | (simp; done) | (simp [*]; done), by repeat (first | exact Drawn0.refl _ | apply Drawn0.step)⟩
  · rw [if_neg c2] at H
    have c2b0 : (a0 == 1) = false := beq_eq_false_iff_ne.mpr c2
    have c2b1 : (a0 != 1) = true := bne_iff_ne.mpr c2
    by_cases c3 : a0 < 6
    · rw [if_pos c3] at H
      have c3b0 : decide (a0 < 6) = true := decide_eq_true c3
      clear c3
      by_cases c4 : 0 ≤ a0
      · rw [if_pos c4] at H
        have c4b0 := eq_true c4
        have c4b1 : decide (0 ≤ a0) = true := decide_eq_true c4
        clear c4
        obtain ⟨ji5, hji5⟩ : ∃ j_ : Int, (shl .i64 144 a0) = j_ := ⟨_, rfl⟩
        replace H : (some ji5) = some r := by first | (rw [hji5] at H; exact H) | (simp only [hji5] at H ⊢; exact H)
        have hji5_ : (IntKind.i64.wrap (144 * 2 ^ min a0.toNat 64)) = ji5 := hji5
        have hji5z : a0 ≤ 64 → (IntKind.i64.wrap (144 * 2 ^ a0.toNat)) = ji5 := shl_small hji5
        have hji5y : (wrap64 (144 * 2 ^ min a0.toNat 64)) = ji5 := (i64_w _).symm.trans hji5_
        have hji5x : a0 ≤ 64 → (wrap64 (144 * 2 ^ a0.toNat)) = ji5 := fun h_ => (i64_w _).symm.trans (hji5z h_)
        obtain rfl := Option.some.inj H
        go_enter Tryd.func9, Tryd.ntmps9
        go_wp2
        go_ret
        exact ⟨by first | rfl | (simp; done) | (simp only [← hji5] <;> (first | rfl | simp)) | (simp [*]; done), by repeat (first | exact Drawn0.refl _ | apply Drawn0.step)⟩
      · rw [if_neg c4] at H
        exact absurd H (by simp)
    · rw [if_neg c3] at H
      have c3b0 : decide (a0 < 6) = false := decide_eq_false c3
      clear c3
      by_cases c6 : a0 < 8
      · rw [if_pos c6] at H
        have c6b0 : decide (a0 < 8) = true := decide_eq_true c6
        clear c6
        obtain rfl := Option.some.inj H
        go_enter Tryd.func9, Tryd.ntmps9
        go_wp2
        go_ret
        exact ⟨by first | rfl | (simp; done) | (simp [*]; done), by repeat (first | exact Drawn0.refl _ | apply Drawn0.step)⟩
      · rw [if_neg c6] at H
        have c6b0 : decide (a0 < 8) = false := decide_eq_false c6
        clear c6
        by_cases c7 : 0 ≤ a0
        · rw [if_pos c7] at H
          have c7b0 := eq_true c7
          have c7b1 : decide (0 ≤ a0) = true := decide_eq_true c7
          clear c7
          obtain ⟨ji8, hji8⟩ : ∃ j_ : Int, (shl .i64 1 a0) = j_ := ⟨_, rfl⟩
          replace H : (some ji8) = some r := by first | (rw [hji8] at H; exact H) | (simp only [hji8] at H ⊢; exact H)
          have hji8_ : (IntKind.i64.wrap (1 * 2 ^ min a0.toNat 64)) = ji8 := hji8
          have hji8z : a0 ≤ 64 → (IntKind.i64.wrap (1 * 2 ^ a0.toNat)) = ji8 := shl_small hji8
          have hji8u : (IntKind.i64.wrap (2 ^ min a0.toNat 64)) = ji8 := by have h_ := hji8_; rw [Int.one_mul] at h_; exact h_
          have hji8v : a0 ≤ 64 → (IntKind.i64.wrap (2 ^ a0.toNat)) = ji8 := fun hle_ => by have h_ := hji8z hle_; rw [Int.one_mul] at h_; exact h_
          have hji8y : (wrap64 (1 * 2 ^ min a0.toNat 64)) = ji8 := (i64_w _).symm.trans hji8_
          have hji8x : a0 ≤ 64 → (wrap64 (1 * 2 ^ a0.toNat)) = ji8 := fun h_ => (i64_w _).symm.trans (hji8z h_)
          obtain rfl := Option.some.inj H
          go_enter Tryd.func9, Tryd.ntmps9
          go_wp2
          go_ret
          exact ⟨by first | rfl | (simp; done) | (simp only [← hji8] <;> (first | rfl | simp)) | (simp [*]; done), by repeat (first | exact Drawn0.refl _ | apply Drawn0.step)⟩
        · rw [if_neg c7] at H
          exact absurd H (by simp)

/-! ### spec_rates: function 10 -/
def spec_rates.f  : Option (List Int) := some (([0, 88200, 176400, 192000, 8000, 16000, 22050, 24000, 32000, 44100, 48000, 96000] : List Int))
set_option maxHeartbeats 8000000 in
set_option maxRecDepth 100000 in
theorem spec_rates.calls  (r : List Int) (w : World) (h : spec_rates.f  = some r) :
    Calls Tryd.prog 10 #[] w fun e w' => ∃ v0_ : Value, e = .returned (v0_) ∧ Kd.R (Kd.int .i64) 3 w' w.heap.size (fun _ => True) v0_ r ∧ Below w.heap.size w w' := by
  have HB := Aside0.mk (Below.refl w.heap.size w)
  have H : (some (([0, 88200, 176400, 192000, 8000, 16000, 22050, 24000, 32000, 44100, 48000, 96000] : List Int))) = some r := h
  clear h
  obtain ⟨y101, hy101⟩ : ∃ y_ : List Int, y_ = (([0, 88200, 176400, 192000, 8000, 16000, 22050, 24000, 32000, 44100, 48000, 96000] : List Int)) := ⟨_, rfl⟩
  replace H : (some y101) = some r := by first | (rw [hy101]; with_reducible exact H) | (have H2_ := (Option.bind_some _ _).symm.trans H; rw [hy101]; with_reducible exact H2_) | (have H2_ := (Option.bind_some _ _).symm.trans H; with_reducible exact H2_) | with_reducible exact H | (rw [hy101]; exact H) | exact H
  have Ny101 := Aside0.mk hy101
  clear hy101
  obtain rfl := Option.some.inj H
  go_enter Tryd.func10, Tryd.ntmps10
  go_wp2_with (first | ((with_reducible refine gate_dst (N := 1) rfl ?_); refine Kd.R_lit (Kd.int .i64) _ 3 ?hg (N := 1) ?hd (xs := ([0, 88200, 176400, 192000, 8000, 16000, 22050, 24000, 32000, 44100, 48000, 96000] : List Int)) (inner := [.int .i64 0, .int .i64 88200, .int .i64 176400, .int .i64 192000, .int .i64 8000, .int .i64 16000, .int .i64 22050, .int .i64 24000, .int .i64 32000, .int .i64 44100, .int .i64 48000, .int .i64 96000]) (ok := fun _ => True) (okp := fun _ => True) ?hr ?hp (fun _ hk => hk) trivial (Below.refl _ _) (Nat.le_refl _) (by simp) ?_; (case hd => rfl); (case hg => rfl); (case hr => first | (go_simp; done) | (go_simp; rfl)); (case hp => exact (Reps.one (show Kd.M (Kd.int .i64) _ _ _ 0 [.int .i64 0] from rfl) (Reps.one (show Kd.M (Kd.int .i64) _ _ _ 88200 [.int .i64 88200] from rfl) (Reps.one (show Kd.M (Kd.int .i64) _ _ _ 176400 [.int .i64 176400] from rfl) (Reps.one (show Kd.M (Kd.int .i64) _ _ _ 192000 [.int .i64 192000] from rfl) (Reps.one (show Kd.M (Kd.int .i64) _ _ _ 8000 [.int .i64 8000] from rfl) (Reps.one (show Kd.M (Kd.int .i64) _ _ _ 16000 [.int .i64 16000] from rfl) (Reps.one (show Kd.M (Kd.int .i64) _ _ _ 22050 [.int .i64 22050] from rfl) (Reps.one (show Kd.M (Kd.int .i64) _ _ _ 24000 [.int .i64 24000] from rfl) (Reps.one (show Kd.M (Kd.int .i64) _ _ _ 32000 [.int .i64 32000] from rfl) (Reps.one (show Kd.M (Kd.int .i64) _ _ _ 44100 [.int .i64 44100] from rfl) (Reps.one (show Kd.M (Kd.int .i64) _ _ _ 48000 [.int .i64 48000] from rfl) (Reps.one (show Kd.M (Kd.int .i64) _ _ _ 96000 [.int .i64 96000] from rfl) (Reps.none _ _)))))))))))))); intro v102 w1 ho2 hb hg_ hnew_; clear hg_ hnew_; (first | rw [← Ny101.out] at ho2 | (simp only [Int.reduceToNat] at ho2; rw [← Ny101.out] at ho2)); have n0_ := Aside0.mk (Kd.R_lower ho2 (below_size (by repeat (first | (with_reducible first | exact HB.out | apply below_alloc | apply pw_below_drewN | apply below_drew1) | exact HB.out)))); have n1_ := Aside0.mk (below_step (by repeat (first | (with_reducible first | exact HB.out | apply below_alloc | apply pw_below_drewN | apply below_drew1) | exact HB.out)) hb); clear HB; have HO103 := n0_; have HB := n1_; clear n0_ n1_; clear hb ho2))
  go_ret
  exact ⟨_, by first | rfl | (simp [errW_none, errW_some] <;> rfl) | (simp [*, errW_none, errW_some] <;> rfl), by (with_reducible repeat (first | apply Kd.R_alloc | apply Kd.R_drewN | apply Kd.R_drew)); exact HO103.out, by repeat (first | (with_reducible first | exact HB.out | apply below_alloc | apply pw_below_drewN | apply below_drew1) | exact HB.out)⟩

/-! ### spec_Coded: function 11 -/
mutual
def spec_Coded.l0 : Nat → Int → Int → Option (List Int)
  | 0, _, _ => none
  | k + 1, x0, x3 => if 0 ≤ (wrap64 ((wrap64 (5 * x3)) + 1)) then (if (shr .u64 x0 (wrap64 ((wrap64 (5 * x3)) + 1))) > 0 then (spec_Coded.l0 k x0 (wrap64 (x3 + 1))) else (spec_Coded.l1 k x0 x3 (([] : List Int)) (wrap64 (x3 - 1)) 0)) else (none)
def spec_Coded.l1 : Nat → Int → Int → List Int → Int → Int → Option (List Int)
  | 0, _, _, _, _, _ => none
  | k + 1, x0, x3, x4, x20, x21 => if x21 < x20 then ((some (([(Go.bits .or .u64 128 (Go.bits .and .u64 x0 63)) % 256] : List Int) : List Int)).bind fun y110 => (if y110.length + x4.length < 140737488355328 then (spec_Coded.l1 k (x0 / 64) x3 (y110 ++ x4) x20 (wrap64 (x21 + 1))) else (none))) else (if 0 ≤ x3 then ((some (([Go.bits .or .u8 ((Go.bits .and .u64 (shr .u64 65280 x3) 255) % 256) ((x0) % 256)] : List Int) : List Int)).bind fun y116 => (if y116.length + x4.length < 140737488355328 then (some (y116 ++ x4)) else (none))) else (none))
end
def spec_Coded.f (k : Nat) (a0 : Int) : Option (List Int) := if a0 < 128 then (some (([(a0) % 256] : List Int))) else (spec_Coded.l0 k a0 2)
theorem spec_Coded.mono_l : ∀ k, (∀ y0 y1, LeO (spec_Coded.l0 k y0 y1) (spec_Coded.l0 (k + 1) y0 y1)) ∧ (∀ y0 y1 y2 y3 y4, LeO (spec_Coded.l1 k y0 y1 y2 y3 y4) (spec_Coded.l1 (k + 1) y0 y1 y2 y3 y4))
  | 0 => ⟨fun _ _ r h => by simp [spec_Coded.l0] at h, fun _ _ _ _ _ r h => by simp [spec_Coded.l1] at h⟩
  | k + 1 => by
    obtain ⟨ih0, ih1⟩ := spec_Coded.mono_l k
    refine ⟨?_, ?_⟩
    · intro y0 y1
      unfold spec_Coded.l0
      repeat' first
      | (with_reducible exact ih0 _ _)
      | (with_reducible exact ih1 _ _ _ _ _)
      | (with_reducible exact LeO.refl _)
      | (with_reducible exact LeO.none _)
      | (with_reducible refine LeO.ite ?_ ?_)
      | (with_reducible refine LeO.bind ?_ (fun _ => ?_))
      | exact ih0 _ _
      | exact ih1 _ _ _ _ _
      | exact LeO.none _
      | refine LeO.ite ?_ ?_
      | refine LeO.bind ?_ (fun _ => ?_)
    · intro y0 y1 y2 y3 y4
      unfold spec_Coded.l1
      repeat' first
      | (with_reducible exact ih0 _ _)
      | (with_reducible exact ih1 _ _ _ _ _)
      | (with_reducible exact LeO.refl _)
      | (with_reducible exact LeO.none _)
      | (with_reducible refine LeO.ite ?_ ?_)
      | (with_reducible refine LeO.bind ?_ (fun _ => ?_))
      | exact ih0 _ _
      | exact ih1 _ _ _ _ _
      | exact LeO.none _
      | refine LeO.ite ?_ ?_
      | refine LeO.bind ?_ (fun _ => ?_)
theorem spec_Coded.mono : ∀ a0 k, LeO (spec_Coded.f k a0) (spec_Coded.f (k + 1) a0) := by
  intro a0 k
  obtain ⟨ih0, ih1⟩ := spec_Coded.mono_l k
  unfold spec_Coded.f
  repeat' first
      | (with_reducible exact ih0 _ _)
      | (with_reducible exact ih1 _ _ _ _ _)
      | (with_reducible exact LeO.refl _)
      | (with_reducible exact LeO.none _)
      | (with_reducible refine LeO.ite ?_ ?_)
      | (with_reducible refine LeO.bind ?_ (fun _ => ?_))
      | exact ih0 _ _
      | exact ih1 _ _ _ _ _
      | exact LeO.none _
      | refine LeO.ite ?_ ?_
      | refine LeO.bind ?_ (fun _ => ?_)
set_option maxHeartbeats 8000000 in
set_option maxRecDepth 100000 in
theorem spec_Coded.calls (k : Nat) (a0 : Int) (r : List Int) (w : World) (h : spec_Coded.f k a0 = some r) :
    Calls Tryd.prog 11 #[.int .u64 a0] w fun e w' => ∃ v0_ : Value, e = .returned (v0_) ∧ Kd.R (Kd.int .u8) 5 w' w.heap.size (fun _ => True) v0_ r ∧ Below w.heap.size w w' := by
  have HB := Aside0.mk (Below.refl w.heap.size w)
  have H : (if a0 < 128 then (some (([(a0) % 256] : List Int))) else (spec_Coded.l0 k a0 2)) = some r := h
  clear h
  by_cases c2 : a0 < 128
  · rw [if_pos c2] at H
    have c2b0 : decide (a0 < 128) = true := decide_eq_true c2
    clear c2
    obtain ⟨y104, hy104⟩ : ∃ y_ : List Int, y_ = (([(a0) % 256] : List Int)) := ⟨_, rfl⟩
    replace H : (some y104) = some r := by first | (rw [hy104]; with_reducible exact H) | (have H2_ := (Option.bind_some _ _).symm.trans H; rw [hy104]; with_reducible exact H2_) | (have H2_ := (Option.bind_some _ _).symm.trans H; with_reducible exact H2_) | with_reducible exact H | (rw [hy104]; exact H) | exact H
    have Ny104 := Aside0.mk hy104
    clear hy104
    obtain rfl := Option.some.inj H
    go_enter Tryd.func11, Tryd.ntmps11
    go_wp2_with (first | ((with_reducible refine gate_dst (N := 9) rfl ?_); refine Kd.R_lit (Kd.int .u8) _ 5 ?hg (N := 9) ?hd (xs := ([(a0) % 256] : List Int)) (inner := [.int .u8 ((a0) % 256)]) (ok := fun _ => True) (okp := fun _ => True) ?hr ?hp (fun _ hk => hk) trivial (Below.refl _ _) (Nat.le_refl _) (by simp) ?_; (case hd => rfl); (case hg => rfl); (case hr => first | (go_simp; done) | (go_simp; rfl)); (case hp => exact (Reps.one (show Kd.M (Kd.int .u8) _ _ _ ((a0) % 256) [.int .u8 ((a0) % 256)] from rfl) (Reps.none _ _))); intro v105 w3 ho4 hb hg_ hnew_; clear hg_ hnew_; (first | rw [← Ny104.out] at ho4 | (simp only [Int.reduceToNat] at ho4; rw [← Ny104.out] at ho4)); have n0_ := Aside0.mk (Kd.R_lower ho4 (below_size (by repeat (first | (with_reducible first | exact HB.out | apply below_alloc | apply pw_below_drewN | apply below_drew1) | exact HB.out)))); have n1_ := Aside0.mk (below_step (by repeat (first | (with_reducible first | exact HB.out | apply below_alloc | apply pw_below_drewN | apply below_drew1) | exact HB.out)) hb); clear HB; have HO106 := n0_; have HB := n1_; clear n0_ n1_; clear hb ho4))
    go_ret
    exact ⟨_, by first | rfl | (simp [errW_none, errW_some] <;> rfl) | (simp [*, errW_none, errW_some] <;> rfl), by (with_reducible repeat (first | apply Kd.R_alloc | apply Kd.R_drewN | apply Kd.R_drew)); exact HO106.out, by repeat (first | (with_reducible first | exact HB.out | apply below_alloc | apply pw_below_drewN | apply below_drew1) | exact HB.out)⟩
  · rw [if_neg c2] at H
    have c2b0 : decide (a0 < 128) = false := decide_eq_false c2
    clear c2
    have H' := Aside0.mk H
    clear H
    go_enter Tryd.func11, Tryd.ntmps11
    go_wp2
    go_loopg [3] k (fun kq v3 w' => ∃ (x3_1 : Int), v3 = .int .i64 x3_1 ∧ Aside0 (spec_Coded.l0 kq a0 x3_1 = some r) ∧ Aside0 (kq ≤ k) ∧ Aside0 (Below w.heap.size w w'))
    case atStart => exact ⟨(2), (by first | rfl | (simp; done) | (simp [*]; done)), H', ⟨Nat.le_refl _⟩, ⟨by repeat (first | (with_reducible first | exact HB.out | apply below_alloc | apply pw_below_drewN | apply below_drew1) | exact HB.out)⟩⟩
    case round =>
      clear H'
      try clear c1
      try clear c2
      try clear c2b0
      try clear p2
      obtain ⟨x3_1, rfl, HA, HK1, HB⟩ := hrel
      cases gk with
      | zero => exact absurd HA.out (by simp [spec_Coded.l0])
      | succ k1 =>
        have H := HA.out
        clear HA
        simp only [spec_Coded.l0] at H
        obtain ⟨ji5, hji5⟩ : ∃ j_ : Int, (wrap64 ((wrap64 (5 * x3_1)) + 1)) = j_ := ⟨_, rfl⟩
        replace H : (if 0 ≤ (ji5) then (if (shr .u64 a0 (ji5)) > 0 then (spec_Coded.l0 k1 a0 (wrap64 (x3_1 + 1))) else (spec_Coded.l1 k1 a0 x3_1 (([] : List Int)) (wrap64 (x3_1 - 1)) 0)) else (none)) = some r := by first | (rw [hji5] at H; exact H) | (simp only [hji5] at H ⊢; exact H)
        have hji5w : (IntKind.i64.wrap ((wrap64 (5 * x3_1)) + 1)) = ji5 := (i64_w _).trans hji5
        by_cases c6 : 0 ≤ (ji5)
        · rw [if_pos c6] at H
          have c6b0 := eq_true c6
          have c6b1 : decide (0 ≤ (ji5)) = true := decide_eq_true c6
          clear c6
          obtain ⟨ji7, hji7⟩ : ∃ j_ : Int, (shr .u64 a0 (ji5)) = j_ := ⟨_, rfl⟩
          replace H : (if (ji7) > 0 then (spec_Coded.l0 k1 a0 (wrap64 (x3_1 + 1))) else (spec_Coded.l1 k1 a0 x3_1 (([] : List Int)) (wrap64 (x3_1 - 1)) 0)) = some r := by first | (rw [hji7] at H; exact H) | (simp only [hji7] at H ⊢; exact H)
          have hji7_ : (a0 / 2 ^ min (ji5).toNat 64) = ji7 := hji7
          have hji7z : (ji5) ≤ 64 → (a0 / 2 ^ (ji5).toNat) = ji7 := shr_small hji7
          by_cases c8 : (ji7) > 0
          · rw [if_pos c8] at H
            have c8b0 : decide (0 < (ji7)) = true := decide_eq_true c8
            clear c8
            have H' := Aside0.mk H
            clear H
            go_wp2
            go_roundg k1
            case measure => have := HK1.out; omega
            case rel => exact ⟨(wrap64 (x3_1 + 1)), (by first | rfl | (simp; done) | (simp [*]; done)), H', ⟨by have := HK1.out; omega⟩, ⟨by repeat (first | (with_reducible first | exact HB.out | apply below_alloc | apply pw_below_drewN | apply below_drew1) | exact HB.out)⟩⟩
          · rw [if_neg c8] at H
            have c8b0 : decide (0 < (ji7)) = false := decide_eq_false c8
            clear c8
            obtain ⟨y107, hy107⟩ : ∃ y_ : List Int, y_ = (([] : List Int)) := ⟨_, rfl⟩
            replace H : (spec_Coded.l1 k1 a0 x3_1 y107 (wrap64 (x3_1 - 1)) 0) = some r := by first | (rw [hy107]; with_reducible exact H) | (have H2_ := (Option.bind_some _ _).symm.trans H; rw [hy107]; with_reducible exact H2_) | (have H2_ := (Option.bind_some _ _).symm.trans H; with_reducible exact H2_) | with_reducible exact H | (rw [hy107]; exact H) | exact H
            have Ny107 := Aside0.mk hy107
            clear hy107
            have H' := Aside0.mk H
            clear H
            go_wp2_with (first | ((with_reducible refine gate_dst (N := 18) rfl ?_); refine Kd.R_lit (Kd.int .u8) _ 5 ?hg (N := 18) ?hd (xs := ([] : List Int)) (inner := []) (ok := fun _ => True) (okp := fun _ => True) ?hr ?hp (fun _ hk => hk) trivial (Below.refl _ _) (Nat.le_refl _) (by simp) ?_; (case hd => rfl); (case hg => rfl); (case hr => first | (go_simp; done) | (go_simp; rfl)); (case hp => exact (Reps.none _ _)); intro v108 w9 ho10 hb hg_ hnew_; clear hg_ hnew_; (first | rw [← Ny107.out] at ho10 | (simp only [Int.reduceToNat] at ho10; rw [← Ny107.out] at ho10)); have n0_ := Aside0.mk (Kd.R_lower ho10 (below_size (by repeat (first | (with_reducible first | exact HB.out | apply below_alloc | apply pw_below_drewN | apply below_drew1) | exact HB.out)))); have n1_ := Aside0.mk (below_step (by repeat (first | (with_reducible first | exact HB.out | apply below_alloc | apply pw_below_drewN | apply below_drew1) | exact HB.out)) hb); clear HB; have HO109 := n0_; have HB := n1_; clear n0_ n1_; clear hb ho10))
            go_loopg [0, 4, 21] k1 (fun kq v0 v4 v21 w' => ∃ (x0_2 : Int) (x4_2 : List Int) (x21_2 : Int), v0 = .int .u64 x0_2 ∧ v21 = .int .i64 x21_2 ∧ Aside0 (spec_Coded.l1 kq x0_2 x3_1 x4_2 (wrap64 (x3_1 - 1)) x21_2 = some r) ∧ Aside0 (kq ≤ k1) ∧ Aside0 (Kd.R (Kd.int .u8) 5 w' w.heap.size (fun _ => True) v4 x4_2) ∧ Aside0 (Below w.heap.size w w'))
            case atStart => exact ⟨(a0), (y107), (0), (by first | rfl | (simp; done) | (simp [*]; done)), (by first | rfl | (simp; done) | (simp [*]; done)), H', ⟨Nat.le_refl _⟩, ⟨by (with_reducible repeat (first | apply Kd.R_alloc | apply Kd.R_drewN | apply Kd.R_drew)); exact HO109.out⟩, ⟨by repeat (first | (with_reducible first | exact HB.out | apply below_alloc | apply pw_below_drewN | apply below_drew1) | exact HB.out)⟩⟩
            case round =>
              clear H'
              try clear c1
              try clear c2
              try clear c2b0
              try clear p2
              try clear c6
              try clear c6b0
              try clear c6b1
              try clear p6
              try clear c8
              try clear c8b0
              try clear p2
              obtain ⟨x0_2, x4_2, x21_2, rfl, rfl, HA, HK2, HO_4, HB⟩ := hrel
              cases gk with
              | zero => exact absurd HA.out (by simp [spec_Coded.l1])
              | succ k2 =>
                have H := HA.out
                clear HA
                simp only [spec_Coded.l1] at H
                by_cases c11 : x21_2 < (wrap64 (x3_1 - 1))
                · rw [if_pos c11] at H
                  have c11b0 : decide (x21_2 < (wrap64 (x3_1 - 1))) = true := decide_eq_true c11
                  clear c11
                  obtain ⟨y110, hy110⟩ : ∃ y_ : List Int, y_ = (([(Go.bits .or .u64 128 (Go.bits .and .u64 x0_2 63)) % 256] : List Int)) := ⟨_, rfl⟩
                  replace H : (if y110.length + x4_2.length < 140737488355328 then (spec_Coded.l1 k2 (x0_2 / 64) x3_1 (y110 ++ x4_2) (wrap64 (x3_1 - 1)) (wrap64 (x21_2 + 1))) else (none)) = some r := by first | (rw [hy110]; with_reducible exact H) | (have H2_ := (Option.bind_some _ _).symm.trans H; rw [hy110]; with_reducible exact H2_) | (have H2_ := (Option.bind_some _ _).symm.trans H; with_reducible exact H2_) | with_reducible exact H | (rw [hy110]; exact H) | exact H
                  have Ny110 := Aside0.mk hy110
                  clear hy110
                  by_cases c12 : y110.length + x4_2.length < 140737488355328
                  · rw [if_pos c12] at H
                    have LMc12 := Aside0.mk c12
                    clear c12
                    obtain ⟨y113, hy113⟩ : ∃ y_ : List Int, y_ = (y110 ++ x4_2) := ⟨_, rfl⟩
                    replace H : (spec_Coded.l1 k2 (x0_2 / 64) x3_1 y113 (wrap64 (x3_1 - 1)) (wrap64 (x21_2 + 1))) = some r := by first | (rw [hy113]; with_reducible exact H) | (have H2_ := (Option.bind_some _ _).symm.trans H; rw [hy113]; with_reducible exact H2_) | (have H2_ := (Option.bind_some _ _).symm.trans H; with_reducible exact H2_) | with_reducible exact H | (rw [hy113]; exact H) | exact H
                    have Ny113 := Aside0.mk hy113
                    clear hy113
                    have H' := Aside0.mk H
                    clear H
                    go_wp2_with (first | ((with_reducible refine gate_dst (N := 27) rfl ?_); refine Kd.R_lit (Kd.int .u8) _ 5 ?hg (N := 27) ?hd (xs := ([(Go.bits .or .u64 128 (Go.bits .and .u64 x0_2 63)) % 256] : List Int)) (inner := [.int .u8 ((Go.bits .or .u64 128 (Go.bits .and .u64 x0_2 63)) % 256)]) (ok := fun _ => True) (okp := fun _ => True) ?hr ?hp (fun _ hk => hk) trivial (Below.refl _ _) (Nat.le_refl _) (by simp) ?_; (case hd => rfl); (case hg => rfl); (case hr => first | (go_simp; done) | (go_simp; rfl)); (case hp => exact (Reps.one (show Kd.M (Kd.int .u8) _ _ _ ((Go.bits .or .u64 128 (Go.bits .and .u64 x0_2 63)) % 256) [.int .u8 ((Go.bits .or .u64 128 (Go.bits .and .u64 x0_2 63)) % 256)] from rfl) (Reps.none _ _))); intro v111 w13 ho14 hb hg_ hnew_; clear hg_ hnew_; (first | rw [← Ny110.out] at ho14 | (simp only [Int.reduceToNat] at ho14; rw [← Ny110.out] at ho14)); have n0_ := Aside0.mk (Kd.R_elder' (by (with_reducible repeat (first | apply Kd.R_alloc | apply Kd.R_drewN | apply Kd.R_drew)); exact HO_4.out) (Kd.R_base ho14) hb); have n1_ := Aside0.mk (Kd.R_lower (Kd.R_new' ho14 (Kd.R_lt (by (with_reducible repeat (first | apply Kd.R_alloc | apply Kd.R_drewN | apply Kd.R_drew)); exact HO_4.out))) (below_size (by repeat (first | (with_reducible first | exact HB.out | apply below_alloc | apply pw_below_drewN | apply below_drew1) | exact HB.out)))); have n2_ := Aside0.mk (below_step (by repeat (first | (with_reducible first | exact HB.out | apply below_alloc | apply pw_below_drewN | apply below_drew1) | exact HB.out)) hb); clear HO_4; clear HB; have HO_4 := n0_; have HO112 := n1_; have HB := n2_; clear n0_ n1_ n2_; clear hb ho14; obtain ⟨Ao16, co16, eo16⟩ := Kd.R_slice HO_4.out; subst eo16) | ((with_reducible refine gate_builtin (b := .append) (xs := #[.tmp 27, .tmp 28]) rfl ?_); at_builtin; refine Kd.R_append_rows (Kd.int .u8) (w0 := w) w.heap.size rfl (.tmp 27) (.tmp 28) 25 5 (.int .u8 0) 1 rfl Tryd.underlying25 info5 rfl (by decide) (by omega) v111 y110 x4_2 _ _ _ (fun k_ => some k_ ≠ (.slice Ao16 x4_2.length co16 : Value).ownBlock) (fun _ => False) rfl rfl ?aO ?aR (fun _ _ h => h) (fun _ h => h.elim) ?aF ?aB ?aS ?aL ?_; (case aR => repeat (first | exact (Kd.R_reads' HO_4.out).2.2 | (with_reducible refine Kd.C_alloc ?_ _) | (with_reducible refine Kd.C_drewN ?_ _) | (with_reducible refine Kd.C_drew ?_))); (case aB => exact (by repeat (first | (with_reducible first | exact HB.out | apply below_alloc | apply pw_below_drewN | apply below_drew1) | exact HB.out))); (case aF => exact (fun k_ hk => Kd.fresh' (Kd.R_lt (by (with_reducible repeat (first | apply Kd.R_alloc | apply Kd.R_drewN | apply Kd.R_drew)); exact HO_4.out)) k_ hk)); (case aO => exact (by (with_reducible repeat (first | apply Kd.R_alloc | apply Kd.R_drewN | apply Kd.R_drew)); exact Kd.R_mono HO112.out (fun _ hk => hk.2))); (case aS => exact (below_size (by repeat (first | (with_reducible first | exact HB.out | apply below_alloc | apply pw_below_drewN | apply below_drew1) | exact HB.out)))); (case aL => have := LMc12.out; omega); intro v114 w15 ho hb hg hat; rw [← Ny113.out] at ho; have n0_ := Aside0.mk (Kd.R_after (ok := (fun _ => True)) (by (with_reducible repeat (first | apply Kd.R_alloc | apply Kd.R_drewN | apply Kd.R_drew)); exact HO_4.out) hg hat); have n1_ := Aside0.mk (hb); have n2_ := Aside0.mk (ho); clear HO_4; clear HB; clear HO112; have HO_4 := n0_; have HB := n1_; have HO115 := n2_; clear n0_ n1_ n2_; clear ho hb hg hat))
                    go_roundg k2
                    case measure => have := HK1.out; have := HK2.out; omega
                    case rel => exact ⟨(x0_2 / 64), (y113), (wrap64 (x21_2 + 1)), (by first | rfl | (simp; done) | (simp [*]; done)), (by first | rfl | (simp; done) | (simp [*]; done)), H', ⟨by have := HK1.out; have := HK2.out; omega⟩, ⟨by (with_reducible repeat (first | apply Kd.R_alloc | apply Kd.R_drewN | apply Kd.R_drew)); exact Kd.R_mono HO115.out (fun _ hk => trivial)⟩, ⟨by repeat (first | (with_reducible first | exact HB.out | apply below_alloc | apply pw_below_drewN | apply below_drew1) | exact HB.out)⟩⟩
                  · rw [if_neg c12] at H
                    exact absurd H (by simp)
                · rw [if_neg c11] at H
                  have c11b0 : decide (x21_2 < (wrap64 (x3_1 - 1))) = false := decide_eq_false c11
                  clear c11
                  by_cases c17 : 0 ≤ x3_1
                  · rw [if_pos c17] at H
                    have c17b0 := eq_true c17
                    have c17b1 : decide (0 ≤ x3_1) = true := decide_eq_true c17
                    clear c17
                    obtain ⟨ji18, hji18⟩ : ∃ j_ : Int, (shr .u64 65280 x3_1) = j_ := ⟨_, rfl⟩
                    replace H : ((some (([Go.bits .or .u8 ((Go.bits .and .u64 (ji18) 255) % 256) ((x0_2) % 256)] : List Int) : List Int)).bind fun y116 => (if y116.length + x4_2.length < 140737488355328 then (some (y116 ++ x4_2)) else (none))) = some r := by first | (rw [hji18] at H; exact H) | (simp only [hji18] at H ⊢; exact H)
                    have hji18_ : (65280 / 2 ^ min x3_1.toNat 64) = ji18 := hji18
                    have hji18z : x3_1 ≤ 64 → (65280 / 2 ^ x3_1.toNat) = ji18 := shr_small hji18
                    obtain ⟨y116, hy116⟩ : ∃ y_ : List Int, y_ = (([Go.bits .or .u8 ((Go.bits .and .u64 (ji18) 255) % 256) ((x0_2) % 256)] : List Int)) := ⟨_, rfl⟩
                    replace H : (if y116.length + x4_2.length < 140737488355328 then (some (y116 ++ x4_2)) else (none)) = some r := by first | (rw [hy116]; with_reducible exact H) | (have H2_ := (Option.bind_some _ _).symm.trans H; rw [hy116]; with_reducible exact H2_) | (have H2_ := (Option.bind_some _ _).symm.trans H; with_reducible exact H2_) | with_reducible exact H | (rw [hy116]; exact H) | exact H
                    have Ny116 := Aside0.mk hy116
                    clear hy116
                    by_cases c19 : y116.length + x4_2.length < 140737488355328
                    · rw [if_pos c19] at H
                      have LMc19 := Aside0.mk c19
                      clear c19
                      obtain ⟨y119, hy119⟩ : ∃ y_ : List Int, y_ = (y116 ++ x4_2) := ⟨_, rfl⟩
                      replace H : (some y119) = some r := by first | (rw [hy119]; with_reducible exact H) | (have H2_ := (Option.bind_some _ _).symm.trans H; rw [hy119]; with_reducible exact H2_) | (have H2_ := (Option.bind_some _ _).symm.trans H; with_reducible exact H2_) | with_reducible exact H | (rw [hy119]; exact H) | exact H
                      have Ny119 := Aside0.mk hy119
                      clear hy119
                      obtain rfl := Option.some.inj H
                      go_wp2_with (first | ((with_reducible refine gate_dst (N := 40) rfl ?_); refine Kd.R_lit (Kd.int .u8) _ 5 ?hg (N := 40) ?hd (xs := ([Go.bits .or .u8 ((Go.bits .and .u64 (ji18) 255) % 256) ((x0_2) % 256)] : List Int)) (inner := [.int .u8 (Go.bits .or .u8 ((Go.bits .and .u64 (ji18) 255) % 256) ((x0_2) % 256))]) (ok := fun _ => True) (okp := fun _ => True) ?hr ?hp (fun _ hk => hk) trivial (Below.refl _ _) (Nat.le_refl _) (by simp) ?_; (case hd => rfl); (case hg => rfl); (case hr => first | (go_simp; done) | (go_simp; rfl)); (case hp => exact (Reps.one (show Kd.M (Kd.int .u8) _ _ _ (Go.bits .or .u8 ((Go.bits .and .u64 (ji18) 255) % 256) ((x0_2) % 256)) [.int .u8 (Go.bits .or .u8 ((Go.bits .and .u64 (ji18) 255) % 256) ((x0_2) % 256))] from rfl) (Reps.none _ _))); intro v117 w20 ho21 hb hg_ hnew_; clear hg_ hnew_; (first | rw [← Ny116.out] at ho21 | (simp only [Int.reduceToNat] at ho21; rw [← Ny116.out] at ho21)); have n0_ := Aside0.mk (Kd.R_elder' (by (with_reducible repeat (first | apply Kd.R_alloc | apply Kd.R_drewN | apply Kd.R_drew)); exact HO_4.out) (Kd.R_base ho21) hb); have n1_ := Aside0.mk (Kd.R_lower (Kd.R_new' ho21 (Kd.R_lt (by (with_reducible repeat (first | apply Kd.R_alloc | apply Kd.R_drewN | apply Kd.R_drew)); exact HO_4.out))) (below_size (by repeat (first | (with_reducible first | exact HB.out | apply below_alloc | apply pw_below_drewN | apply below_drew1) | exact HB.out)))); have n2_ := Aside0.mk (below_step (by repeat (first | (with_reducible first | exact HB.out | apply below_alloc | apply pw_below_drewN | apply below_drew1) | exact HB.out)) hb); clear HO_4; clear HB; have HO_4 := n0_; have HO118 := n1_; have HB := n2_; clear n0_ n1_ n2_; clear hb ho21; obtain ⟨Ao23, co23, eo23⟩ := Kd.R_slice HO_4.out; subst eo23) | ((with_reducible refine gate_builtin (b := .append) (xs := #[.tmp 40, .tmp 41]) rfl ?_); at_builtin; refine Kd.R_append_rows (Kd.int .u8) (w0 := w) w.heap.size rfl (.tmp 40) (.tmp 41) 25 5 (.int .u8 0) 1 rfl Tryd.underlying25 info5 rfl (by decide) (by omega) v117 y116 x4_2 _ _ _ (fun k_ => some k_ ≠ (.slice Ao23 x4_2.length co23 : Value).ownBlock) (fun _ => False) rfl rfl ?aO ?aR (fun _ _ h => h) (fun _ h => h.elim) ?aF ?aB ?aS ?aL ?_; (case aR => repeat (first | exact (Kd.R_reads' HO_4.out).2.2 | (with_reducible refine Kd.C_alloc ?_ _) | (with_reducible refine Kd.C_drewN ?_ _) | (with_reducible refine Kd.C_drew ?_))); (case aB => exact (by repeat (first | (with_reducible first | exact HB.out | apply below_alloc | apply pw_below_drewN | apply below_drew1) | exact HB.out))); (case aF => exact (fun k_ hk => Kd.fresh' (Kd.R_lt (by (with_reducible repeat (first | apply Kd.R_alloc | apply Kd.R_drewN | apply Kd.R_drew)); exact HO_4.out)) k_ hk)); (case aO => exact (by (with_reducible repeat (first | apply Kd.R_alloc | apply Kd.R_drewN | apply Kd.R_drew)); exact Kd.R_mono HO118.out (fun _ hk => hk.2))); (case aS => exact (below_size (by repeat (first | (with_reducible first | exact HB.out | apply below_alloc | apply pw_below_drewN | apply below_drew1) | exact HB.out)))); (case aL => have := LMc19.out; omega); intro v120 w22 ho hb hg hat; rw [← Ny119.out] at ho; have n0_ := Aside0.mk (Kd.R_after (ok := (fun _ => True)) (by (with_reducible repeat (first | apply Kd.R_alloc | apply Kd.R_drewN | apply Kd.R_drew)); exact HO_4.out) hg hat); have n1_ := Aside0.mk (hb); have n2_ := Aside0.mk (ho); clear HO_4; clear HB; clear HO118; have HO_4 := n0_; have HB := n1_; have HO121 := n2_; clear n0_ n1_ n2_; clear ho hb hg hat))
                      go_ret
                      exact ⟨_, by first | rfl | (simp [errW_none, errW_some] <;> rfl) | (simp only [← hji5, ← hji7, ← hji18]; first | rfl | (simp [errW_none, errW_some] <;> rfl)) | (simp [*, errW_none, errW_some] <;> rfl), by (with_reducible repeat (first | apply Kd.R_alloc | apply Kd.R_drewN | apply Kd.R_drew)); exact Kd.R_mono HO121.out (fun _ hk => trivial), by repeat (first | (with_reducible first | exact HB.out | apply below_alloc | apply pw_below_drewN | apply below_drew1) | exact HB.out)⟩
                    · rw [if_neg c19] at H
                      exact absurd H (by simp)
                  · rw [if_neg c17] at H
                    exact absurd H (by simp)
        · rw [if_neg c6] at H
          exact absurd H (by simp)

/-! ### spec_Crc: function 18 -/
mutual
def spec_Crc.l0 : Nat → Int → Int → Int → List Int → Int → Int → Option (Int)
  | 0, _, _, _, _, _, _ => none
  | k + 1, x1, x2, x7, x12, x13, x14 => if x14 < x13 then (if 0 ≤ x14 then (if x14 < (x12.length : Int) then (spec_Crc.l1 k x1 x2 x7 (rd x12 x14) 7 x12 x13 x14) else (none)) else (none)) else (some x7)
def spec_Crc.l1 : Nat → Int → Int → Int → Int → Int → List Int → Int → Int → Option (Int)
  | 0, _, _, _, _, _, _, _, _ => none
  | k + 1, x1, x2, x7, x9, x10, x12, x13, x14 => if x10 ≥ 0 then (if 0 ≤ (wrap64 (x1 - 1)) then (if 0 ≤ x10 then (if 0 ≤ x1 then (if (Go.bits .xor .i64 (Go.bits .and .i64 (shr .i64 x7 (wrap64 (x1 - 1))) 1) (Go.bits .and .i64 (shr .i64 (wrap64 (x9)) x10) 1)) = 1 then (spec_Crc.l1 k x1 x2 (Go.bits .xor .i64 (Go.bits .and .i64 (wrap64 (x7 * 2)) (wrap64 ((shl .i64 1 x1) - 1))) x2) x9 (wrap64 (x10 - 1)) x12 x13 x14) else (spec_Crc.l1 k x1 x2 (Go.bits .and .i64 (wrap64 (x7 * 2)) (wrap64 ((shl .i64 1 x1) - 1))) x9 (wrap64 (x10 - 1)) x12 x13 x14)) else (none)) else (none)) else (none)) else (spec_Crc.l0 k x1 x2 x7 x12 x13 (wrap64 (x14 + 1)))
end
def spec_Crc.f (k : Nat) (l0 : List Int) (a1 : Int) (a2 : Int) : Option (Int) := spec_Crc.l0 k a1 a2 0 l0 (l0.length : Int) 0
theorem spec_Crc.mono_l : ∀ k, (∀ y0 y1 y2 y3 y4 y5, LeO (spec_Crc.l0 k y0 y1 y2 y3 y4 y5) (spec_Crc.l0 (k + 1) y0 y1 y2 y3 y4 y5)) ∧ (∀ y0 y1 y2 y3 y4 y5 y6 y7, LeO (spec_Crc.l1 k y0 y1 y2 y3 y4 y5 y6 y7) (spec_Crc.l1 (k + 1) y0 y1 y2 y3 y4 y5 y6 y7))
  | 0 => ⟨fun _ _ _ _ _ _ r h => by simp [spec_Crc.l0] at h, fun _ _ _ _ _ _ _ _ r h => by simp [spec_Crc.l1] at h⟩
  | k + 1 => by
    obtain ⟨ih0, ih1⟩ := spec_Crc.mono_l k
    refine ⟨?_, ?_⟩
    · intro y0 y1 y2 y3 y4 y5
      unfold spec_Crc.l0
      repeat' first
      | (with_reducible exact ih0 _ _ _ _ _ _)
      | (with_reducible exact ih1 _ _ _ _ _ _ _ _)
      | (with_reducible exact LeO.refl _)
      | (with_reducible exact LeO.none _)
      | (with_reducible refine LeO.ite ?_ ?_)
      | (with_reducible refine LeO.bind ?_ (fun _ => ?_))
      | exact ih0 _ _ _ _ _ _
      | exact ih1 _ _ _ _ _ _ _ _
      | exact LeO.none _
      | refine LeO.ite ?_ ?_
      | refine LeO.bind ?_ (fun _ => ?_)
    · intro y0 y1 y2 y3 y4 y5 y6 y7
      unfold spec_Crc.l1
      repeat' first
      | (with_reducible exact ih0 _ _ _ _ _ _)
      | (with_reducible exact ih1 _ _ _ _ _ _ _ _)
      | (with_reducible exact LeO.refl _)
      | (with_reducible exact LeO.none _)
      | (with_reducible refine LeO.ite ?_ ?_)
      | (with_reducible refine LeO.bind ?_ (fun _ => ?_))
      | exact ih0 _ _ _ _ _ _
      | exact ih1 _ _ _ _ _ _ _ _
      | exact LeO.none _
      | refine LeO.ite ?_ ?_
      | refine LeO.bind ?_ (fun _ => ?_)
theorem spec_Crc.mono : ∀ a0 a1 a2 k, LeO (spec_Crc.f k a0 a1 a2) (spec_Crc.f (k + 1) a0 a1 a2) := by
  intro a0 a1 a2 k
  obtain ⟨ih0, ih1⟩ := spec_Crc.mono_l k
  unfold spec_Crc.f
  repeat' first
      | (with_reducible exact ih0 _ _ _ _ _ _)
      | (with_reducible exact ih1 _ _ _ _ _ _ _ _)
      | (with_reducible exact LeO.refl _)
      | (with_reducible exact LeO.none _)
      | (with_reducible refine LeO.ite ?_ ?_)
      | (with_reducible refine LeO.bind ?_ (fun _ => ?_))
      | exact ih0 _ _ _ _ _ _
      | exact ih1 _ _ _ _ _ _ _ _
      | exact LeO.none _
      | refine LeO.ite ?_ ?_
      | refine LeO.bind ?_ (fun _ => ?_)
set_option maxHeartbeats 8000000 in
set_option maxRecDepth 100000 in
theorem spec_Crc.calls (k : Nat) (A0 : Option Addr) (c0 : Nat) (l0 : List Int) (a1 : Int) (a2 : Int) (r : Int) (w : World) (hr0 : Kd.C (Kd.int .u8) w A0 l0.length l0) (hc0 : l0.length ≤ c0) (h : spec_Crc.f k l0 a1 a2 = some r) :
    Calls Tryd.prog 18 #[.slice A0 l0.length c0, .int .i64 a1, .int .i64 a2] w fun e w' => e = .returned (.int .i64 r) ∧ Drawn0 w w' := by
  have HR0 := Aside0.mk hr0
  have HC0 := Aside0.mk hc0
  clear hr0 hc0
  have H : (spec_Crc.l0 k a1 a2 0 l0 (l0.length : Int) 0) = some r := h
  clear h
  have H' := Aside0.mk H
  clear H
  go_enter Tryd.func18, Tryd.ntmps18
  go_wp2
  repeat (go_quiet (fail); try go_wp2)
  go_loopg [7, 14] k (fun kq v7 v14 w' => ∃ (x7_1 : Int) (x14_1 : Int), v7 = .int .i64 x7_1 ∧ v14 = .int .i64 x14_1 ∧ Aside0 (spec_Crc.l0 kq a1 a2 x7_1 l0 (l0.length : Int) x14_1 = some r) ∧ Aside0 (kq ≤ k) ∧ Drawn0 w w')
  case atStart => exact ⟨(0), (0), (by first | rfl | (simp; done) | (simp [*]; done)), (by first | rfl | (simp; done) | (simp [*]; done)), H', ⟨Nat.le_refl _⟩, by repeat (first | exact Drawn0.refl _ | apply Drawn0.step)⟩
  case round =>
    clear H'
    try clear c1
    try clear p2
    obtain ⟨x7_1, x14_1, rfl, rfl, HA, HK1, ⟨m1, rfl⟩⟩ := hrel
    cases gk with
    | zero => exact absurd HA.out (by simp [spec_Crc.l0])
    | succ k1 =>
      have H := HA.out
      clear HA
      simp only [spec_Crc.l0] at H
      by_cases c4 : x14_1 < (l0.length : Int)
      · rw [if_pos c4] at H
        have c4b0 : decide (x14_1 < (l0.length : Int)) = true := decide_eq_true c4
        clear c4
        by_cases c5 : 0 ≤ x14_1
        · rw [if_pos c5] at H
          have c5b0 : decide (0 ≤ x14_1) = true := decide_eq_true c5
          clear c5
          by_cases c6 : x14_1 < (l0.length : Int)
          · rw [if_pos c6] at H
            have c6b0 : decide (x14_1 < (l0.length : Int)) = true := decide_eq_true c6
            clear c6
            have H' := Aside0.mk H
            clear H
            have p122 : 0 ≤ (x14_1 : Int) := of_decide_eq_true (by first | (with_reducible assumption) | assumption)
            have q122 : x14_1 < (l0.length : Int) := of_decide_eq_true (by first | (with_reducible assumption) | assumption)
            obtain ⟨ad122, e122, hx122_0⟩ := Kd.at_int HR0.out x14_1 p122 q122
            cases e122
            replace p122 := eq_true p122
            replace q122 := eq_true q122
            go_wp2
            repeat (go_quiet (fail); try go_wp2)
            go_loopg [7, 10] k1 (fun kq v7 v10 w' => ∃ (x7_2 : Int) (x10_2 : Int), v7 = .int .i64 x7_2 ∧ v10 = .int .i64 x10_2 ∧ Aside0 (spec_Crc.l1 kq a1 a2 x7_2 (rd l0 x14_1) x10_2 l0 (l0.length : Int) x14_1 = some r) ∧ Aside0 (kq ≤ k1) ∧ Drawn0 w w')
            case atStart => exact ⟨(x7_1), (7), (by first | rfl | (simp; done) | (simp [*]; done)), (by first | rfl | (simp; done) | (simp [*]; done)), H', ⟨Nat.le_refl _⟩, by repeat (first | exact Drawn0.refl _ | apply Drawn0.step)⟩
            case round =>
              clear H'
              try clear c1
              try clear p1
              try clear q1
              try clear hx1
              try clear p2
              try clear c4
              try clear c4b0
              try clear c5
              try clear c5b0
              try clear c6
              try clear c6b0
              try clear hx122_0
              try clear p122
              try clear p2
              try clear q122
              obtain ⟨x7_2, x10_2, rfl, rfl, HA, HK2, ⟨m2, rfl⟩⟩ := hrel
              cases gk with
              | zero => exact absurd HA.out (by simp [spec_Crc.l1])
              | succ k2 =>
                have H := HA.out
                clear HA
                simp only [spec_Crc.l1] at H
                by_cases c7 : x10_2 ≥ 0
                · rw [if_pos c7] at H
                  have c7b0 : decide (0 ≤ x10_2) = true := decide_eq_true c7
                  clear c7
                  obtain ⟨ji8, hji8⟩ : ∃ j_ : Int, (wrap64 (a1 - 1)) = j_ := ⟨_, rfl⟩
                  replace H : (if 0 ≤ (ji8) then (if 0 ≤ x10_2 then (if 0 ≤ a1 then (if (Go.bits .xor .i64 (Go.bits .and .i64 (shr .i64 x7_2 (ji8)) 1) (Go.bits .and .i64 (shr .i64 (wrap64 ((rd l0 x14_1))) x10_2) 1)) = 1 then (spec_Crc.l1 k2 a1 a2 (Go.bits .xor .i64 (Go.bits .and .i64 (wrap64 (x7_2 * 2)) (wrap64 ((shl .i64 1 a1) - 1))) a2) (rd l0 x14_1) (wrap64 (x10_2 - 1)) l0 (l0.length : Int) x14_1) else (spec_Crc.l1 k2 a1 a2 (Go.bits .and .i64 (wrap64 (x7_2 * 2)) (wrap64 ((shl .i64 1 a1) - 1))) (rd l0 x14_1) (wrap64 (x10_2 - 1)) l0 (l0.length : Int) x14_1)) else (none)) else (none)) else (none)) = some r := by first | (rw [hji8] at H; exact H) | (simp only [hji8] at H ⊢; exact H)
                  have hji8w : (IntKind.i64.wrap (a1 - 1)) = ji8 := (i64_w _).trans hji8
                  by_cases c9 : 0 ≤ (ji8)
                  · rw [if_pos c9] at H
                    have c9b0 := eq_true c9
                    have c9b1 : decide (0 ≤ (ji8)) = true := decide_eq_true c9
                    clear c9
                    obtain ⟨ji10, hji10⟩ : ∃ j_ : Int, (shr .i64 x7_2 (ji8)) = j_ := ⟨_, rfl⟩
                    replace H : (if 0 ≤ x10_2 then (if 0 ≤ a1 then (if (Go.bits .xor .i64 (Go.bits .and .i64 (ji10) 1) (Go.bits .and .i64 (shr .i64 (wrap64 ((rd l0 x14_1))) x10_2) 1)) = 1 then (spec_Crc.l1 k2 a1 a2 (Go.bits .xor .i64 (Go.bits .and .i64 (wrap64 (x7_2 * 2)) (wrap64 ((shl .i64 1 a1) - 1))) a2) (rd l0 x14_1) (wrap64 (x10_2 - 1)) l0 (l0.length : Int) x14_1) else (spec_Crc.l1 k2 a1 a2 (Go.bits .and .i64 (wrap64 (x7_2 * 2)) (wrap64 ((shl .i64 1 a1) - 1))) (rd l0 x14_1) (wrap64 (x10_2 - 1)) l0 (l0.length : Int) x14_1)) else (none)) else (none)) = some r := by first | (rw [hji10] at H; exact H) | (simp only [hji10] at H ⊢; exact H)
                    have hji10_ : (x7_2 / 2 ^ min (ji8).toNat 64) = ji10 := hji10
                    have hji10z : (ji8) ≤ 64 → (x7_2 / 2 ^ (ji8).toNat) = ji10 := shr_small hji10
                    by_cases c11 : 0 ≤ x10_2
                    · rw [if_pos c11] at H
                      have c11b0 := eq_true c11
                      have c11b1 : decide (0 ≤ x10_2) = true := decide_eq_true c11
                      clear c11
                      obtain ⟨ji12, hji12⟩ : ∃ j_ : Int, (shr .i64 (wrap64 ((rd l0 x14_1))) x10_2) = j_ := ⟨_, rfl⟩
                      replace H : (if 0 ≤ a1 then (if (Go.bits .xor .i64 (Go.bits .and .i64 (ji10) 1) (Go.bits .and .i64 (ji12) 1)) = 1 then (spec_Crc.l1 k2 a1 a2 (Go.bits .xor .i64 (Go.bits .and .i64 (wrap64 (x7_2 * 2)) (wrap64 ((shl .i64 1 a1) - 1))) a2) (rd l0 x14_1) (wrap64 (x10_2 - 1)) l0 (l0.length : Int) x14_1) else (spec_Crc.l1 k2 a1 a2 (Go.bits .and .i64 (wrap64 (x7_2 * 2)) (wrap64 ((shl .i64 1 a1) - 1))) (rd l0 x14_1) (wrap64 (x10_2 - 1)) l0 (l0.length : Int) x14_1)) else (none)) = some r := by first | (rw [hji12] at H; exact H) | (simp only [hji12] at H ⊢; exact H)
                      have hji12_ : ((wrap64 ((rd l0 x14_1))) / 2 ^ min x10_2.toNat 64) = ji12 := hji12
                      have hji12z : x10_2 ≤ 64 → ((wrap64 ((rd l0 x14_1))) / 2 ^ x10_2.toNat) = ji12 := shr_small hji12
                      by_cases c13 : 0 ≤ a1
                      · rw [if_pos c13] at H
                        have c13b0 := eq_true c13
                        have c13b1 : decide (0 ≤ a1) = true := decide_eq_true c13
                        clear c13
                        obtain ⟨ji14, hji14⟩ : ∃ j_ : Int, (shl .i64 1 a1) = j_ := ⟨_, rfl⟩
                        replace H : (if (Go.bits .xor .i64 (Go.bits .and .i64 (ji10) 1) (Go.bits .and .i64 (ji12) 1)) = 1 then (spec_Crc.l1 k2 a1 a2 (Go.bits .xor .i64 (Go.bits .and .i64 (wrap64 (x7_2 * 2)) (wrap64 ((ji14) - 1))) a2) (rd l0 x14_1) (wrap64 (x10_2 - 1)) l0 (l0.length : Int) x14_1) else (spec_Crc.l1 k2 a1 a2 (Go.bits .and .i64 (wrap64 (x7_2 * 2)) (wrap64 ((ji14) - 1))) (rd l0 x14_1) (wrap64 (x10_2 - 1)) l0 (l0.length : Int) x14_1)) = some r := by first | (rw [hji14] at H; exact H) | (simp only [hji14] at H ⊢; exact H)
                        have hji14_ : (IntKind.i64.wrap (1 * 2 ^ min a1.toNat 64)) = ji14 := hji14
                        have hji14z : a1 ≤ 64 → (IntKind.i64.wrap (1 * 2 ^ a1.toNat)) = ji14 := shl_small hji14
                        have hji14u : (IntKind.i64.wrap (2 ^ min a1.toNat 64)) = ji14 := by have h_ := hji14_; rw [Int.one_mul] at h_; exact h_
                        have hji14v : a1 ≤ 64 → (IntKind.i64.wrap (2 ^ a1.toNat)) = ji14 := fun hle_ => by have h_ := hji14z hle_; rw [Int.one_mul] at h_; exact h_
                        have hji14y : (wrap64 (1 * 2 ^ min a1.toNat 64)) = ji14 := (i64_w _).symm.trans hji14_
                        have hji14x : a1 ≤ 64 → (wrap64 (1 * 2 ^ a1.toNat)) = ji14 := fun h_ => (i64_w _).symm.trans (hji14z h_)
                        by_cases c15 : (Go.bits .xor .i64 (Go.bits .and .i64 (ji10) 1) (Go.bits .and .i64 (ji12) 1)) = 1
                        · rw [if_pos c15] at H
                          have c15b0 : ((Go.bits .xor .i64 (Go.bits .and .i64 (ji10) 1) (Go.bits .and .i64 (ji12) 1)) == 1) = true := beq_iff_eq.mpr c15
                          have c15b1 : ((Go.bits .xor .i64 (Go.bits .and .i64 (ji10) 1) (Go.bits .and .i64 (ji12) 1)) != 1) = false := bne_eq_false_iff_eq.mpr c15
                          clear c15
                          have H' := Aside0.mk H
                          clear H
                          go_wp2
                          repeat (go_quiet (fail); try go_wp2)
                          go_roundg k2
                          case measure => have := HK1.out; have := HK2.out; omega
                          case rel => exact ⟨(Go.bits .xor .i64 (Go.bits .and .i64 (wrap64 (x7_2 * 2)) (wrap64 ((ji14) - 1))) a2), (wrap64 (x10_2 - 1)), (by first | rfl | (simp; done) | (simp only [← hji14] <;> (first | rfl | simp)) | (simp [*]; done)), (by first | rfl | (simp; done) | (simp [*]; done)), H', ⟨by have := HK1.out; have := HK2.out; omega⟩, by repeat (first | exact Drawn0.refl _ | apply Drawn0.step)⟩
                        · rw [if_neg c15] at H
                          have c15b0 : ((Go.bits .xor .i64 (Go.bits .and .i64 (ji10) 1) (Go.bits .and .i64 (ji12) 1)) == 1) = false := beq_eq_false_iff_ne.mpr c15
                          have c15b1 : ((Go.bits .xor .i64 (Go.bits .and .i64 (ji10) 1) (Go.bits .and .i64 (ji12) 1)) != 1) = true := bne_iff_ne.mpr c15
                          have H' := Aside0.mk H
                          clear H
                          go_wp2
                          repeat (go_quiet (fail); try go_wp2)
                          go_roundg k2
                          case measure => have := HK1.out; have := HK2.out; omega
                          case rel => exact ⟨(Go.bits .and .i64 (wrap64 (x7_2 * 2)) (wrap64 ((ji14) - 1))), (wrap64 (x10_2 - 1)), (by first | rfl | (simp; done) | (simp only [← hji14] <;> (first | rfl | simp)) | (simp [*]; done)), (by first | rfl | (simp; done) | (simp [*]; done)), H', ⟨by have := HK1.out; have := HK2.out; omega⟩, by repeat (first | exact Drawn0.refl _ | apply Drawn0.step)⟩
                      · rw [if_neg c13] at H
                        exact absurd H (by simp)
                    · rw [if_neg c11] at H
                      exact absurd H (by simp)
                  · rw [if_neg c9] at H
                    exact absurd H (by simp)
                · rw [if_neg c7] at H
                  have c7b0 : decide (0 ≤ x10_2) = false := decide_eq_false c7
                  clear c7
                  have H' := Aside0.mk H
                  clear H
                  go_wp2
                  repeat (go_quiet (fail); try go_wp2)
                  go_roundg k2
                  case measure => have := HK1.out; have := HK2.out; omega
                  case rel => exact ⟨(x7_2), (wrap64 (x14_1 + 1)), (by first | rfl | (simp; done) | (simp [*]; done)), (by first | rfl | (simp; done) | (simp [*]; done)), H', ⟨by have := HK1.out; have := HK2.out; omega⟩, by repeat (first | exact Drawn0.refl _ | apply Drawn0.step)⟩
          · rw [if_neg c6] at H
            exact absurd H (by simp)
        · rw [if_neg c5] at H
          exact absurd H (by simp)
      · rw [if_neg c4] at H
        have c4b0 : decide (x14_1 < (l0.length : Int)) = false := decide_eq_false c4
        clear c4
        obtain rfl := Option.some.inj H
        go_wp2
        repeat (go_quiet (fail); try go_wp2)
        go_ret
        exact ⟨by first | rfl | (simp; done) | (simp [*]; done), by repeat (first | exact Drawn0.refl _ | apply Drawn0.step)⟩

/-! ### spec_Crc8: function 12 -/
def spec_Crc8.f (k : Nat) (l0 : List Int) : Option (Int) := (spec_Crc.f k l0 8 7).bind fun t123 => (some t123)
theorem spec_Crc8.mono : ∀ a0 k, LeO (spec_Crc8.f k a0) (spec_Crc8.f (k + 1) a0) := by
  intro a0 k
  unfold spec_Crc8.f
  repeat' first
      | (with_reducible exact spec_Crc.mono _ _ _ _)
      | (with_reducible exact LeO.refl _)
      | (with_reducible exact LeO.none _)
      | (with_reducible refine LeO.ite ?_ ?_)
      | (with_reducible refine LeO.bind ?_ (fun _ => ?_))
      | exact spec_Crc.mono _ _ _ _
      | exact LeO.none _
      | refine LeO.ite ?_ ?_
      | refine LeO.bind ?_ (fun _ => ?_)
set_option maxHeartbeats 8000000 in
set_option maxRecDepth 100000 in
theorem spec_Crc8.calls (k : Nat) (A0 : Option Addr) (c0 : Nat) (l0 : List Int) (r : Int) (w : World) (hr0 : Kd.C (Kd.int .u8) w A0 l0.length l0) (hc0 : l0.length ≤ c0) (h : spec_Crc8.f k l0 = some r) :
    Calls Tryd.prog 12 #[.slice A0 l0.length c0] w fun e w' => e = .returned (.int .i64 r) ∧ Drawn0 w w' := by
  have HR0 := Aside0.mk hr0
  have HC0 := Aside0.mk hc0
  clear hr0 hc0
  have H : ((spec_Crc.f k l0 8 7).bind fun t123 => (some t123)) = some r := h
  clear h
  replace H := Option.bind_eq_some_iff.mp H
  obtain ⟨t123, A20, H⟩ := H
  replace H : (some t123) = some r := H
  have A2 := Aside0.mk A20
  clear A20
  obtain rfl := Option.some.inj H
  go_enter Tryd.func12, Tryd.ntmps12
  go_wp2_with (first | ((with_reducible refine gate_callee (f := 18) rfl ?_); refine goesL_ (some 4) rfl rfl Tryd.func18 (by kernel_rfl) rfl #[.slice A0 l0.length c0, .int .i64 8, .int .i64 7] rfl (by (try simp only [List.map_toArray, List.map_cons, List.map_nil]); first | done | rfl | (simp only [List.length_drop, List.length_take]; rfl)) ?_; (with_reducible refine (spec_Crc.calls k _ _ l0 8 7 t123 _ ?side1 ?side2 A2.out).mono ?_); (case side1 => repeat (first | exact HR0.out | (with_reducible refine Kd.C_alloc ?_ _) | (with_reducible refine Kd.C_drewN ?_ _) | (with_reducible refine Kd.C_drew ?_))); (case side2 => exact HC0.out); rintro e w' ⟨rfl, ⟨nd, rfl⟩⟩; refine ⟨_, rfl, ?_⟩))
  go_ret
  exact ⟨by first | rfl | (simp; done) | (simp [*]; done), by repeat (first | exact Drawn0.refl _ | apply Drawn0.step)⟩

-- NOT PRINTED: function 5 (spec_WriteHead)

-- NOT PRINTED: function 23 (crc16_New)

-- NOT PRINTED: function 24 (crc16_makeTable)

-- NOT PRINTED: function 19 (crc16_NewIBM)

-- NOT PRINTED: function 20 (io_TeeReader)

-- NOT PRINTED: function 36 (crc8_New)

-- NOT PRINTED: function 37 (crc8_makeTable)

-- NOT PRINTED: function 25 (crc8_NewATM)

-- NOT PRINTED: function 26 (bits_NewReader)

-- NOT PRINTED: function 29 (errors_New)

-- NOT PRINTED: function 41 (io_ReadAtLeast)

-- NOT PRINTED: function 38 (io_ReadFull)

-- NOT PRINTED: function 27 (bits_Reader_Read)

-- NOT PRINTED: function 28 (frame_unexpected)

-- NOT PRINTED: function 30 (frame_Frame_parseChannels)

-- NOT PRINTED: function 31 (frame_Frame_parseBitsPerSample)

-- NOT PRINTED: function 39 (ioutilx_ReadByte)

-- NOT PRINTED: function 32 (utf8_Decode)

-- NOT PRINTED: function 33 (frame_Frame_parseBlockSize)

-- NOT PRINTED: function 34 (frame_Frame_parseSampleRate)

-- NOT PRINTED: function 40 (numbers_size_uint8)

-- NOT PRINTED: function 35 (numbers_Read_uint8)

-- NOT PRINTED: function 21 (frame_Frame_parseHeader)

-- NOT PRINTED: function 13 (frame_New)

/-- A state of type 77 at block g of W; what its slices lead to came in by w0. -/
def IsS77 (w0 W : World) (g : Nat) (f0 : List Int) (f1 : Int) (f2 : Int) : Prop := ∃ A0 c0, W.heap[g]? = some (.cells #[.slice A0 f0.length c0, .int .i64 f1, .int .i64 f2] 77 (0, 0)) ∧ w0.heap.size ≤ g ∧ Kd.C (Kd.int .u8) w0 A0 f0.length f0
theorem IsS77.grown {w0 W : World} {g : Nat} {f0 : List Int} {f1 : Int} {f2 : Int} {W1 : World} {row : Option Nat} (h : IsS77 w0 W g f0 f1 f2) (hw : W.grownBy W1 row) (hne : some g ≠ row) : IsS77 w0 W1 g f0 f1 f2 := by
  obtain ⟨A0, c0, hb, hg, hr0⟩ := h
  exact ⟨A0, c0, blk_grown hb hw hne, hg, hr0⟩
theorem IsS77.own_neN {w0 W : World} {g : Nat} {f0 : List Int} {f1 : Int} {f2 : Int} {α : Type} {d : Kd α} {e : Nat} {base : Nat} {ok : Nat → Prop} {v : Value} {xs : List α} (h : IsS77 w0 W g f0 f1 f2) (ho : Kd.N d e W base ok v xs) (ht : e ≠ 77) : some g ≠ v.ownBlock := by
  obtain ⟨A0, c0, hb, hg, hr0⟩ := h
  exact Kd.N_ne ho hb ht
theorem IsS77.fresh {w0 W : World} {g : Nat} {f0 : List Int} {f1 : Int} {f2 : Int} (h : IsS77 w0 W g f0 f1 f2) : ∀ k, W.heap.size ≤ k → k ≠ g := by
  obtain ⟨A0, c0, hb, hg, hr0⟩ := h
  exact Kd.freshB hb
theorem IsS77.kept {w0 W : World} {g : Nat} {f0 : List Int} {f1 : Int} {f2 : Int} {W1 : World} {S : Nat → Prop} (h : IsS77 w0 W g f0 f1 f2) (hk : Kept W W1 S) (hne : ¬ S g) : IsS77 w0 W1 g f0 f1 f2 := by
  obtain ⟨A0, c0, hb, hg, hr0⟩ := h
  exact ⟨A0, c0, blk_kept hb hk hne, hg, hr0⟩
theorem IsS77.below {w0 W : World} {g : Nat} {f0 : List Int} {f1 : Int} {f2 : Int} {W1 : World} (h : IsS77 w0 W g f0 f1 f2) (hw : Below W.heap.size W W1) : IsS77 w0 W1 g f0 f1 f2 := h.grown (grown_of_below hw none) (by simp)
theorem IsS77.alloc {w0 W : World} {g : Nat} {f0 : List Int} {f1 : Int} {f2 : Int} (h : IsS77 w0 W g f0 f1 f2) (o : Obj) : IsS77 w0 (W.alloc o) g f0 f1 f2 := h.below (below_alloc (Below.refl _ _) o)
theorem IsS77.drewN {w0 W : World} {g : Nat} {f0 : List Int} {f1 : Int} {f2 : Int} (h : IsS77 w0 W g f0 f1 f2) (m : Nat) : IsS77 w0 (W.drewN m) g f0 f1 f2 := h
theorem IsS77.drew {w0 W : World} {g : Nat} {f0 : List Int} {f1 : Int} {f2 : Int} (h : IsS77 w0 W g f0 f1 f2) : IsS77 w0 W.drew g f0 f1 f2 := h
theorem IsS77.at_ {w0 W : World} {g : Nat} {f0 : List Int} {f1 : Int} {f2 : Int} {w' : World} {m : Nat} (hq : W.drewN m = w') (h : IsS77 w0 W g f0 f1 f2) : IsS77 w0 w' g f0 f1 f2 := by subst hq; exact IsS77.drewN h m
theorem IsS77.apart {w0 W : World} {g : Nat} {f0 : List Int} {f1 : Int} {f2 : Int} {α : Type} {d : Kd α} {e : Nat} {base : Nat} {ok : Nat → Prop} {v : Value} {xs : List α} (h : IsS77 w0 W g f0 f1 f2) (ho : d.R e W base ok v xs) (ht : ∀ q, q ∈ e :: d.E → q ≠ 77) : d.R e W base (fun k => ok k ∧ k ≠ g) v xs := by
  obtain ⟨A0, c0, hb, hg, hr0⟩ := h
  exact Kd.R_types ho hb ht
theorem IsS77.own_ne {w0 W : World} {g : Nat} {f0 : List Int} {f1 : Int} {f2 : Int} {α : Type} {d : Kd α} {e : Nat} {base : Nat} {ok : Nat → Prop} {v : Value} {xs : List α} (h : IsS77 w0 W g f0 f1 f2) (ho : d.R e W base ok v xs) (ht : e ≠ 77) : some g ≠ v.ownBlock := by
  obtain ⟨A0, c0, hb, hg, hr0⟩ := h
  exact Kd.R_ne ho hb ht
theorem IsS77.apartQ {w0 W : World} {g : Nat} {f0 : List Int} {f1 : Int} {f2 : Int} {α : Type} {d : Kd α} {e : Nat} {base : Nat} {ok : Nat → Prop} {v : Value} {xs : List α} (h : IsS77 w0 W g f0 f1 f2) (ho : d.Q e W base ok v xs) (ht : ∀ q, q ∈ e :: d.E → q ≠ 77) : d.Q e W base (fun k => ok k ∧ k ≠ g) v xs := by
  obtain ⟨A0, c0, hb, hg, hr0⟩ := h
  exact Kd.Q_types ho hb ht
theorem IsS77.own_neQ {w0 W : World} {g : Nat} {f0 : List Int} {f1 : Int} {f2 : Int} {α : Type} {d : Kd α} {e : Nat} {base : Nat} {ok : Nat → Prop} {v : Value} {xs : List α} (h : IsS77 w0 W g f0 f1 f2) (ho : d.Q e W base ok v xs) (ht : e ≠ 77) : some g ≠ v.ownBlock := by
  obtain ⟨A0, c0, hb, hg, hr0⟩ := h
  exact Kd.Q_ne ho hb ht
theorem IsS77.apartS {w0 W : World} {g : Nat} {f0 : List Int} {f1 : Int} {f2 : Int} {α : Type} {d : Kd α} {e : Nat} {base : Nat} {ok : Nat → Prop} {v : Value} {xs : List α} (h : IsS77 w0 W g f0 f1 f2) (ho : d.S e W base ok v xs) (ht : ∀ q, q ∈ e :: d.E → q ≠ 77) : d.S e W base (fun k => ok k ∧ k ≠ g) v xs := by
  obtain ⟨A0, c0, hb, hg, hr0⟩ := h
  exact Kd.S_types ho hb ht
theorem IsS77.own_neS {w0 W : World} {g : Nat} {f0 : List Int} {f1 : Int} {f2 : Int} {α : Type} {d : Kd α} {e : Nat} {base : Nat} {ok : Nat → Prop} {v : Value} {xs : List α} (h : IsS77 w0 W g f0 f1 f2) (ho : d.S e W base ok v xs) (ht : e ≠ 77) : some g ≠ v.ownBlock := by
  obtain ⟨A0, c0, hb, hg, hr0⟩ := h
  exact Kd.S_ne ho hb ht
theorem IsS77.lt {w0 W : World} {g : Nat} {f0 : List Int} {f1 : Int} {f2 : Int} (h : IsS77 w0 W g f0 f1 f2) : g < W.heap.size := by
  obtain ⟨A0, c0, hb, hg, hr0⟩ := h
  exact blk_lt hb
theorem IsS77.ge {w0 W : World} {g : Nat} {f0 : List Int} {f1 : Int} {f2 : Int} (h : IsS77 w0 W g f0 f1 f2) : w0.heap.size ≤ g := by
  obtain ⟨A0, c0, hb, hg, hr0⟩ := h
  exact hg
theorem IsS77.ne_blk {w0 W : World} {g : Nat} {f0 : List Int} {f1 : Int} {f2 : Int} {a : Nat} {cs : Array Value} {t : TypeId} {fr : Nat × Nat} (h : IsS77 w0 W g f0 f1 f2) (hb2 : W.heap[a]? = some (.cells cs t fr)) (ht : t ≠ 77) : g ≠ a := by
  obtain ⟨A0, c0, hb, hg, hr0⟩ := h
  rintro rfl
  rw [hb] at hb2
  injection hb2 with hb2
  injection hb2 with _ ht2
  exact ht ht2.symm
theorem IsS77.far {w0 W : World} {g : Nat} {f0 : List Int} {f1 : Int} {f2 : Int} {p : Addr} (h : IsS77 w0 W g f0 f1 f2) (hne : g ≠ p.block) (u : Value) : IsS77 w0 (W.setCell p u) g f0 f1 f2 := by
  obtain ⟨A0, c0, hb, hg, hr0⟩ := h
  exact ⟨A0, c0, blk_far hb hne u, hg, hr0⟩
theorem cellS77_0 {W : World} {g : Nat} {A0 : Option Addr} {c0 : Nat} {f0 : List Int} {f1 : Int} {f2 : Int} (h : W.heap[g]? = some (.cells #[.slice A0 f0.length c0, .int .i64 f1, .int .i64 f2] 77 (0, 0))) : W.cell? ⟨g, 0, none⟩ = some (.slice A0 f0.length c0) := (blk_cell h 0).trans rfl
theorem cellS77_1 {W : World} {g : Nat} {A0 : Option Addr} {c0 : Nat} {f0 : List Int} {f1 : Int} {f2 : Int} (h : W.heap[g]? = some (.cells #[.slice A0 f0.length c0, .int .i64 f1, .int .i64 f2] 77 (0, 0))) : W.cell? ⟨g, 1, none⟩ = some (.int .i64 f1) := (blk_cell h 1).trans rfl
theorem IsS77.set_1 {w0 W : World} {g : Nat} {f0 : List Int} {f1 : Int} {f2 : Int} (h : IsS77 w0 W g f0 f1 f2) (x : Int) : IsS77 w0 (W.setCell ⟨g, 1, none⟩ (.int .i64 x)) g f0 x f2 := by
  obtain ⟨A0, c0, hb, hg, hr0⟩ := h
  exact ⟨A0, c0, by simpa using blk_set hb 1 (.int .i64 x), hg, hr0⟩
theorem cellS77_2 {W : World} {g : Nat} {A0 : Option Addr} {c0 : Nat} {f0 : List Int} {f1 : Int} {f2 : Int} (h : W.heap[g]? = some (.cells #[.slice A0 f0.length c0, .int .i64 f1, .int .i64 f2] 77 (0, 0))) : W.cell? ⟨g, 2, none⟩ = some (.int .i64 f2) := (blk_cell h 2).trans rfl
theorem IsS77.set_2 {w0 W : World} {g : Nat} {f0 : List Int} {f1 : Int} {f2 : Int} (h : IsS77 w0 W g f0 f1 f2) (x : Int) : IsS77 w0 (W.setCell ⟨g, 2, none⟩ (.int .i64 x)) g f0 f1 x := by
  obtain ⟨A0, c0, hb, hg, hr0⟩ := h
  exact ⟨A0, c0, by simpa using blk_set hb 2 (.int .i64 x), hg, hr0⟩
theorem IsS77.new (w0 W : World) (A0 : Option Addr) (c0 : Nat) (f0 : List Int) (f1 : Int) (f2 : Int) (hB : Below w0.heap.size w0 W) (hr0 : Kd.C (Kd.int .u8) w0 A0 f0.length f0) : IsS77 w0 (W.alloc (.cells #[.slice A0 f0.length c0, .int .i64 f1, .int .i64 f2] 77)) W.heap.size f0 f1 f2 := ⟨A0, c0, by simpa using heap_alloc_new W _, hB.size, hr0⟩

/-! ### bytes_NewReader: function 14 -/
def bytes_NewReader.f (l0 : List Int) : Option (List Int × Int × Int) := some (l0, 0, (-1))
set_option maxHeartbeats 8000000 in
set_option maxRecDepth 100000 in
theorem bytes_NewReader.calls (A0 : Option Addr) (c0 : Nat) (l0 : List Int) (r1 : List Int) (r2 : Int) (r3 : Int) (w0 w : World) (hB : Below w0.heap.size w0 w) (hr0 : Kd.C (Kd.int .u8) w0 A0 l0.length l0) (hc0 : l0.length ≤ c0) (h : bytes_NewReader.f l0 = some (r1, r2, r3)) :
    Calls Tryd.prog 14 #[.slice A0 l0.length c0] w fun e w' => ∃ g_ : Nat, e = .returned (.pointer (some ⟨g_, 0, none⟩)) ∧ IsS77 w0 w' g_ r1 r2 r3 ∧ Below w0.heap.size w0 w' ∧ Below w.heap.size w w' := by
  have hu77 := Tryd.underlying77
  have HR0 := Aside0.mk hr0
  have HC0 := Aside0.mk hc0
  clear hr0 hc0
  have HBW := Aside0.mk (Below.refl w.heap.size w)
  have HW0 := Aside0.mk hB.size
  have HB := Aside0.mk hB
  clear hB
  have H : (some (l0, 0, (-1))) = some (r1, r2, r3) := h
  clear h
  simp only [Option.some.injEq, Prod.mk.injEq] at H
  obtain ⟨rfl, rfl, rfl⟩ := H
  go_enter Tryd.func14, Tryd.ntmps14
  go_wp2_with (first | ((with_reducible refine gate_dst (N := 5) rfl ?_); refine box_event ?hg (N := 5) ?hd (cs := #[.slice A0 l0.length c0, .int .i64 0, .int .i64 (-1)]) (t := 77) ?hr ?_; (case hd => rfl); (case hg => rfl); (case hr => first | (go_simp; done) | (go_simp; rfl)); intro gb127 hg w2 hbox hb; have n0_ := Aside0.mk (below_step HBW.out hb); have n1_ := Aside0.mk (below_step (by repeat (first | (with_reducible first | exact HB.out | apply below_alloc | apply pw_below_drewN | apply below_drew1) | exact HB.out)) hb); have n2_ := Aside0.mk (hbox); have n3_ := Aside0.mk ((by rw [hg]; exact (below_size (by repeat (first | (with_reducible first | exact HBW.out | apply below_alloc | apply pw_below_drewN | apply below_drew1) | exact HBW.out))) : w.heap.size ≤ gb127)); have n4_ := Aside0.mk ((Nat.le_trans HW0.out (by rw [hg]; exact (below_size (by repeat (first | (with_reducible first | exact HBW.out | apply below_alloc | apply pw_below_drewN | apply below_drew1) | exact HBW.out))) : w.heap.size ≤ gb127) : w0.heap.size ≤ gb127)); clear HBW; clear HB; have HBW := n0_; have HB := n1_; have BK127 := n2_; have GW127 := n3_; have GE127 := n4_; clear n0_ n1_ n2_ n3_ n4_; clear hb hbox hg))
  go_ret
  exact ⟨_, rfl, (show IsS77 w0 _ gb127 l0 0 (-1) from ⟨_, _, by (with_reducible repeat (first | refine blk_drewN ?_ _ | refine blk_drew ?_ | refine blk_alloc ?_ _)); exact BK127.out, GE127.out, HR0.out⟩), by repeat (first | (with_reducible first | exact HB.out | apply below_alloc | apply pw_below_drewN | apply below_drew1 | refine below_set ?_ GE127.out) | exact HB.out), by repeat (first | (with_reducible first | exact HBW.out | apply below_alloc | apply pw_below_drewN | apply below_drew1 | refine below_set ?_ GW127.out) | exact HBW.out)⟩

-- NOT PRINTED: function 22 (impl_subOf)

-- NOT PRINTED: function 15 (impl_frameOf)

-- NOT PRINTED: function 6 (impl_Header)

/-- A state of type 58 at block g of W; what its slices lead to came in by w0. -/
def IsS58 (w0 W : World) (g : Nat) (f0 : List Int) (f1 : Int) (f2 : Bool) : Prop := ∃ A0 c0, W.heap[g]? = some (.cells #[.slice A0 f0.length c0, .int .i64 f1, .bool f2] 58 (0, 0)) ∧ w0.heap.size ≤ g ∧ Kd.C (Kd.int .u8) w0 A0 f0.length f0
theorem IsS58.grown {w0 W : World} {g : Nat} {f0 : List Int} {f1 : Int} {f2 : Bool} {W1 : World} {row : Option Nat} (h : IsS58 w0 W g f0 f1 f2) (hw : W.grownBy W1 row) (hne : some g ≠ row) : IsS58 w0 W1 g f0 f1 f2 := by
  obtain ⟨A0, c0, hb, hg, hr0⟩ := h
  exact ⟨A0, c0, blk_grown hb hw hne, hg, hr0⟩
theorem IsS58.own_neN {w0 W : World} {g : Nat} {f0 : List Int} {f1 : Int} {f2 : Bool} {α : Type} {d : Kd α} {e : Nat} {base : Nat} {ok : Nat → Prop} {v : Value} {xs : List α} (h : IsS58 w0 W g f0 f1 f2) (ho : Kd.N d e W base ok v xs) (ht : e ≠ 58) : some g ≠ v.ownBlock := by
  obtain ⟨A0, c0, hb, hg, hr0⟩ := h
  exact Kd.N_ne ho hb ht
theorem IsS58.fresh {w0 W : World} {g : Nat} {f0 : List Int} {f1 : Int} {f2 : Bool} (h : IsS58 w0 W g f0 f1 f2) : ∀ k, W.heap.size ≤ k → k ≠ g := by
  obtain ⟨A0, c0, hb, hg, hr0⟩ := h
  exact Kd.freshB hb
theorem IsS58.kept {w0 W : World} {g : Nat} {f0 : List Int} {f1 : Int} {f2 : Bool} {W1 : World} {S : Nat → Prop} (h : IsS58 w0 W g f0 f1 f2) (hk : Kept W W1 S) (hne : ¬ S g) : IsS58 w0 W1 g f0 f1 f2 := by
  obtain ⟨A0, c0, hb, hg, hr0⟩ := h
  exact ⟨A0, c0, blk_kept hb hk hne, hg, hr0⟩
theorem IsS58.below {w0 W : World} {g : Nat} {f0 : List Int} {f1 : Int} {f2 : Bool} {W1 : World} (h : IsS58 w0 W g f0 f1 f2) (hw : Below W.heap.size W W1) : IsS58 w0 W1 g f0 f1 f2 := h.grown (grown_of_below hw none) (by simp)
theorem IsS58.alloc {w0 W : World} {g : Nat} {f0 : List Int} {f1 : Int} {f2 : Bool} (h : IsS58 w0 W g f0 f1 f2) (o : Obj) : IsS58 w0 (W.alloc o) g f0 f1 f2 := h.below (below_alloc (Below.refl _ _) o)
theorem IsS58.drewN {w0 W : World} {g : Nat} {f0 : List Int} {f1 : Int} {f2 : Bool} (h : IsS58 w0 W g f0 f1 f2) (m : Nat) : IsS58 w0 (W.drewN m) g f0 f1 f2 := h
theorem IsS58.drew {w0 W : World} {g : Nat} {f0 : List Int} {f1 : Int} {f2 : Bool} (h : IsS58 w0 W g f0 f1 f2) : IsS58 w0 W.drew g f0 f1 f2 := h
theorem IsS58.at_ {w0 W : World} {g : Nat} {f0 : List Int} {f1 : Int} {f2 : Bool} {w' : World} {m : Nat} (hq : W.drewN m = w') (h : IsS58 w0 W g f0 f1 f2) : IsS58 w0 w' g f0 f1 f2 := by subst hq; exact IsS58.drewN h m
theorem IsS58.apart {w0 W : World} {g : Nat} {f0 : List Int} {f1 : Int} {f2 : Bool} {α : Type} {d : Kd α} {e : Nat} {base : Nat} {ok : Nat → Prop} {v : Value} {xs : List α} (h : IsS58 w0 W g f0 f1 f2) (ho : d.R e W base ok v xs) (ht : ∀ q, q ∈ e :: d.E → q ≠ 58) : d.R e W base (fun k => ok k ∧ k ≠ g) v xs := by
  obtain ⟨A0, c0, hb, hg, hr0⟩ := h
  exact Kd.R_types ho hb ht
theorem IsS58.own_ne {w0 W : World} {g : Nat} {f0 : List Int} {f1 : Int} {f2 : Bool} {α : Type} {d : Kd α} {e : Nat} {base : Nat} {ok : Nat → Prop} {v : Value} {xs : List α} (h : IsS58 w0 W g f0 f1 f2) (ho : d.R e W base ok v xs) (ht : e ≠ 58) : some g ≠ v.ownBlock := by
  obtain ⟨A0, c0, hb, hg, hr0⟩ := h
  exact Kd.R_ne ho hb ht
theorem IsS58.apartQ {w0 W : World} {g : Nat} {f0 : List Int} {f1 : Int} {f2 : Bool} {α : Type} {d : Kd α} {e : Nat} {base : Nat} {ok : Nat → Prop} {v : Value} {xs : List α} (h : IsS58 w0 W g f0 f1 f2) (ho : d.Q e W base ok v xs) (ht : ∀ q, q ∈ e :: d.E → q ≠ 58) : d.Q e W base (fun k => ok k ∧ k ≠ g) v xs := by
  obtain ⟨A0, c0, hb, hg, hr0⟩ := h
  exact Kd.Q_types ho hb ht
theorem IsS58.own_neQ {w0 W : World} {g : Nat} {f0 : List Int} {f1 : Int} {f2 : Bool} {α : Type} {d : Kd α} {e : Nat} {base : Nat} {ok : Nat → Prop} {v : Value} {xs : List α} (h : IsS58 w0 W g f0 f1 f2) (ho : d.Q e W base ok v xs) (ht : e ≠ 58) : some g ≠ v.ownBlock := by
  obtain ⟨A0, c0, hb, hg, hr0⟩ := h
  exact Kd.Q_ne ho hb ht
theorem IsS58.apartS {w0 W : World} {g : Nat} {f0 : List Int} {f1 : Int} {f2 : Bool} {α : Type} {d : Kd α} {e : Nat} {base : Nat} {ok : Nat → Prop} {v : Value} {xs : List α} (h : IsS58 w0 W g f0 f1 f2) (ho : d.S e W base ok v xs) (ht : ∀ q, q ∈ e :: d.E → q ≠ 58) : d.S e W base (fun k => ok k ∧ k ≠ g) v xs := by
  obtain ⟨A0, c0, hb, hg, hr0⟩ := h
  exact Kd.S_types ho hb ht
theorem IsS58.own_neS {w0 W : World} {g : Nat} {f0 : List Int} {f1 : Int} {f2 : Bool} {α : Type} {d : Kd α} {e : Nat} {base : Nat} {ok : Nat → Prop} {v : Value} {xs : List α} (h : IsS58 w0 W g f0 f1 f2) (ho : d.S e W base ok v xs) (ht : e ≠ 58) : some g ≠ v.ownBlock := by
  obtain ⟨A0, c0, hb, hg, hr0⟩ := h
  exact Kd.S_ne ho hb ht
theorem IsS58.lt {w0 W : World} {g : Nat} {f0 : List Int} {f1 : Int} {f2 : Bool} (h : IsS58 w0 W g f0 f1 f2) : g < W.heap.size := by
  obtain ⟨A0, c0, hb, hg, hr0⟩ := h
  exact blk_lt hb
theorem IsS58.ge {w0 W : World} {g : Nat} {f0 : List Int} {f1 : Int} {f2 : Bool} (h : IsS58 w0 W g f0 f1 f2) : w0.heap.size ≤ g := by
  obtain ⟨A0, c0, hb, hg, hr0⟩ := h
  exact hg
theorem IsS58.ne_blk {w0 W : World} {g : Nat} {f0 : List Int} {f1 : Int} {f2 : Bool} {a : Nat} {cs : Array Value} {t : TypeId} {fr : Nat × Nat} (h : IsS58 w0 W g f0 f1 f2) (hb2 : W.heap[a]? = some (.cells cs t fr)) (ht : t ≠ 58) : g ≠ a := by
  obtain ⟨A0, c0, hb, hg, hr0⟩ := h
  rintro rfl
  rw [hb] at hb2
  injection hb2 with hb2
  injection hb2 with _ ht2
  exact ht ht2.symm
theorem IsS58.far {w0 W : World} {g : Nat} {f0 : List Int} {f1 : Int} {f2 : Bool} {p : Addr} (h : IsS58 w0 W g f0 f1 f2) (hne : g ≠ p.block) (u : Value) : IsS58 w0 (W.setCell p u) g f0 f1 f2 := by
  obtain ⟨A0, c0, hb, hg, hr0⟩ := h
  exact ⟨A0, c0, blk_far hb hne u, hg, hr0⟩
theorem cellS58_0 {W : World} {g : Nat} {A0 : Option Addr} {c0 : Nat} {f0 : List Int} {f1 : Int} {f2 : Bool} (h : W.heap[g]? = some (.cells #[.slice A0 f0.length c0, .int .i64 f1, .bool f2] 58 (0, 0))) : W.cell? ⟨g, 0, none⟩ = some (.slice A0 f0.length c0) := (blk_cell h 0).trans rfl
theorem cellS58_1 {W : World} {g : Nat} {A0 : Option Addr} {c0 : Nat} {f0 : List Int} {f1 : Int} {f2 : Bool} (h : W.heap[g]? = some (.cells #[.slice A0 f0.length c0, .int .i64 f1, .bool f2] 58 (0, 0))) : W.cell? ⟨g, 1, none⟩ = some (.int .i64 f1) := (blk_cell h 1).trans rfl
theorem IsS58.set_1 {w0 W : World} {g : Nat} {f0 : List Int} {f1 : Int} {f2 : Bool} (h : IsS58 w0 W g f0 f1 f2) (x : Int) : IsS58 w0 (W.setCell ⟨g, 1, none⟩ (.int .i64 x)) g f0 x f2 := by
  obtain ⟨A0, c0, hb, hg, hr0⟩ := h
  exact ⟨A0, c0, by simpa using blk_set hb 1 (.int .i64 x), hg, hr0⟩
theorem cellS58_2 {W : World} {g : Nat} {A0 : Option Addr} {c0 : Nat} {f0 : List Int} {f1 : Int} {f2 : Bool} (h : W.heap[g]? = some (.cells #[.slice A0 f0.length c0, .int .i64 f1, .bool f2] 58 (0, 0))) : W.cell? ⟨g, 2, none⟩ = some (.bool f2) := (blk_cell h 2).trans rfl
theorem IsS58.set_2 {w0 W : World} {g : Nat} {f0 : List Int} {f1 : Int} {f2 : Bool} (h : IsS58 w0 W g f0 f1 f2) (x : Bool) : IsS58 w0 (W.setCell ⟨g, 2, none⟩ (.bool x)) g f0 f1 x := by
  obtain ⟨A0, c0, hb, hg, hr0⟩ := h
  exact ⟨A0, c0, by simpa using blk_set hb 2 (.bool x), hg, hr0⟩
theorem IsS58.new (w0 W : World) (A0 : Option Addr) (c0 : Nat) (f0 : List Int) (f1 : Int) (f2 : Bool) (hB : Below w0.heap.size w0 W) (hr0 : Kd.C (Kd.int .u8) w0 A0 f0.length f0) : IsS58 w0 (W.alloc (.cells #[.slice A0 f0.length c0, .int .i64 f1, .bool f2] 58)) W.heap.size f0 f1 f2 := ⟨A0, c0, by simpa using heap_alloc_new W _, hB.size, hr0⟩

/-! ### spec_reader_word: function 16 -/
def spec_reader_word.l0 : Nat → Int → Int → Int → List Int → Int → Bool → Option (Int × Int × Bool)
  | 0, _, _, _, _, _, _ => none
  | k + 1, x5, x6, x7, x1000, x1001, x1002 => if x7 < x6 then (if (x1001 / 8) < (x1000.length : Int) then (if 0 ≤ (x1001 / 8) then (if 0 ≤ (wrap64 (7 - (Go.bits .and .i64 x1001 7))) then (spec_reader_word.l0 k (Go.bits .or .i64 (wrap64 (x5 * 2)) (Go.bits .and .i64 (shr .i64 (wrap64 (rd x1000 (x1001 / 8))) (wrap64 (7 - (Go.bits .and .i64 x1001 7)))) 1)) x6 (wrap64 (x7 + 1)) x1000 (wrap64 (x1001 + 1)) x1002) else (none)) else (none)) else (spec_reader_word.l0 k (wrap64 (x5 * 2)) x6 (wrap64 (x7 + 1)) x1000 (wrap64 (x1001 + 1)) true)) else (some (x5, x1001, x1002))
def spec_reader_word.f (k : Nat) (s0_0 : List Int) (s0_1 : Int) (s0_2 : Bool) (a1 : Int) : Option (Int × Int × Bool) := spec_reader_word.l0 k 0 a1 0 s0_0 s0_1 s0_2
theorem spec_reader_word.mono_l : ∀ k, (∀ y0 y1 y2 y3 y4 y5, LeO (spec_reader_word.l0 k y0 y1 y2 y3 y4 y5) (spec_reader_word.l0 (k + 1) y0 y1 y2 y3 y4 y5))
  | 0 => fun _ _ _ _ _ _ r h => by simp [spec_reader_word.l0] at h
  | k + 1 => by
    have ih0 := spec_reader_word.mono_l k
    · intro y0 y1 y2 y3 y4 y5
      unfold spec_reader_word.l0
      repeat' first
      | (with_reducible exact ih0 _ _ _ _ _ _)
      | (with_reducible exact LeO.refl _)
      | (with_reducible exact LeO.none _)
      | (with_reducible refine LeO.ite ?_ ?_)
      | (with_reducible refine LeO.bind ?_ (fun _ => ?_))
      | exact ih0 _ _ _ _ _ _
      | exact LeO.none _
      | refine LeO.ite ?_ ?_
      | refine LeO.bind ?_ (fun _ => ?_)
theorem spec_reader_word.mono : ∀ a0 a1 a2 a3 k, LeO (spec_reader_word.f k a0 a1 a2 a3) (spec_reader_word.f (k + 1) a0 a1 a2 a3) := by
  intro a0 a1 a2 a3 k
  have ih0 := spec_reader_word.mono_l k
  unfold spec_reader_word.f
  repeat' first
      | (with_reducible exact ih0 _ _ _ _ _ _)
      | (with_reducible exact LeO.refl _)
      | (with_reducible exact LeO.none _)
      | (with_reducible refine LeO.ite ?_ ?_)
      | (with_reducible refine LeO.bind ?_ (fun _ => ?_))
      | exact ih0 _ _ _ _ _ _
      | exact LeO.none _
      | refine LeO.ite ?_ ?_
      | refine LeO.bind ?_ (fun _ => ?_)
set_option maxHeartbeats 8000000 in
set_option maxRecDepth 100000 in
theorem spec_reader_word.calls (k : Nat) (g : Nat) (s0_0 : List Int) (s0_1 : Int) (s0_2 : Bool) (a1 : Int) (r1 : Int) (r2 : Int) (r3 : Bool) (w0 w : World) (hI : IsS58 w0 w g s0_0 s0_1 s0_2) (hB : Below w0.heap.size w0 w) (h : spec_reader_word.f k s0_0 s0_1 s0_2 a1 = some (r1, r2, r3)) :
    Calls Tryd.prog 16 #[.pointer (some ⟨g, 0, none⟩), .int .i64 a1] w fun e w' => e = .returned (.int .i64 r1) ∧ IsS58 w0 w' g s0_0 r2 r3 ∧ Below w0.heap.size w0 w' ∧ KeepBut w w' g none := by
  have HI0 := Aside0.mk hI
  have HK := Aside0.mk (KeepBut.refl w g none)
  have HL := Aside0.mk hB.size
  clear hI
  have HW0 := Aside0.mk hB.size
  have HB := Aside0.mk hB
  clear hB
  have H : (spec_reader_word.l0 k 0 a1 0 s0_0 s0_1 s0_2) = some (r1, r2, r3) := h
  clear h
  have H' := Aside0.mk H
  clear H
  go_enter Tryd.func16, Tryd.ntmps16
  go_wp2
  repeat (go_quiet (fail); try go_wp2)
  go_loopg [5, 7] k (fun kq v5 v7 w' => ∃ (x5_1 : Int) (x7_1 : Int) (x1001_1 : Int) (x1002_1 : Bool), v5 = .int .i64 x5_1 ∧ v7 = .int .i64 x7_1 ∧ Aside0 (spec_reader_word.l0 kq x5_1 a1 x7_1 s0_0 x1001_1 x1002_1 = some (r1, r2, r3)) ∧ Aside0 (kq ≤ k) ∧ Aside0 (IsS58 w0 w' g s0_0 x1001_1 x1002_1) ∧ Aside0 (KeepBut w w' g none) ∧ Aside0 (Below w0.heap.size w0 w'))
  case atStart => exact ⟨(0), (0), (s0_1), (s0_2), (by first | rfl | (simp; done) | (simp [*]; done)), (by first | rfl | (simp; done) | (simp [*]; done)), H', ⟨Nat.le_refl _⟩, ⟨by repeat (first | (with_reducible first | exact HI0.out | apply IsS58.alloc | apply IsS58.drewN | apply IsS58.drew | apply IsS58.set_1 | apply IsS58.set_2) | exact HI0.out)⟩, ⟨by repeat (first | (with_reducible first | exact HK.out | apply KeepBut.set_ | apply keep_drewN | apply keep_drew | apply keep_alloc) | exact HK.out)⟩, ⟨by repeat (first | (with_reducible first | exact HB.out | apply below_alloc | apply pw_below_drewN | apply below_drew1 | refine below_set ?_ (IsS58.ge HI0.out)) | exact HB.out)⟩⟩
  case round =>
    clear H'
    try clear c1
    try clear p2
    obtain ⟨x5_1, x7_1, x1001_1, x1002_1, rfl, rfl, HA, HK1, HI0, HK, HB⟩ := hrel
    cases gk with
    | zero => exact absurd HA.out (by simp [spec_reader_word.l0])
    | succ k1 =>
      have H := HA.out
      clear HA
      simp only [spec_reader_word.l0] at H
      by_cases c3 : x7_1 < a1
      · rw [if_pos c3] at H
        have c3b0 : decide (x7_1 < a1) = true := decide_eq_true c3
        clear c3
        by_cases c4 : (x1001_1 / 8) < (s0_0.length : Int)
        · rw [if_pos c4] at H
          have c4b0 : decide ((x1001_1 / 8) < (s0_0.length : Int)) = true := decide_eq_true c4
          clear c4
          obtain ⟨ji5, hji5⟩ : ∃ j_ : Int, (x1001_1 / 8) = j_ := ⟨_, rfl⟩
          replace H : (if 0 ≤ (ji5) then (if 0 ≤ (wrap64 (7 - (Go.bits .and .i64 x1001_1 7))) then (spec_reader_word.l0 k1 (Go.bits .or .i64 (wrap64 (x5_1 * 2)) (Go.bits .and .i64 (shr .i64 (wrap64 (rd s0_0 (ji5))) (wrap64 (7 - (Go.bits .and .i64 x1001_1 7)))) 1)) a1 (wrap64 (x7_1 + 1)) s0_0 (wrap64 (x1001_1 + 1)) x1002_1) else (none)) else (none)) = some (r1, r2, r3) := by first | (rw [hji5] at H; exact H) | (simp only [hji5] at H ⊢; exact H)
          (try rw [hji5] at c4b0)
          by_cases c6 : 0 ≤ (ji5)
          · rw [if_pos c6] at H
            have c6b0 : decide (0 ≤ (ji5)) = true := decide_eq_true c6
            clear c6
            obtain ⟨ji7, hji7⟩ : ∃ j_ : Int, (wrap64 (7 - (Go.bits .and .i64 x1001_1 7))) = j_ := ⟨_, rfl⟩
            replace H : (if 0 ≤ (ji7) then (spec_reader_word.l0 k1 (Go.bits .or .i64 (wrap64 (x5_1 * 2)) (Go.bits .and .i64 (shr .i64 (wrap64 (rd s0_0 (ji5))) (ji7)) 1)) a1 (wrap64 (x7_1 + 1)) s0_0 (wrap64 (x1001_1 + 1)) x1002_1) else (none)) = some (r1, r2, r3) := by first | (rw [hji7] at H; exact H) | (simp only [hji7] at H ⊢; exact H)
            have hji7w : (IntKind.i64.wrap (7 - (Go.bits .and .i64 x1001_1 7))) = ji7 := (i64_w _).trans hji7
            by_cases c8 : 0 ≤ (ji7)
            · rw [if_pos c8] at H
              have c8b0 := eq_true c8
              have c8b1 : decide (0 ≤ (ji7)) = true := decide_eq_true c8
              clear c8
              obtain ⟨ji9, hji9⟩ : ∃ j_ : Int, (shr .i64 (wrap64 (rd s0_0 (ji5))) (ji7)) = j_ := ⟨_, rfl⟩
              replace H : (spec_reader_word.l0 k1 (Go.bits .or .i64 (wrap64 (x5_1 * 2)) (Go.bits .and .i64 (ji9) 1)) a1 (wrap64 (x7_1 + 1)) s0_0 (wrap64 (x1001_1 + 1)) x1002_1) = some (r1, r2, r3) := by first | (rw [hji9] at H; exact H) | (simp only [hji9] at H ⊢; exact H)
              have hji9_ : ((wrap64 (rd s0_0 (ji5))) / 2 ^ min (ji7).toNat 64) = ji9 := hji9
              have hji9z : (ji7) ≤ 64 → ((wrap64 (rd s0_0 (ji5))) / 2 ^ (ji7).toNat) = ji9 := shr_small hji9
              have H' := Aside0.mk H
              clear H
              obtain ⟨ASz10_0, cSz10_0, HGz10, hgz10, HSz10_0⟩ := HI0.out
              have hcz10_0 := cellS58_0 HGz10
              have hcz10_1 := cellS58_1 HGz10
              have hcz10_2 := cellS58_2 HGz10
              have hfz10_1 := blk_frozen HGz10 1
              have hfz10_2 := blk_frozen HGz10 2
              clear HGz10 hgz10
              have p139 : 0 ≤ ((ji5) : Int) := of_decide_eq_true (by first | (with_reducible assumption) | assumption)
              have q139 : (ji5) < (s0_0.length : Int) := of_decide_eq_true (by first | (with_reducible assumption) | assumption)
              obtain ⟨ad139, e139, hx139_0⟩ := Kd.at_int HSz10_0 (ji5) p139 q139
              cases e139
              replace hx139_0 := pw_cell_below HB.out hx139_0
              replace p139 := eq_true p139
              replace q139 := eq_true q139
              go_wp2
              repeat (go_quiet (fail); try go_wp2)
              go_roundg k1
              case measure => have := HK1.out; omega
              case rel => exact ⟨(Go.bits .or .i64 (wrap64 (x5_1 * 2)) (Go.bits .and .i64 (ji9) 1)), (wrap64 (x7_1 + 1)), (wrap64 (x1001_1 + 1)), (x1002_1), (by first | rfl | (simp; done) | (simp only [← hji9] <;> (first | rfl | simp)) | (simp [*]; done)), (by first | rfl | (simp; done) | (simp [*]; done)), H', ⟨by have := HK1.out; omega⟩, ⟨by repeat (first | (with_reducible first | exact HI0.out | apply IsS58.alloc | apply IsS58.drewN | apply IsS58.drew | apply IsS58.set_1 | apply IsS58.set_2) | exact HI0.out)⟩, ⟨by repeat (first | (with_reducible first | exact HK.out | apply KeepBut.set_ | apply keep_drewN | apply keep_drew | apply keep_alloc) | exact HK.out)⟩, ⟨by repeat (first | (with_reducible first | exact HB.out | apply below_alloc | apply pw_below_drewN | apply below_drew1 | refine below_set ?_ (IsS58.ge HI0.out)) | exact HB.out)⟩⟩
            · rw [if_neg c8] at H
              exact absurd H (by simp)
          · rw [if_neg c6] at H
            exact absurd H (by simp)
        · rw [if_neg c4] at H
          have c4b0 : decide ((x1001_1 / 8) < (s0_0.length : Int)) = false := decide_eq_false c4
          clear c4
          have H' := Aside0.mk H
          clear H
          obtain ⟨ASz11_0, cSz11_0, HGz11, hgz11, HSz11_0⟩ := HI0.out
          have hcz11_0 := cellS58_0 HGz11
          have hcz11_1 := cellS58_1 HGz11
          have hcz11_2 := cellS58_2 HGz11
          have hfz11_1 := blk_frozen HGz11 1
          have hfz11_2 := blk_frozen HGz11 2
          clear HGz11 hgz11
          go_wp2
          repeat (go_quiet (fail); try go_wp2)
          go_roundg k1
          case measure => have := HK1.out; omega
          case rel => exact ⟨(wrap64 (x5_1 * 2)), (wrap64 (x7_1 + 1)), (wrap64 (x1001_1 + 1)), (true), (by first | rfl | (simp; done) | (simp [*]; done)), (by first | rfl | (simp; done) | (simp [*]; done)), H', ⟨by have := HK1.out; omega⟩, ⟨by repeat (first | (with_reducible first | exact HI0.out | apply IsS58.alloc | apply IsS58.drewN | apply IsS58.drew | apply IsS58.set_1 | apply IsS58.set_2) | exact HI0.out)⟩, ⟨by repeat (first | (with_reducible first | exact HK.out | apply KeepBut.set_ | apply keep_drewN | apply keep_drew | apply keep_alloc) | exact HK.out)⟩, ⟨by repeat (first | (with_reducible first | exact HB.out | apply below_alloc | apply pw_below_drewN | apply below_drew1 | refine below_set ?_ (IsS58.ge HI0.out)) | exact HB.out)⟩⟩
      · rw [if_neg c3] at H
        have c3b0 : decide (x7_1 < a1) = false := decide_eq_false c3
        clear c3
        simp only [Option.some.injEq, Prod.mk.injEq] at H
        obtain ⟨rfl, rfl, rfl⟩ := H
        go_wp2
        repeat (go_quiet (fail); try go_wp2)
        go_ret
        exact ⟨by first | rfl | (simp [errW_none, errW_some] <;> rfl) | (simp [*, errW_none, errW_some] <;> rfl), by repeat (first | (with_reducible first | exact HI0.out | apply IsS58.alloc | apply IsS58.drewN | apply IsS58.drew | apply IsS58.set_1 | apply IsS58.set_2) | exact HI0.out), by repeat (first | (with_reducible first | exact HB.out | apply below_alloc | apply pw_below_drewN | apply below_drew1 | refine below_set ?_ (IsS58.ge HI0.out)) | exact HB.out), by repeat (first | (with_reducible first | exact HK.out | apply KeepBut.set_ | apply keep_drewN | apply keep_drew | apply keep_alloc) | exact HK.out)⟩

end Go.Proofs.YtcdfbcanebjmfaaDoor.PFnHeaderTurned
