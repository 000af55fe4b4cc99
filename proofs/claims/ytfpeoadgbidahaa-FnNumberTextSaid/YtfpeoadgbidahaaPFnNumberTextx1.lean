-- PRINTED BY print.sh 35421559b90ae4d0a3588c463048766b98c2df88dd9212a6774a882060cdf62d: not written by this session
import Derived.Test.YtfpeoadgbidahaaPFnNumberTextx0
namespace Go.Proofs.Ytfpeoadgbidahaa.PFnNumberText
open Go.RowKit Go.Proofs.YtfpeoadgbidahaaW.PrintWords Go.Proofs.YtfpeoadgbidahaaW.PrintLast Go.Proofs.YtfpeoadgbidahaaW.PrintMore
attribute [local go_sem] max2_int min2_int max_two min_two max_three min_three max_four min_four   -- for this text's walks alone
set_option linter.unusedVariables false
set_option linter.unusedSimpArgs false

-- NOT PRINTED: function 9 (ioutilx_WriteByte)

-- NOT PRINTED: function 6 (utf8_Encode)

-- NOT PRINTED: function 7 (bytes_Buffer_Bytes)

/-! ### impl_code: function 8 -/
def impl_code.f (a0 : Option Int) : Option (Int) := if a0.isNone = true then (some 0) else (some 1)
set_option maxHeartbeats 8000000 in
set_option maxRecDepth 100000 in
theorem impl_code.calls (a0 : Option Int) (r : Int) (w : World) (h : impl_code.f a0 = some r) :
    Calls Try.prog 8 #[errW a0] w fun e w' => e = .returned (.int .i64 r) ∧ Drawn0 w w' := by
  have hu33 := Try.underlying33
  have H : (if a0.isNone = true then (some 0) else (some 1)) = some r := h
  clear h
  rcases a0 with _ | q101
  · have H1 : (some 0) = some r := by rw [if_pos (show (none : Option Int).isNone = true by rfl)] at H; exact H
    clear H
    have H := H1
    clear H1
    simp only [errW_none, errW_some]
    obtain rfl := Option.some.inj H
    go_enter Try.func8, Try.ntmps8
    go_wp2
    go_ret
    exact ⟨by first | rfl | (simp; done) | (simp [*]; done), by repeat (first | exact Drawn0.refl _ | apply Drawn0.step)⟩
  · have H1 : (some 1) = some r := by rw [if_neg (show ¬ (some q101).isNone = true by simp)] at H; exact H
    clear H
    have H := H1
    clear H1
    simp only [errW_none, errW_some]
    obtain rfl := Option.some.inj H
    go_enter Try.func8, Try.ntmps8
    go_wp2
    go_ret
    exact ⟨by first | rfl | (simp; done) | (simp [*]; done), by repeat (first | exact Drawn0.refl _ | apply Drawn0.step)⟩

-- NOT PRINTED: function 4 (impl_NumberText)

/-! ### spec_Coded: function 5 -/
mutual
def spec_Coded.l0 : Nat → Int → Int → Option (List Int)
  | 0, _, _ => none
  | k + 1, x0, x3 => if 0 ≤ (wrap64 ((wrap64 (5 * x3)) + 1)) then (if (shr .u64 x0 (wrap64 ((wrap64 (5 * x3)) + 1))) > 0 then (spec_Coded.l0 k x0 (wrap64 (x3 + 1))) else (spec_Coded.l1 k x0 x3 (([] : List Int)) (wrap64 (x3 - 1)) 0)) else (none)
def spec_Coded.l1 : Nat → Int → Int → List Int → Int → Int → Option (List Int)
  | 0, _, _, _, _, _ => none
  | k + 1, x0, x3, x4, x20, x21 => if x21 < x20 then ((some (([(Go.bits .or .u64 128 (Go.bits .and .u64 x0 63)) % 256] : List Int) : List Int)).bind fun y109 => (if y109.length + x4.length < 140737488355328 then (spec_Coded.l1 k (x0 / 64) x3 (y109 ++ x4) x20 (wrap64 (x21 + 1))) else (none))) else (if 0 ≤ x3 then ((some (([Go.bits .or .u8 ((Go.bits .and .u64 (shr .u64 65280 x3) 255) % 256) ((x0) % 256)] : List Int) : List Int)).bind fun y115 => (if y115.length + x4.length < 140737488355328 then (some (y115 ++ x4)) else (none))) else (none))
end
def spec_Coded.f (k : Nat) (a0 : Int) : Option (List Int) := if a0 < 128 then (some (([(a0) % 256] : List Int))) else (spec_Coded.l0 k a0 2)
theorem spec_Coded.mono_l : ∀ k, (∀ y0 y1, LeO (spec_Coded.l0 k y0 y1) (spec_Coded.l0 (k + 1) y0 y1)) ∧ (∀ y0 y1 y2 y3 y4, LeO (spec_Coded.l1 k y0 y1 y2 y3 y4) (spec_Coded.l1 (k + 1) y0 y1 y2 y3 y4))
  | 0 => ⟨fun _ _ r h => by simp [spec_Coded.l0] at h, fun _ _ _ _ _ r h => by simp [spec_Coded.l1] at h⟩
  | k + 1 => by
    obtain ⟨ih0, ih1⟩ := spec_Coded.mono_l k
    refine ⟨?_, ?_⟩
    · intro y0 y1
      unfold spec_Coded.l0
      repeat' first
      | (with_reducible exact ih0 _ _)
      | (with_reducible exact ih1 _ _ _ _ _)
      | (with_reducible exact LeO.refl _)
      | (with_reducible exact LeO.none _)
      | (with_reducible refine LeO.ite ?_ ?_)
      | (with_reducible refine LeO.bind ?_ (fun _ => ?_))
      | exact ih0 _ _
      | exact ih1 _ _ _ _ _
      | exact LeO.none _
      | refine LeO.ite ?_ ?_
      | refine LeO.bind ?_ (fun _ => ?_)
    · intro y0 y1 y2 y3 y4
      unfold spec_Coded.l1
      repeat' first
      | (with_reducible exact ih0 _ _)
      | (with_reducible exact ih1 _ _ _ _ _)
      | (with_reducible exact LeO.refl _)
      | (with_reducible exact LeO.none _)
      | (with_reducible refine LeO.ite ?_ ?_)
      | (with_reducible refine LeO.bind ?_ (fun _ => ?_))
      | exact ih0 _ _
      | exact ih1 _ _ _ _ _
      | exact LeO.none _
      | refine LeO.ite ?_ ?_
      | refine LeO.bind ?_ (fun _ => ?_)
theorem spec_Coded.mono : ∀ a0 k, LeO (spec_Coded.f k a0) (spec_Coded.f (k + 1) a0) := by
  intro a0 k
  obtain ⟨ih0, ih1⟩ := spec_Coded.mono_l k
  unfold spec_Coded.f
  repeat' first
      | (with_reducible exact ih0 _ _)
      | (with_reducible exact ih1 _ _ _ _ _)
      | (with_reducible exact LeO.refl _)
      | (with_reducible exact LeO.none _)
      | (with_reducible refine LeO.ite ?_ ?_)
      | (with_reducible refine LeO.bind ?_ (fun _ => ?_))
      | exact ih0 _ _
      | exact ih1 _ _ _ _ _
      | exact LeO.none _
      | refine LeO.ite ?_ ?_
      | refine LeO.bind ?_ (fun _ => ?_)
set_option maxHeartbeats 8000000 in
set_option maxRecDepth 100000 in
theorem spec_Coded.calls (k : Nat) (a0 : Int) (r : List Int) (w : World) (h : spec_Coded.f k a0 = some r) :
    Calls Try.prog 5 #[.int .u64 a0] w fun e w' => ∃ v0_ : Value, e = .returned (v0_) ∧ Kd.R (Kd.int .u8) 5 w' w.heap.size (fun _ => True) v0_ r ∧ Below w.heap.size w w' := by
  have HB := Aside0.mk (Below.refl w.heap.size w)
  have H : (if a0 < 128 then (some (([(a0) % 256] : List Int))) else (spec_Coded.l0 k a0 2)) = some r := h
  clear h
  by_cases c2 : a0 < 128
  · rw [if_pos c2] at H
    have c2b0 : decide (a0 < 128) = true := decide_eq_true c2
    clear c2
    obtain ⟨y103, hy103⟩ : ∃ y_ : List Int, y_ = (([(a0) % 256] : List Int)) := ⟨_, rfl⟩
    replace H : (some y103) = some r := by first | (rw [hy103]; with_reducible exact H) | (have H2_ := (Option.bind_some _ _).symm.trans H; rw [hy103]; with_reducible exact H2_) | (have H2_ := (Option.bind_some _ _).symm.trans H; with_reducible exact H2_) | with_reducible exact H | (rw [hy103]; exact H) | exact H
    have Ny103 := Aside0.mk hy103
    clear hy103
    obtain rfl := Option.some.inj H
    go_enter Try.func5, Try.ntmps5
    go_wp2_with (first | ((with_reducible refine gate_dst (N := 9) rfl ?_); refine Kd.R_lit (Kd.int .u8) _ 5 ?hg (N := 9) ?hd (xs := ([(a0) % 256] : List Int)) (inner := [.int .u8 ((a0) % 256)]) (ok := fun _ => True) (okp := fun _ => True) ?hr ?hp (fun _ hk => hk) trivial (Below.refl _ _) (Nat.le_refl _) (by simp) ?_; (case hd => rfl); (case hg => rfl); (case hr => first | (go_simp; done) | (go_simp; rfl)); (case hp => exact (Reps.one (show Kd.M (Kd.int .u8) _ _ _ ((a0) % 256) [.int .u8 ((a0) % 256)] from rfl) (Reps.none _ _))); intro v104 w3 ho4 hb hg_ hnew_; clear hg_ hnew_; (first | rw [← Ny103.out] at ho4 | (simp only [Int.reduceToNat] at ho4; rw [← Ny103.out] at ho4)); have n0_ := Aside0.mk (Kd.R_lower ho4 (below_size (by repeat (first | (with_reducible first | exact HB.out | apply below_alloc | apply pw_below_drewN | apply below_drew1) | exact HB.out)))); have n1_ := Aside0.mk (below_step (by repeat (first | (with_reducible first | exact HB.out | apply below_alloc | apply pw_below_drewN | apply below_drew1) | exact HB.out)) hb); clear HB; have HO105 := n0_; have HB := n1_; clear n0_ n1_; clear hb ho4))
    go_ret
    exact ⟨_, by first | rfl | (simp [errW_none, errW_some] <;> rfl) | (simp [*, errW_none, errW_some] <;> rfl), by (with_reducible repeat (first | apply Kd.R_alloc | apply Kd.R_drewN | apply Kd.R_drew)); exact HO105.out, by repeat (first | (with_reducible first | exact HB.out | apply below_alloc | apply pw_below_drewN | apply below_drew1) | exact HB.out)⟩
  · rw [if_neg c2] at H
    have c2b0 : decide (a0 < 128) = false := decide_eq_false c2
    clear c2
    have H' := Aside0.mk H
    clear H
    go_enter Try.func5, Try.ntmps5
    go_wp2
    go_loopg [3] k (fun kq v3 w' => ∃ (x3_1 : Int), v3 = .int .i64 x3_1 ∧ Aside0 (spec_Coded.l0 kq a0 x3_1 = some r) ∧ Aside0 (kq ≤ k) ∧ Aside0 (Below w.heap.size w w'))
    case atStart => exact ⟨(2), (by first | rfl | (simp; done) | (simp [*]; done)), H', ⟨Nat.le_refl _⟩, ⟨by repeat (first | (with_reducible first | exact HB.out | apply below_alloc | apply pw_below_drewN | apply below_drew1) | exact HB.out)⟩⟩
    case round =>
      clear H'
      try clear c2
      try clear c2b0
      try clear p2
      obtain ⟨x3_1, rfl, HA, HK1, HB⟩ := hrel
      cases gk with
      | zero => exact absurd HA.out (by simp [spec_Coded.l0])
      | succ k1 =>
        have H := HA.out
        clear HA
        simp only [spec_Coded.l0] at H
        obtain ⟨ji5, hji5⟩ : ∃ j_ : Int, (wrap64 ((wrap64 (5 * x3_1)) + 1)) = j_ := ⟨_, rfl⟩
        replace H : (if 0 ≤ (ji5) then (if (shr .u64 a0 (ji5)) > 0 then (spec_Coded.l0 k1 a0 (wrap64 (x3_1 + 1))) else (spec_Coded.l1 k1 a0 x3_1 (([] : List Int)) (wrap64 (x3_1 - 1)) 0)) else (none)) = some r := by first | (rw [hji5] at H; exact H) | (simp only [hji5] at H ⊢; exact H)
        have hji5w : (IntKind.i64.wrap ((wrap64 (5 * x3_1)) + 1)) = ji5 := (i64_w _).trans hji5
        by_cases c6 : 0 ≤ (ji5)
        · rw [if_pos c6] at H
          have c6b0 := eq_true c6
          have c6b1 : decide (0 ≤ (ji5)) = true := decide_eq_true c6
          clear c6
          obtain ⟨ji7, hji7⟩ : ∃ j_ : Int, (shr .u64 a0 (ji5)) = j_ := ⟨_, rfl⟩
          replace H : (if (ji7) > 0 then (spec_Coded.l0 k1 a0 (wrap64 (x3_1 + 1))) else (spec_Coded.l1 k1 a0 x3_1 (([] : List Int)) (wrap64 (x3_1 - 1)) 0)) = some r := by first | (rw [hji7] at H; exact H) | (simp only [hji7] at H ⊢; exact H)
          have hji7_ : (a0 / 2 ^ min (ji5).toNat 64) = ji7 := hji7
          have hji7z : (ji5) ≤ 64 → (a0 / 2 ^ (ji5).toNat) = ji7 := shr_small hji7
          by_cases c8 : (ji7) > 0
          · rw [if_pos c8] at H
            have c8b0 : decide (0 < (ji7)) = true := decide_eq_true c8
            clear c8
            have H' := Aside0.mk H
            clear H
            go_wp2
            go_roundg k1
            case measure => have := HK1.out; omega
            case rel => exact ⟨(wrap64 (x3_1 + 1)), (by first | rfl | (simp; done) | (simp [*]; done)), H', ⟨by have := HK1.out; omega⟩, ⟨by repeat (first | (with_reducible first | exact HB.out | apply below_alloc | apply pw_below_drewN | apply below_drew1) | exact HB.out)⟩⟩
          · rw [if_neg c8] at H
            have c8b0 : decide (0 < (ji7)) = false := decide_eq_false c8
            clear c8
            obtain ⟨y106, hy106⟩ : ∃ y_ : List Int, y_ = (([] : List Int)) := ⟨_, rfl⟩
            replace H : (spec_Coded.l1 k1 a0 x3_1 y106 (wrap64 (x3_1 - 1)) 0) = some r := by first | (rw [hy106]; with_reducible exact H) | (have H2_ := (Option.bind_some _ _).symm.trans H; rw [hy106]; with_reducible exact H2_) | (have H2_ := (Option.bind_some _ _).symm.trans H; with_reducible exact H2_) | with_reducible exact H | (rw [hy106]; exact H) | exact H
            have Ny106 := Aside0.mk hy106
            clear hy106
            have H' := Aside0.mk H
            clear H
            go_wp2_with (first | ((with_reducible refine gate_dst (N := 18) rfl ?_); refine Kd.R_lit (Kd.int .u8) _ 5 ?hg (N := 18) ?hd (xs := ([] : List Int)) (inner := []) (ok := fun _ => True) (okp := fun _ => True) ?hr ?hp (fun _ hk => hk) trivial (Below.refl _ _) (Nat.le_refl _) (by simp) ?_; (case hd => rfl); (case hg => rfl); (case hr => first | (go_simp; done) | (go_simp; rfl)); (case hp => exact (Reps.none _ _)); intro v107 w9 ho10 hb hg_ hnew_; clear hg_ hnew_; (first | rw [← Ny106.out] at ho10 | (simp only [Int.reduceToNat] at ho10; rw [← Ny106.out] at ho10)); have n0_ := Aside0.mk (Kd.R_lower ho10 (below_size (by repeat (first | (with_reducible first | exact HB.out | apply below_alloc | apply pw_below_drewN | apply below_drew1) | exact HB.out)))); have n1_ := Aside0.mk (below_step (by repeat (first | (with_reducible first | exact HB.out | apply below_alloc | apply pw_below_drewN | apply below_drew1) | exact HB.out)) hb); clear HB; have HO108 := n0_; have HB := n1_; clear n0_ n1_; clear hb ho10))
            go_loopg [0, 4, 21] k1 (fun kq v0 v4 v21 w' => ∃ (x0_2 : Int) (x4_2 : List Int) (x21_2 : Int), v0 = .int .u64 x0_2 ∧ v21 = .int .i64 x21_2 ∧ Aside0 (spec_Coded.l1 kq x0_2 x3_1 x4_2 (wrap64 (x3_1 - 1)) x21_2 = some r) ∧ Aside0 (kq ≤ k1) ∧ Aside0 (Kd.R (Kd.int .u8) 5 w' w.heap.size (fun _ => True) v4 x4_2) ∧ Aside0 (Below w.heap.size w w'))
            case atStart => exact ⟨(a0), (y106), (0), (by first | rfl | (simp; done) | (simp [*]; done)), (by first | rfl | (simp; done) | (simp [*]; done)), H', ⟨Nat.le_refl _⟩, ⟨by (with_reducible repeat (first | apply Kd.R_alloc | apply Kd.R_drewN | apply Kd.R_drew)); exact HO108.out⟩, ⟨by repeat (first | (with_reducible first | exact HB.out | apply below_alloc | apply pw_below_drewN | apply below_drew1) | exact HB.out)⟩⟩
            case round =>
              clear H'
              try clear c2
              try clear c2b0
              try clear p2
              try clear c5
              try clear c6
              try clear c6b0
              try clear c6b1
              try clear p6
              try clear c8
              try clear c8b0
              try clear p2
              obtain ⟨x0_2, x4_2, x21_2, rfl, rfl, HA, HK2, HO_4, HB⟩ := hrel
              cases gk with
              | zero => exact absurd HA.out (by simp [spec_Coded.l1])
              | succ k2 =>
                have H := HA.out
                clear HA
                simp only [spec_Coded.l1] at H
                by_cases c11 : x21_2 < (wrap64 (x3_1 - 1))
                · rw [if_pos c11] at H
                  have c11b0 : decide (x21_2 < (wrap64 (x3_1 - 1))) = true := decide_eq_true c11
                  clear c11
                  obtain ⟨y109, hy109⟩ : ∃ y_ : List Int, y_ = (([(Go.bits .or .u64 128 (Go.bits .and .u64 x0_2 63)) % 256] : List Int)) := ⟨_, rfl⟩
                  replace H : (if y109.length + x4_2.length < 140737488355328 then (spec_Coded.l1 k2 (x0_2 / 64) x3_1 (y109 ++ x4_2) (wrap64 (x3_1 - 1)) (wrap64 (x21_2 + 1))) else (none)) = some r := by first | (rw [hy109]; with_reducible exact H) | (have H2_ := (Option.bind_some _ _).symm.trans H; rw [hy109]; with_reducible exact H2_) | (have H2_ := (Option.bind_some _ _).symm.trans H; with_reducible exact H2_) | with_reducible exact H | (rw [hy109]; exact H) | exact H
                  have Ny109 := Aside0.mk hy109
                  clear hy109
                  by_cases c12 : y109.length + x4_2.length < 140737488355328
                  · rw [if_pos c12] at H
                    have LMc12 := Aside0.mk c12
                    clear c12
                    obtain ⟨y112, hy112⟩ : ∃ y_ : List Int, y_ = (y109 ++ x4_2) := ⟨_, rfl⟩
                    replace H : (spec_Coded.l1 k2 (x0_2 / 64) x3_1 y112 (wrap64 (x3_1 - 1)) (wrap64 (x21_2 + 1))) = some r := by first | (rw [hy112]; with_reducible exact H) | (have H2_ := (Option.bind_some _ _).symm.trans H; rw [hy112]; with_reducible exact H2_) | (have H2_ := (Option.bind_some _ _).symm.trans H; with_reducible exact H2_) | with_reducible exact H | (rw [hy112]; exact H) | exact H
                    have Ny112 := Aside0.mk hy112
                    clear hy112
                    have H' := Aside0.mk H
                    clear H
                    go_wp2_with (first | ((with_reducible refine gate_dst (N := 27) rfl ?_); refine Kd.R_lit (Kd.int .u8) _ 5 ?hg (N := 27) ?hd (xs := ([(Go.bits .or .u64 128 (Go.bits .and .u64 x0_2 63)) % 256] : List Int)) (inner := [.int .u8 ((Go.bits .or .u64 128 (Go.bits .and .u64 x0_2 63)) % 256)]) (ok := fun _ => True) (okp := fun _ => True) ?hr ?hp (fun _ hk => hk) trivial (Below.refl _ _) (Nat.le_refl _) (by simp) ?_; (case hd => rfl); (case hg => rfl); (case hr => first | (go_simp; done) | (go_simp; rfl)); (case hp => exact (Reps.one (show Kd.M (Kd.int .u8) _ _ _ ((Go.bits .or .u64 128 (Go.bits .and .u64 x0_2 63)) % 256) [.int .u8 ((Go.bits .or .u64 128 (Go.bits .and .u64 x0_2 63)) % 256)] from rfl) (Reps.none _ _))); intro v110 w13 ho14 hb hg_ hnew_; clear hg_ hnew_; (first | rw [← Ny109.out] at ho14 | (simp only [Int.reduceToNat] at ho14; rw [← Ny109.out] at ho14)); have n0_ := Aside0.mk (Kd.R_elder' (by (with_reducible repeat (first | apply Kd.R_alloc | apply Kd.R_drewN | apply Kd.R_drew)); exact HO_4.out) (Kd.R_base ho14) hb); have n1_ := Aside0.mk (Kd.R_lower (Kd.R_new' ho14 (Kd.R_lt (by (with_reducible repeat (first | apply Kd.R_alloc | apply Kd.R_drewN | apply Kd.R_drew)); exact HO_4.out))) (below_size (by repeat (first | (with_reducible first | exact HB.out | apply below_alloc | apply pw_below_drewN | apply below_drew1) | exact HB.out)))); have n2_ := Aside0.mk (below_step (by repeat (first | (with_reducible first | exact HB.out | apply below_alloc | apply pw_below_drewN | apply below_drew1) | exact HB.out)) hb); clear HO_4; clear HB; have HO_4 := n0_; have HO111 := n1_; have HB := n2_; clear n0_ n1_ n2_; clear hb ho14; obtain ⟨Ao16, co16, eo16⟩ := Kd.R_slice HO_4.out; subst eo16) | ((with_reducible refine gate_builtin (b := .append) (xs := #[.tmp 27, .tmp 28]) rfl ?_); at_builtin; refine Kd.R_append_rows (Kd.int .u8) (w0 := w) w.heap.size rfl (.tmp 27) (.tmp 28) 23 5 (.int .u8 0) 1 rfl Try.underlying23 info5 rfl (by decide) (by omega) v110 y109 x4_2 _ _ _ (fun k_ => some k_ ≠ (.slice Ao16 x4_2.length co16 : Value).ownBlock) (fun _ => False) rfl rfl ?aO ?aR (fun _ _ h => h) (fun _ h => h.elim) ?aF ?aB ?aS ?aL ?_; (case aR => repeat (first | exact (Kd.R_reads' HO_4.out).2.2 | (with_reducible refine Kd.C_alloc ?_ _) | (with_reducible refine Kd.C_drewN ?_ _) | (with_reducible refine Kd.C_drew ?_))); (case aB => exact (by repeat (first | (with_reducible first | exact HB.out | apply below_alloc | apply pw_below_drewN | apply below_drew1) | exact HB.out))); (case aF => exact (fun k_ hk => Kd.fresh' (Kd.R_lt (by (with_reducible repeat (first | apply Kd.R_alloc | apply Kd.R_drewN | apply Kd.R_drew)); exact HO_4.out)) k_ hk)); (case aO => exact (by (with_reducible repeat (first | apply Kd.R_alloc | apply Kd.R_drewN | apply Kd.R_drew)); exact Kd.R_mono HO111.out (fun _ hk => hk.2))); (case aS => exact (below_size (by repeat (first | (with_reducible first | exact HB.out | apply below_alloc | apply pw_below_drewN | apply below_drew1) | exact HB.out)))); (case aL => have := LMc12.out; omega); intro v113 w15 ho hb hg hat; rw [← Ny112.out] at ho; have n0_ := Aside0.mk (Kd.R_after (ok := (fun _ => True)) (by (with_reducible repeat (first | apply Kd.R_alloc | apply Kd.R_drewN | apply Kd.R_drew)); exact HO_4.out) hg hat); have n1_ := Aside0.mk (hb); have n2_ := Aside0.mk (ho); clear HO_4; clear HB; clear HO111; have HO_4 := n0_; have HB := n1_; have HO114 := n2_; clear n0_ n1_ n2_; clear ho hb hg hat))
                    go_roundg k2
                    case measure => have := HK1.out; have := HK2.out; omega
                    case rel => exact ⟨(x0_2 / 64), (y112), (wrap64 (x21_2 + 1)), (by first | rfl | (simp; done) | (simp [*]; done)), (by first | rfl | (simp; done) | (simp [*]; done)), H', ⟨by have := HK1.out; have := HK2.out; omega⟩, ⟨by (with_reducible repeat (first | apply Kd.R_alloc | apply Kd.R_drewN | apply Kd.R_drew)); exact Kd.R_mono HO114.out (fun _ hk => trivial)⟩, ⟨by repeat (first | (with_reducible first | exact HB.out | apply below_alloc | apply pw_below_drewN | apply below_drew1) | exact HB.out)⟩⟩
                  · rw [if_neg c12] at H
                    exact absurd H (by simp)
                · rw [if_neg c11] at H
                  have c11b0 : decide (x21_2 < (wrap64 (x3_1 - 1))) = false := decide_eq_false c11
                  clear c11
                  by_cases c17 : 0 ≤ x3_1
                  · rw [if_pos c17] at H
                    have c17b0 := eq_true c17
                    have c17b1 : decide (0 ≤ x3_1) = true := decide_eq_true c17
                    clear c17
                    obtain ⟨ji18, hji18⟩ : ∃ j_ : Int, (shr .u64 65280 x3_1) = j_ := ⟨_, rfl⟩
                    replace H : ((some (([Go.bits .or .u8 ((Go.bits .and .u64 (ji18) 255) % 256) ((x0_2) % 256)] : List Int) : List Int)).bind fun y115 => (if y115.length + x4_2.length < 140737488355328 then (some (y115 ++ x4_2)) else (none))) = some r := by first | (rw [hji18] at H; exact H) | (simp only [hji18] at H ⊢; exact H)
                    have hji18_ : (65280 / 2 ^ min x3_1.toNat 64) = ji18 := hji18
                    have hji18z : x3_1 ≤ 64 → (65280 / 2 ^ x3_1.toNat) = ji18 := shr_small hji18
                    obtain ⟨y115, hy115⟩ : ∃ y_ : List Int, y_ = (([Go.bits .or .u8 ((Go.bits .and .u64 (ji18) 255) % 256) ((x0_2) % 256)] : List Int)) := ⟨_, rfl⟩
                    replace H : (if y115.length + x4_2.length < 140737488355328 then (some (y115 ++ x4_2)) else (none)) = some r := by first | (rw [hy115]; with_reducible exact H) | (have H2_ := (Option.bind_some _ _).symm.trans H; rw [hy115]; with_reducible exact H2_) | (have H2_ := (Option.bind_some _ _).symm.trans H; with_reducible exact H2_) | with_reducible exact H | (rw [hy115]; exact H) | exact H
                    have Ny115 := Aside0.mk hy115
                    clear hy115
                    by_cases c19 : y115.length + x4_2.length < 140737488355328
                    · rw [if_pos c19] at H
                      have LMc19 := Aside0.mk c19
                      clear c19
                      obtain ⟨y118, hy118⟩ : ∃ y_ : List Int, y_ = (y115 ++ x4_2) := ⟨_, rfl⟩
                      replace H : (some y118) = some r := by first | (rw [hy118]; with_reducible exact H) | (have H2_ := (Option.bind_some _ _).symm.trans H; rw [hy118]; with_reducible exact H2_) | (have H2_ := (Option.bind_some _ _).symm.trans H; with_reducible exact H2_) | with_reducible exact H | (rw [hy118]; exact H) | exact H
                      have Ny118 := Aside0.mk hy118
                      clear hy118
                      obtain rfl := Option.some.inj H
                      go_wp2_with (first | ((with_reducible refine gate_dst (N := 40) rfl ?_); refine Kd.R_lit (Kd.int .u8) _ 5 ?hg (N := 40) ?hd (xs := ([Go.bits .or .u8 ((Go.bits .and .u64 (ji18) 255) % 256) ((x0_2) % 256)] : List Int)) (inner := [.int .u8 (Go.bits .or .u8 ((Go.bits .and .u64 (ji18) 255) % 256) ((x0_2) % 256))]) (ok := fun _ => True) (okp := fun _ => True) ?hr ?hp (fun _ hk => hk) trivial (Below.refl _ _) (Nat.le_refl _) (by simp) ?_; (case hd => rfl); (case hg => rfl); (case hr => first | (go_simp; done) | (go_simp; rfl)); (case hp => exact (Reps.one (show Kd.M (Kd.int .u8) _ _ _ (Go.bits .or .u8 ((Go.bits .and .u64 (ji18) 255) % 256) ((x0_2) % 256)) [.int .u8 (Go.bits .or .u8 ((Go.bits .and .u64 (ji18) 255) % 256) ((x0_2) % 256))] from rfl) (Reps.none _ _))); intro v116 w20 ho21 hb hg_ hnew_; clear hg_ hnew_; (first | rw [← Ny115.out] at ho21 | (simp only [Int.reduceToNat] at ho21; rw [← Ny115.out] at ho21)); have n0_ := Aside0.mk (Kd.R_elder' (by (with_reducible repeat (first | apply Kd.R_alloc | apply Kd.R_drewN | apply Kd.R_drew)); exact HO_4.out) (Kd.R_base ho21) hb); have n1_ := Aside0.mk (Kd.R_lower (Kd.R_new' ho21 (Kd.R_lt (by (with_reducible repeat (first | apply Kd.R_alloc | apply Kd.R_drewN | apply Kd.R_drew)); exact HO_4.out))) (below_size (by repeat (first | (with_reducible first | exact HB.out | apply below_alloc | apply pw_below_drewN | apply below_drew1) | exact HB.out)))); have n2_ := Aside0.mk (below_step (by repeat (first | (with_reducible first | exact HB.out | apply below_alloc | apply pw_below_drewN | apply below_drew1) | exact HB.out)) hb); clear HO_4; clear HB; have HO_4 := n0_; have HO117 := n1_; have HB := n2_; clear n0_ n1_ n2_; clear hb ho21; obtain ⟨Ao23, co23, eo23⟩ := Kd.R_slice HO_4.out; subst eo23) | ((with_reducible refine gate_builtin (b := .append) (xs := #[.tmp 40, .tmp 41]) rfl ?_); at_builtin; refine Kd.R_append_rows (Kd.int .u8) (w0 := w) w.heap.size rfl (.tmp 40) (.tmp 41) 23 5 (.int .u8 0) 1 rfl Try.underlying23 info5 rfl (by decide) (by omega) v116 y115 x4_2 _ _ _ (fun k_ => some k_ ≠ (.slice Ao23 x4_2.length co23 : Value).ownBlock) (fun _ => False) rfl rfl ?aO ?aR (fun _ _ h => h) (fun _ h => h.elim) ?aF ?aB ?aS ?aL ?_; (case aR => repeat (first | exact (Kd.R_reads' HO_4.out).2.2 | (with_reducible refine Kd.C_alloc ?_ _) | (with_reducible refine Kd.C_drewN ?_ _) | (with_reducible refine Kd.C_drew ?_))); (case aB => exact (by repeat (first | (with_reducible first | exact HB.out | apply below_alloc | apply pw_below_drewN | apply below_drew1) | exact HB.out))); (case aF => exact (fun k_ hk => Kd.fresh' (Kd.R_lt (by (with_reducible repeat (first | apply Kd.R_alloc | apply Kd.R_drewN | apply Kd.R_drew)); exact HO_4.out)) k_ hk)); (case aO => exact (by (with_reducible repeat (first | apply Kd.R_alloc | apply Kd.R_drewN | apply Kd.R_drew)); exact Kd.R_mono HO117.out (fun _ hk => hk.2))); (case aS => exact (below_size (by repeat (first | (with_reducible first | exact HB.out | apply below_alloc | apply pw_below_drewN | apply below_drew1) | exact HB.out)))); (case aL => have := LMc19.out; omega); intro v119 w22 ho hb hg hat; rw [← Ny118.out] at ho; have n0_ := Aside0.mk (Kd.R_after (ok := (fun _ => True)) (by (with_reducible repeat (first | apply Kd.R_alloc | apply Kd.R_drewN | apply Kd.R_drew)); exact HO_4.out) hg hat); have n1_ := Aside0.mk (hb); have n2_ := Aside0.mk (ho); clear HO_4; clear HB; clear HO117; have HO_4 := n0_; have HB := n1_; have HO120 := n2_; clear n0_ n1_ n2_; clear ho hb hg hat))
                      go_ret
                      exact ⟨_, by first | rfl | (simp [errW_none, errW_some] <;> rfl) | (simp only [← hji5, ← hji7, ← hji18]; first | rfl | (simp [errW_none, errW_some] <;> rfl)) | (simp [*, errW_none, errW_some] <;> rfl), by (with_reducible repeat (first | apply Kd.R_alloc | apply Kd.R_drewN | apply Kd.R_drew)); exact Kd.R_mono HO120.out (fun _ hk => trivial), by repeat (first | (with_reducible first | exact HB.out | apply below_alloc | apply pw_below_drewN | apply below_drew1) | exact HB.out)⟩
                    · rw [if_neg c19] at H
                      exact absurd H (by simp)
                  · rw [if_neg c17] at H
                    exact absurd H (by simp)
        · rw [if_neg c6] at H
          exact absurd H (by simp)

-- NOT PRINTED: function 3 (laws_FnNumberText)

end Go.Proofs.Ytfpeoadgbidahaa.PFnNumberText
