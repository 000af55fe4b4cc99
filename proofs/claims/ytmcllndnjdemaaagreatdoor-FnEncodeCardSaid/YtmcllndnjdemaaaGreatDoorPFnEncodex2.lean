/- Laws for the walks. -/
import Derived.Test.YtmcllndnjdemaaaGreatDoorPFnEncodex0
namespace Go.Proofs.YtmcllndnjdemaaaGreatDoor.PFnEncode
open Go.RowKit Go.Proofs.YtmcllndnjdemaaaGreatDoorW.PrintWords Go.Proofs.YtmcllndnjdemaaaGreatDoorW.PrintLast Go.Proofs.YtmcllndnjdemaaaGreatDoorW.PrintMore
attribute [local go_sem] max2_int min2_int max_two min_two max_three min_three max_four min_four   -- for this text's walks alone
set_option linter.unusedVariables false
set_option linter.unusedSimpArgs false
mutual
def spec_Coded.l0 : Nat → Int → Int → Option (List Int)
 | 0, _, _ => none
 | k + 1, x0, x3 => if 0 ≤ (wrap64 ((wrap64 (5 * x3)) + 1)) then (if (shr .u64 x0 (wrap64 ((wrap64 (5 * x3)) + 1))) > 0 then (spec_Coded.l0 k x0 (wrap64 (x3 + 1))) else (spec_Coded.l1 k x0 x3 (([] : List Int)) (wrap64 (x3 - 1)) 0)) else (none)
def spec_Coded.l1 : Nat → Int → Int → List Int → Int → Int → Option (List Int)
 | 0, _, _, _, _, _ => none
 | k + 1, x0, x3, x4, x20, x21 => if x21 < x20 then ((some (([(Go.bits .or .u64 128 (Go.bits .and .u64 x0 63)) % 256] : List Int) : List Int)).bind fun y155 => (if y155.length + x4.length < 140737488355328 then (spec_Coded.l1 k (x0 / 64) x3 (y155 ++ x4) x20 (wrap64 (x21 + 1))) else (none))) else (if 0 ≤ x3 then ((some (([Go.bits .or .u8 ((Go.bits .and .u64 (shr .u64 65280 x3) 255) % 256) ((x0) % 256)] : List Int) : List Int)).bind fun y161 => (if y161.length + x4.length < 140737488355328 then (some (y161 ++ x4)) else (none))) else (none))
end
def spec_Coded.f (k : Nat) (a0 : Int) : Option (List Int) := if a0 < 128 then (some (([(a0) % 256] : List Int))) else (spec_Coded.l0 k a0 2)
set_option maxHeartbeats 8000000 in
set_option maxRecDepth 100000 in
theorem spec_Coded.calls (k : Nat) (a0 : Int) (r : List Int) (w : World) (h : spec_Coded.f k a0 = some r) :
  Calls Tryz.prog 50 #[.int .u64 a0] w fun e w' => ∃ v0_ : Value, e = .returned (v0_) ∧ Kd.R (Kd.int .u8) 5 w' w.heap.size (fun _ => True) v0_ r ∧ Below w.heap.size w w' := by
 have HB := Aside0.mk (Below.refl w.heap.size w)
 have H : (if a0 < 128 then (some (([(a0) % 256] : List Int))) else (spec_Coded.l0 k a0 2)) = some r := h
 clear h
 by_cases c2 : a0 < 128
 ·rw [if_pos c2] at H
  have c2b0 : decide (a0 < 128) = true := decide_eq_true c2
  clear c2
  obtain ⟨y149, hy149⟩ : ∃ y_ : List Int, y_ = (([(a0) % 256] : List Int)) := ⟨_, rfl⟩
  replace H : (some y149) = some r := by first | (rw [hy149]; with_reducible exact H) | (have H2_ := (Option.bind_some _ _).symm.trans H; rw [hy149]; with_reducible exact H2_) | (have H2_ := (Option.bind_some _ _).symm.trans H; with_reducible exact H2_) | with_reducible exact H | (rw [hy149]; exact H) | exact H
  have Ny149 := Aside0.mk hy149
  clear hy149
  obtain rfl := Option.some.inj H
  go_enter Tryz.func50, Tryz.ntmps50
  go_wp2_with (first | ((with_reducible refine gate_dst (N := 9) rfl ?_); refine Kd.R_lit (Kd.int .u8) _ 5 ?hg (N := 9) ?hd (xs := ([(a0) % 256] : List Int)) (inner := [.int .u8 ((a0) % 256)]) (ok := fun _ => True) (okp := fun _ => True) ?hr ?hp (fun _ hk => hk) trivial (Below.refl _ _) (Nat.le_refl _) (by simp) ?_; (case hd => rfl); (case hg => rfl); (case hr => first | (go_simp; done) | (go_simp; rfl)); (case hp => exact (Reps.one (show Kd.M (Kd.int .u8) _ _ _ ((a0) % 256) [.int .u8 ((a0) % 256)] from rfl) (Reps.none _ _))); intro v150 w3 ho4 hb hg_ hnew_; clear hg_ hnew_; (first | rw [← Ny149.out] at ho4 | (simp only [Int.reduceToNat] at ho4; rw [← Ny149.out] at ho4)); have n0_ := Aside0.mk (Kd.R_lower ho4 (below_size (by repeat (first | (with_reducible first | exact HB.out | apply below_alloc | apply pw_below_drewN | apply below_drew1) | exact HB.out)))); have n1_ := Aside0.mk (below_step (by repeat (first | (with_reducible first | exact HB.out | apply below_alloc | apply pw_below_drewN | apply below_drew1) | exact HB.out)) hb); clear HB; have HO151 := n0_; have HB := n1_; clear n0_ n1_; clear hb ho4))
  go_ret
  exact ⟨_, by first | rfl | (simp [errW_none, errW_some] <;> rfl) | (simp [*, errW_none, errW_some] <;> rfl), by (with_reducible repeat (first | apply Kd.R_alloc | apply Kd.R_drewN | apply Kd.R_drew)); exact HO151.out, by repeat (first | (with_reducible first | exact HB.out | apply below_alloc | apply pw_below_drewN | apply below_drew1) | exact HB.out)⟩
 ·rw [if_neg c2] at H
  have c2b0 : decide (a0 < 128) = false := decide_eq_false c2
  clear c2
  have H' := Aside0.mk H
  clear H
  go_enter Tryz.func50, Tryz.ntmps50
  go_wp2
  go_loopg [3] k (fun kq v3 w' => ∃ (x3_1 : Int), v3 = .int .i64 x3_1 ∧ Aside0 (spec_Coded.l0 kq a0 x3_1 = some r) ∧ Aside0 (kq ≤ k) ∧ Aside0 (Below w.heap.size w w'))
  case atStart => exact ⟨(2), (by first | rfl | (simp; done) | (simp [*]; done)), H', ⟨Nat.le_refl _⟩, ⟨by repeat (first | (with_reducible first | exact HB.out | apply below_alloc | apply pw_below_drewN | apply below_drew1) | exact HB.out)⟩⟩
  case round =>
   clear H'
   try clear c2
   try clear c2b0
   try clear p2
   obtain ⟨x3_1, rfl, HA, HK1, HB⟩ := hrel
   cases gk with
   | zero => exact absurd HA.out (by simp [spec_Coded.l0])
   | succ k1 =>
    have H := HA.out
    clear HA
    simp only [spec_Coded.l0] at H
    obtain ⟨ji5, hji5⟩ : ∃ j_ : Int, (wrap64 ((wrap64 (5 * x3_1)) + 1)) = j_ := ⟨_, rfl⟩
    replace H : (if 0 ≤ (ji5) then (if (shr .u64 a0 (ji5)) > 0 then (spec_Coded.l0 k1 a0 (wrap64 (x3_1 + 1))) else (spec_Coded.l1 k1 a0 x3_1 (([] : List Int)) (wrap64 (x3_1 - 1)) 0)) else (none)) = some r := by first | (rw [hji5] at H; exact H) | (simp only [hji5] at H ⊢; exact H)
    have hji5w : (IntKind.i64.wrap ((wrap64 (5 * x3_1)) + 1)) = ji5 := (i64_w _).trans hji5
    by_cases c6 : 0 ≤ (ji5)
    ·rw [if_pos c6] at H
     have c6b0 := eq_true c6
     have c6b1 : decide (0 ≤ (ji5)) = true := decide_eq_true c6
     clear c6
     obtain ⟨ji7, hji7⟩ : ∃ j_ : Int, (shr .u64 a0 (ji5)) = j_ := ⟨_, rfl⟩
     replace H : (if (ji7) > 0 then (spec_Coded.l0 k1 a0 (wrap64 (x3_1 + 1))) else (spec_Coded.l1 k1 a0 x3_1 (([] : List Int)) (wrap64 (x3_1 - 1)) 0)) = some r := by first | (rw [hji7] at H; exact H) | (simp only [hji7] at H ⊢; exact H)
     have hji7_ : (a0 / 2 ^ min (ji5).toNat 64) = ji7 := hji7
     have hji7z : (ji5) ≤ 64 → (a0 / 2 ^ (ji5).toNat) = ji7 := shr_small hji7
     by_cases c8 : (ji7) > 0
     ·rw [if_pos c8] at H
      have c8b0 : decide (0 < (ji7)) = true := decide_eq_true c8
      clear c8
      have H' := Aside0.mk H
      clear H
      go_wp2
      go_roundg k1
      case measure => have := HK1.out; omega
      case rel => exact ⟨(wrap64 (x3_1 + 1)), (by first | rfl | (simp; done) | (simp [*]; done)), H', ⟨by have := HK1.out; omega⟩, ⟨by repeat (first | (with_reducible first | exact HB.out | apply below_alloc | apply pw_below_drewN | apply below_drew1) | exact HB.out)⟩⟩
     ·rw [if_neg c8] at H
      have c8b0 : decide (0 < (ji7)) = false := decide_eq_false c8
      clear c8
      obtain ⟨y152, hy152⟩ : ∃ y_ : List Int, y_ = (([] : List Int)) := ⟨_, rfl⟩
      replace H : (spec_Coded.l1 k1 a0 x3_1 y152 (wrap64 (x3_1 - 1)) 0) = some r := by first | (rw [hy152]; with_reducible exact H) | (have H2_ := (Option.bind_some _ _).symm.trans H; rw [hy152]; with_reducible exact H2_) | (have H2_ := (Option.bind_some _ _).symm.trans H; with_reducible exact H2_) | with_reducible exact H | (rw [hy152]; exact H) | exact H
      have Ny152 := Aside0.mk hy152
      clear hy152
      have H' := Aside0.mk H
      clear H
      go_wp2_with (first | ((with_reducible refine gate_dst (N := 18) rfl ?_); refine Kd.R_lit (Kd.int .u8) _ 5 ?hg (N := 18) ?hd (xs := ([] : List Int)) (inner := []) (ok := fun _ => True) (okp := fun _ => True) ?hr ?hp (fun _ hk => hk) trivial (Below.refl _ _) (Nat.le_refl _) (by simp) ?_; (case hd => rfl); (case hg => rfl); (case hr => first | (go_simp; done) | (go_simp; rfl)); (case hp => exact (Reps.none _ _)); intro v153 w9 ho10 hb hg_ hnew_; clear hg_ hnew_; (first | rw [← Ny152.out] at ho10 | (simp only [Int.reduceToNat] at ho10; rw [← Ny152.out] at ho10)); have n0_ := Aside0.mk (Kd.R_lower ho10 (below_size (by repeat (first | (with_reducible first | exact HB.out | apply below_alloc | apply pw_below_drewN | apply below_drew1) | exact HB.out)))); have n1_ := Aside0.mk (below_step (by repeat (first | (with_reducible first | exact HB.out | apply below_alloc | apply pw_below_drewN | apply below_drew1) | exact HB.out)) hb); clear HB; have HO154 := n0_; have HB := n1_; clear n0_ n1_; clear hb ho10))
      go_loopg [0, 4, 21] k1 (fun kq v0 v4 v21 w' => ∃ (x0_2 : Int) (x4_2 : List Int) (x21_2 : Int), v0 = .int .u64 x0_2 ∧ v21 = .int .i64 x21_2 ∧ Aside0 (spec_Coded.l1 kq x0_2 x3_1 x4_2 (wrap64 (x3_1 - 1)) x21_2 = some r) ∧ Aside0 (kq ≤ k1) ∧ Aside0 (Kd.R (Kd.int .u8) 5 w' w.heap.size (fun _ => True) v4 x4_2) ∧ Aside0 (Below w.heap.size w w'))
      case atStart => exact ⟨(a0), (y152), (0), (by first | rfl | (simp; done) | (simp [*]; done)), (by first | rfl | (simp; done) | (simp [*]; done)), H', ⟨Nat.le_refl _⟩, ⟨by (with_reducible repeat (first | apply Kd.R_alloc | apply Kd.R_drewN | apply Kd.R_drew)); exact HO154.out⟩, ⟨by repeat (first | (with_reducible first | exact HB.out | apply below_alloc | apply pw_below_drewN | apply below_drew1) | exact HB.out)⟩⟩
      case round =>
       clear H'
       try clear c2
       try clear c2b0
       try clear p2
       try clear c5
       try clear c6
       try clear c6b0
       try clear c6b1
       try clear p6
       try clear c8
       try clear c8b0
       try clear p2
       obtain ⟨x0_2, x4_2, x21_2, rfl, rfl, HA, HK2, HO_4, HB⟩ := hrel
       cases gk with
       | zero => exact absurd HA.out (by simp [spec_Coded.l1])
       | succ k2 =>
        have H := HA.out
        clear HA
        simp only [spec_Coded.l1] at H
        by_cases c11 : x21_2 < (wrap64 (x3_1 - 1))
        ·rw [if_pos c11] at H
         have c11b0 : decide (x21_2 < (wrap64 (x3_1 - 1))) = true := decide_eq_true c11
         clear c11
         obtain ⟨y155, hy155⟩ : ∃ y_ : List Int, y_ = (([(Go.bits .or .u64 128 (Go.bits .and .u64 x0_2 63)) % 256] : List Int)) := ⟨_, rfl⟩
         replace H : (if y155.length + x4_2.length < 140737488355328 then (spec_Coded.l1 k2 (x0_2 / 64) x3_1 (y155 ++ x4_2) (wrap64 (x3_1 - 1)) (wrap64 (x21_2 + 1))) else (none)) = some r := by first | (rw [hy155]; with_reducible exact H) | (have H2_ := (Option.bind_some _ _).symm.trans H; rw [hy155]; with_reducible exact H2_) | (have H2_ := (Option.bind_some _ _).symm.trans H; with_reducible exact H2_) | with_reducible exact H | (rw [hy155]; exact H) | exact H
         have Ny155 := Aside0.mk hy155
         clear hy155
         by_cases c12 : y155.length + x4_2.length < 140737488355328
         ·rw [if_pos c12] at H
          have LMc12 := Aside0.mk c12
          clear c12
          obtain ⟨y158, hy158⟩ : ∃ y_ : List Int, y_ = (y155 ++ x4_2) := ⟨_, rfl⟩
          replace H : (spec_Coded.l1 k2 (x0_2 / 64) x3_1 y158 (wrap64 (x3_1 - 1)) (wrap64 (x21_2 + 1))) = some r := by first | (rw [hy158]; with_reducible exact H) | (have H2_ := (Option.bind_some _ _).symm.trans H; rw [hy158]; with_reducible exact H2_) | (have H2_ := (Option.bind_some _ _).symm.trans H; with_reducible exact H2_) | with_reducible exact H | (rw [hy158]; exact H) | exact H
          have Ny158 := Aside0.mk hy158
          clear hy158
          have H' := Aside0.mk H
          clear H
          go_wp2_with (first | ((with_reducible refine gate_dst (N := 27) rfl ?_); refine Kd.R_lit (Kd.int .u8) _ 5 ?hg (N := 27) ?hd (xs := ([(Go.bits .or .u64 128 (Go.bits .and .u64 x0_2 63)) % 256] : List Int)) (inner := [.int .u8 ((Go.bits .or .u64 128 (Go.bits .and .u64 x0_2 63)) % 256)]) (ok := fun _ => True) (okp := fun _ => True) ?hr ?hp (fun _ hk => hk) trivial (Below.refl _ _) (Nat.le_refl _) (by simp) ?_; (case hd => rfl); (case hg => rfl); (case hr => first | (go_simp; done) | (go_simp; rfl)); (case hp => exact (Reps.one (show Kd.M (Kd.int .u8) _ _ _ ((Go.bits .or .u64 128 (Go.bits .and .u64 x0_2 63)) % 256) [.int .u8 ((Go.bits .or .u64 128 (Go.bits .and .u64 x0_2 63)) % 256)] from rfl) (Reps.none _ _))); intro v156 w13 ho14 hb hg_ hnew_; clear hg_ hnew_; (first | rw [← Ny155.out] at ho14 | (simp only [Int.reduceToNat] at ho14; rw [← Ny155.out] at ho14)); have n0_ := Aside0.mk (Kd.R_elder' (by (with_reducible repeat (first | apply Kd.R_alloc | apply Kd.R_drewN | apply Kd.R_drew)); exact HO_4.out) (Kd.R_base ho14) hb); have n1_ := Aside0.mk (Kd.R_lower (Kd.R_new' ho14 (Kd.R_lt (by (with_reducible repeat (first | apply Kd.R_alloc | apply Kd.R_drewN | apply Kd.R_drew)); exact HO_4.out))) (below_size (by repeat (first | (with_reducible first | exact HB.out | apply below_alloc | apply pw_below_drewN | apply below_drew1) | exact HB.out)))); have n2_ := Aside0.mk (below_step (by repeat (first | (with_reducible first | exact HB.out | apply below_alloc | apply pw_below_drewN | apply below_drew1) | exact HB.out)) hb); clear HO_4; clear HB; have HO_4 := n0_; have HO157 := n1_; have HB := n2_; clear n0_ n1_ n2_; clear hb ho14; obtain ⟨Ao16, co16, eo16⟩ := Kd.R_slice HO_4.out; subst eo16) | ((with_reducible refine gate_builtin (b := .append) (xs := #[.tmp 27, .tmp 28]) rfl ?_); at_builtin; refine Kd.R_append_rows (Kd.int .u8) (w0 := w) w.heap.size rfl (.tmp 27) (.tmp 28) 23 5 (.int .u8 0) 1 rfl Tryz.underlying23 info5 rfl (by decide) (by omega) v156 y155 x4_2 _ _ _ (fun k_ => some k_ ≠ (.slice Ao16 x4_2.length co16 : Value).ownBlock) (fun _ => False) rfl rfl ?aO ?aR (fun _ _ h => h) (fun _ h => h.elim) ?aF ?aB ?aS ?aL ?_; (case aR => repeat (first | exact (Kd.R_reads' HO_4.out).2.2 | (with_reducible refine Kd.C_alloc ?_ _) | (with_reducible refine Kd.C_drewN ?_ _) | (with_reducible refine Kd.C_drew ?_))); (case aB => exact (by repeat (first | (with_reducible first | exact HB.out | apply below_alloc | apply pw_below_drewN | apply below_drew1) | exact HB.out))); (case aF => exact (fun k_ hk => Kd.fresh' (Kd.R_lt (by (with_reducible repeat (first | apply Kd.R_alloc | apply Kd.R_drewN | apply Kd.R_drew)); exact HO_4.out)) k_ hk)); (case aO => exact (by (with_reducible repeat (first | apply Kd.R_alloc | apply Kd.R_drewN | apply Kd.R_drew)); exact Kd.R_mono HO157.out (fun _ hk => hk.2))); (case aS => exact (below_size (by repeat (first | (with_reducible first | exact HB.out | apply below_alloc | apply pw_below_drewN | apply below_drew1) | exact HB.out)))); (case aL => have := LMc12.out; omega); intro v159 w15 ho hb hg hat; rw [← Ny158.out] at ho; have n0_ := Aside0.mk (Kd.R_after (ok := (fun _ => True)) (by (with_reducible repeat (first | apply Kd.R_alloc | apply Kd.R_drewN | apply Kd.R_drew)); exact HO_4.out) hg hat); have n1_ := Aside0.mk (hb); have n2_ := Aside0.mk (ho); clear HO_4; clear HB; clear HO157; have HO_4 := n0_; have HB := n1_; have HO160 := n2_; clear n0_ n1_ n2_; clear ho hb hg hat))
          go_roundg k2
          case measure => have := HK1.out; have := HK2.out; omega
          case rel => exact ⟨(x0_2 / 64), (y158), (wrap64 (x21_2 + 1)), (by first | rfl | (simp; done) | (simp [*]; done)), (by first | rfl | (simp; done) | (simp [*]; done)), H', ⟨by have := HK1.out; have := HK2.out; omega⟩, ⟨by (with_reducible repeat (first | apply Kd.R_alloc | apply Kd.R_drewN | apply Kd.R_drew)); exact Kd.R_mono HO160.out (fun _ hk => trivial)⟩, ⟨by repeat (first | (with_reducible first | exact HB.out | apply below_alloc | apply pw_below_drewN | apply below_drew1) | exact HB.out)⟩⟩
         ·rw [if_neg c12] at H
          exact absurd H (by simp)
        ·rw [if_neg c11] at H
         have c11b0 : decide (x21_2 < (wrap64 (x3_1 - 1))) = false := decide_eq_false c11
         clear c11
         by_cases c17 : 0 ≤ x3_1
         ·rw [if_pos c17] at H
          have c17b0 := eq_true c17
          have c17b1 : decide (0 ≤ x3_1) = true := decide_eq_true c17
          clear c17
          obtain ⟨ji18, hji18⟩ : ∃ j_ : Int, (shr .u64 65280 x3_1) = j_ := ⟨_, rfl⟩
          replace H : ((some (([Go.bits .or .u8 ((Go.bits .and .u64 (ji18) 255) % 256) ((x0_2) % 256)] : List Int) : List Int)).bind fun y161 => (if y161.length + x4_2.length < 140737488355328 then (some (y161 ++ x4_2)) else (none))) = some r := by first | (rw [hji18] at H; exact H) | (simp only [hji18] at H ⊢; exact H)
          have hji18_ : (65280 / 2 ^ min x3_1.toNat 64) = ji18 := hji18
          have hji18z : x3_1 ≤ 64 → (65280 / 2 ^ x3_1.toNat) = ji18 := shr_small hji18
          obtain ⟨y161, hy161⟩ : ∃ y_ : List Int, y_ = (([Go.bits .or .u8 ((Go.bits .and .u64 (ji18) 255) % 256) ((x0_2) % 256)] : List Int)) := ⟨_, rfl⟩
          replace H : (if y161.length + x4_2.length < 140737488355328 then (some (y161 ++ x4_2)) else (none)) = some r := by first | (rw [hy161]; with_reducible exact H) | (have H2_ := (Option.bind_some _ _).symm.trans H; rw [hy161]; with_reducible exact H2_) | (have H2_ := (Option.bind_some _ _).symm.trans H; with_reducible exact H2_) | with_reducible exact H | (rw [hy161]; exact H) | exact H
          have Ny161 := Aside0.mk hy161
          clear hy161
          by_cases c19 : y161.length + x4_2.length < 140737488355328
          ·rw [if_pos c19] at H
           have LMc19 := Aside0.mk c19
           clear c19
           obtain ⟨y164, hy164⟩ : ∃ y_ : List Int, y_ = (y161 ++ x4_2) := ⟨_, rfl⟩
           replace H : (some y164) = some r := by first | (rw [hy164]; with_reducible exact H) | (have H2_ := (Option.bind_some _ _).symm.trans H; rw [hy164]; with_reducible exact H2_) | (have H2_ := (Option.bind_some _ _).symm.trans H; with_reducible exact H2_) | with_reducible exact H | (rw [hy164]; exact H) | exact H
           have Ny164 := Aside0.mk hy164
           clear hy164
           obtain rfl := Option.some.inj H
           go_wp2_with (first | ((with_reducible refine gate_dst (N := 40) rfl ?_); refine Kd.R_lit (Kd.int .u8) _ 5 ?hg (N := 40) ?hd (xs := ([Go.bits .or .u8 ((Go.bits .and .u64 (ji18) 255) % 256) ((x0_2) % 256)] : List Int)) (inner := [.int .u8 (Go.bits .or .u8 ((Go.bits .and .u64 (ji18) 255) % 256) ((x0_2) % 256))]) (ok := fun _ => True) (okp := fun _ => True) ?hr ?hp (fun _ hk => hk) trivial (Below.refl _ _) (Nat.le_refl _) (by simp) ?_; (case hd => rfl); (case hg => rfl); (case hr => first | (go_simp; done) | (go_simp; rfl)); (case hp => exact (Reps.one (show Kd.M (Kd.int .u8) _ _ _ (Go.bits .or .u8 ((Go.bits .and .u64 (ji18) 255) % 256) ((x0_2) % 256)) [.int .u8 (Go.bits .or .u8 ((Go.bits .and .u64 (ji18) 255) % 256) ((x0_2) % 256))] from rfl) (Reps.none _ _))); intro v162 w20 ho21 hb hg_ hnew_; clear hg_ hnew_; (first | rw [← Ny161.out] at ho21 | (simp only [Int.reduceToNat] at ho21; rw [← Ny161.out] at ho21)); have n0_ := Aside0.mk (Kd.R_elder' (by (with_reducible repeat (first | apply Kd.R_alloc | apply Kd.R_drewN | apply Kd.R_drew)); exact HO_4.out) (Kd.R_base ho21) hb); have n1_ := Aside0.mk (Kd.R_lower (Kd.R_new' ho21 (Kd.R_lt (by (with_reducible repeat (first | apply Kd.R_alloc | apply Kd.R_drewN | apply Kd.R_drew)); exact HO_4.out))) (below_size (by repeat (first | (with_reducible first | exact HB.out | apply below_alloc | apply pw_below_drewN | apply below_drew1) | exact HB.out)))); have n2_ := Aside0.mk (below_step (by repeat (first | (with_reducible first | exact HB.out | apply below_alloc | apply pw_below_drewN | apply below_drew1) | exact HB.out)) hb); clear HO_4; clear HB; have HO_4 := n0_; have HO163 := n1_; have HB := n2_; clear n0_ n1_ n2_; clear hb ho21; obtain ⟨Ao23, co23, eo23⟩ := Kd.R_slice HO_4.out; subst eo23) | ((with_reducible refine gate_builtin (b := .append) (xs := #[.tmp 40, .tmp 41]) rfl ?_); at_builtin; refine Kd.R_append_rows (Kd.int .u8) (w0 := w) w.heap.size rfl (.tmp 40) (.tmp 41) 23 5 (.int .u8 0) 1 rfl Tryz.underlying23 info5 rfl (by decide) (by omega) v162 y161 x4_2 _ _ _ (fun k_ => some k_ ≠ (.slice Ao23 x4_2.length co23 : Value).ownBlock) (fun _ => False) rfl rfl ?aO ?aR (fun _ _ h => h) (fun _ h => h.elim) ?aF ?aB ?aS ?aL ?_; (case aR => repeat (first | exact (Kd.R_reads' HO_4.out).2.2 | (with_reducible refine Kd.C_alloc ?_ _) | (with_reducible refine Kd.C_drewN ?_ _) | (with_reducible refine Kd.C_drew ?_))); (case aB => exact (by repeat (first | (with_reducible first | exact HB.out | apply below_alloc | apply pw_below_drewN | apply below_drew1) | exact HB.out))); (case aF => exact (fun k_ hk => Kd.fresh' (Kd.R_lt (by (with_reducible repeat (first | apply Kd.R_alloc | apply Kd.R_drewN | apply Kd.R_drew)); exact HO_4.out)) k_ hk)); (case aO => exact (by (with_reducible repeat (first | apply Kd.R_alloc | apply Kd.R_drewN | apply Kd.R_drew)); exact Kd.R_mono HO163.out (fun _ hk => hk.2))); (case aS => exact (below_size (by repeat (first | (with_reducible first | exact HB.out | apply below_alloc | apply pw_below_drewN | apply below_drew1) | exact HB.out)))); (case aL => have := LMc19.out; omega); intro v165 w22 ho hb hg hat; rw [← Ny164.out] at ho; have n0_ := Aside0.mk (Kd.R_after (ok := (fun _ => True)) (by (with_reducible repeat (first | apply Kd.R_alloc | apply Kd.R_drewN | apply Kd.R_drew)); exact HO_4.out) hg hat); have n1_ := Aside0.mk (hb); have n2_ := Aside0.mk (ho); clear HO_4; clear HB; clear HO163; have HO_4 := n0_; have HB := n1_; have HO166 := n2_; clear n0_ n1_ n2_; clear ho hb hg hat))
           go_ret
           exact ⟨_, by first | rfl | (simp [errW_none, errW_some] <;> rfl) | (simp only [← hji5, ← hji7, ← hji18]; first | rfl | (simp [errW_none, errW_some] <;> rfl)) | (simp [*, errW_none, errW_some] <;> rfl), by (with_reducible repeat (first | apply Kd.R_alloc | apply Kd.R_drewN | apply Kd.R_drew)); exact Kd.R_mono HO166.out (fun _ hk => trivial), by repeat (first | (with_reducible first | exact HB.out | apply below_alloc | apply pw_below_drewN | apply below_drew1) | exact HB.out)⟩
          ·rw [if_neg c19] at H
           exact absurd H (by simp)
         ·rw [if_neg c17] at H
          exact absurd H (by simp)
    ·rw [if_neg c6] at H
     exact absurd H (by simp)
def spec_sizeOf.f (a0 : Int) : Option (Int) := if a0 = 1 then (some 192) else (if a0 < 6 then (if 0 ≤ a0 then (some (shl .i64 144 a0)) else (none)) else (if a0 < 8 then (some 0) else (if 0 ≤ a0 then (some (shl .i64 1 a0)) else (none))))
set_option maxHeartbeats 8000000 in
set_option maxRecDepth 100000 in
theorem spec_sizeOf.calls (a0 : Int) (r : Int) (w : World) (h : spec_sizeOf.f a0 = some r) :
  Calls Tryz.prog 51 #[.int .i64 a0] w fun e w' => e = .returned (.int .i64 r) ∧ Drawn0 w w' := by
 have H : (if a0 = 1 then (some 192) else (if a0 < 6 then (if 0 ≤ a0 then (some (shl .i64 144 a0)) else (none)) else (if a0 < 8 then (some 0) else (if 0 ≤ a0 then (some (shl .i64 1 a0)) else (none))))) = some r := h
 clear h
 by_cases c2 : a0 = 1
 ·rw [if_pos c2] at H
  have c2b0 : (a0 == 1) = true := beq_iff_eq.mpr c2
  have c2b1 : (a0 != 1) = false := bne_eq_false_iff_eq.mpr c2
  clear c2
  obtain rfl := Option.some.inj H
  go_enter Tryz.func51, Tryz.ntmps51
  go_wp2
  go_ret
  exact ⟨by first | rfl | (simp; done) | (simp [*]; done), by repeat (first | exact Drawn0.refl _ | apply Drawn0.step)⟩
 ·rw [if_neg c2] at H
  have c2b0 : (a0 == 1) = false := beq_eq_false_iff_ne.mpr c2
  have c2b1 : (a0 != 1) = true := bne_iff_ne.mpr c2
  by_cases c3 : a0 < 6
  ·rw [if_pos c3] at H
   have c3b0 : decide (a0 < 6) = true := decide_eq_true c3
   clear c3
   by_cases c4 : 0 ≤ a0
   ·rw [if_pos c4] at H
    have c4b0 := eq_true c4
    have c4b1 : decide (0 ≤ a0) = true := decide_eq_true c4
    clear c4
    obtain ⟨ji5, hji5⟩ : ∃ j_ : Int, (shl .i64 144 a0) = j_ := ⟨_, rfl⟩
    replace H : (some ji5) = some r := by first | (rw [hji5] at H; exact H) | (simp only [hji5] at H ⊢; exact H)
    have hji5_ : (IntKind.i64.wrap (144 * 2 ^ min a0.toNat 64)) = ji5 := hji5
    have hji5z : a0 ≤ 64 → (IntKind.i64.wrap (144 * 2 ^ a0.toNat)) = ji5 := shl_small hji5
    have hji5y : (wrap64 (144 * 2 ^ min a0.toNat 64)) = ji5 := (i64_w _).symm.trans hji5_
    have hji5x : a0 ≤ 64 → (wrap64 (144 * 2 ^ a0.toNat)) = ji5 := fun h_ => (i64_w _).symm.trans (hji5z h_)
    obtain rfl := Option.some.inj H
    go_enter Tryz.func51, Tryz.ntmps51
    go_wp2
    go_ret
    exact ⟨by first | rfl | (simp; done) | (simp only [← hji5] <;> (first | rfl | simp)) | (simp [*]; done), by repeat (first | exact Drawn0.refl _ | apply Drawn0.step)⟩
   ·rw [if_neg c4] at H
    exact absurd H (by simp)
  ·rw [if_neg c3] at H
   have c3b0 : decide (a0 < 6) = false := decide_eq_false c3
   clear c3
   by_cases c6 : a0 < 8
   ·rw [if_pos c6] at H
    have c6b0 : decide (a0 < 8) = true := decide_eq_true c6
    clear c6
    obtain rfl := Option.some.inj H
    go_enter Tryz.func51, Tryz.ntmps51
    go_wp2
    go_ret
    exact ⟨by first | rfl | (simp; done) | (simp [*]; done), by repeat (first | exact Drawn0.refl _ | apply Drawn0.step)⟩
   ·rw [if_neg c6] at H
    have c6b0 : decide (a0 < 8) = false := decide_eq_false c6
    clear c6
    by_cases c7 : 0 ≤ a0
    ·rw [if_pos c7] at H
     have c7b0 := eq_true c7
     have c7b1 : decide (0 ≤ a0) = true := decide_eq_true c7
     clear c7
     obtain ⟨ji8, hji8⟩ : ∃ j_ : Int, (shl .i64 1 a0) = j_ := ⟨_, rfl⟩
     replace H : (some ji8) = some r := by first | (rw [hji8] at H; exact H) | (simp only [hji8] at H ⊢; exact H)
     have hji8_ : (IntKind.i64.wrap (1 * 2 ^ min a0.toNat 64)) = ji8 := hji8
     have hji8z : a0 ≤ 64 → (IntKind.i64.wrap (1 * 2 ^ a0.toNat)) = ji8 := shl_small hji8
     have hji8u : (IntKind.i64.wrap (2 ^ min a0.toNat 64)) = ji8 := by have h_ := hji8_; rw [Int.one_mul] at h_; exact h_
     have hji8v : a0 ≤ 64 → (IntKind.i64.wrap (2 ^ a0.toNat)) = ji8 := fun hle_ => by have h_ := hji8z hle_; rw [Int.one_mul] at h_; exact h_
     have hji8y : (wrap64 (1 * 2 ^ min a0.toNat 64)) = ji8 := (i64_w _).symm.trans hji8_
     have hji8x : a0 ≤ 64 → (wrap64 (1 * 2 ^ a0.toNat)) = ji8 := fun h_ => (i64_w _).symm.trans (hji8z h_)
     obtain rfl := Option.some.inj H
     go_enter Tryz.func51, Tryz.ntmps51
     go_wp2
     go_ret
     exact ⟨by first | rfl | (simp; done) | (simp only [← hji8] <;> (first | rfl | simp)) | (simp [*]; done), by repeat (first | exact Drawn0.refl _ | apply Drawn0.step)⟩
    ·rw [if_neg c7] at H
     exact absurd H (by simp)
def spec_rates.f  : Option (List Int) := some (([0, 88200, 176400, 192000, 8000, 16000, 22050, 24000, 32000, 44100, 48000, 96000] : List Int))
set_option maxHeartbeats 8000000 in
set_option maxRecDepth 100000 in
theorem spec_rates.calls  (r : List Int) (w : World) (h : spec_rates.f  = some r) :
  Calls Tryz.prog 52 #[] w fun e w' => ∃ v0_ : Value, e = .returned (v0_) ∧ Kd.R (Kd.int .i64) 3 w' w.heap.size (fun _ => True) v0_ r ∧ Below w.heap.size w w' := by
 have HB := Aside0.mk (Below.refl w.heap.size w)
 have H : (some (([0, 88200, 176400, 192000, 8000, 16000, 22050, 24000, 32000, 44100, 48000, 96000] : List Int))) = some r := h
 clear h
 obtain ⟨y167, hy167⟩ : ∃ y_ : List Int, y_ = (([0, 88200, 176400, 192000, 8000, 16000, 22050, 24000, 32000, 44100, 48000, 96000] : List Int)) := ⟨_, rfl⟩
 replace H : (some y167) = some r := by first | (rw [hy167]; with_reducible exact H) | (have H2_ := (Option.bind_some _ _).symm.trans H; rw [hy167]; with_reducible exact H2_) | (have H2_ := (Option.bind_some _ _).symm.trans H; with_reducible exact H2_) | with_reducible exact H | (rw [hy167]; exact H) | exact H
 have Ny167 := Aside0.mk hy167
 clear hy167
 obtain rfl := Option.some.inj H
 go_enter Tryz.func52, Tryz.ntmps52
 go_wp2_with (first | ((with_reducible refine gate_dst (N := 1) rfl ?_); refine Kd.R_lit (Kd.int .i64) _ 3 ?hg (N := 1) ?hd (xs := ([0, 88200, 176400, 192000, 8000, 16000, 22050, 24000, 32000, 44100, 48000, 96000] : List Int)) (inner := [.int .i64 0, .int .i64 88200, .int .i64 176400, .int .i64 192000, .int .i64 8000, .int .i64 16000, .int .i64 22050, .int .i64 24000, .int .i64 32000, .int .i64 44100, .int .i64 48000, .int .i64 96000]) (ok := fun _ => True) (okp := fun _ => True) ?hr ?hp (fun _ hk => hk) trivial (Below.refl _ _) (Nat.le_refl _) (by simp) ?_; (case hd => rfl); (case hg => rfl); (case hr => first | (go_simp; done) | (go_simp; rfl)); (case hp => exact (Reps.one (show Kd.M (Kd.int .i64) _ _ _ 0 [.int .i64 0] from rfl) (Reps.one (show Kd.M (Kd.int .i64) _ _ _ 88200 [.int .i64 88200] from rfl) (Reps.one (show Kd.M (Kd.int .i64) _ _ _ 176400 [.int .i64 176400] from rfl) (Reps.one (show Kd.M (Kd.int .i64) _ _ _ 192000 [.int .i64 192000] from rfl) (Reps.one (show Kd.M (Kd.int .i64) _ _ _ 8000 [.int .i64 8000] from rfl) (Reps.one (show Kd.M (Kd.int .i64) _ _ _ 16000 [.int .i64 16000] from rfl) (Reps.one (show Kd.M (Kd.int .i64) _ _ _ 22050 [.int .i64 22050] from rfl) (Reps.one (show Kd.M (Kd.int .i64) _ _ _ 24000 [.int .i64 24000] from rfl) (Reps.one (show Kd.M (Kd.int .i64) _ _ _ 32000 [.int .i64 32000] from rfl) (Reps.one (show Kd.M (Kd.int .i64) _ _ _ 44100 [.int .i64 44100] from rfl) (Reps.one (show Kd.M (Kd.int .i64) _ _ _ 48000 [.int .i64 48000] from rfl) (Reps.one (show Kd.M (Kd.int .i64) _ _ _ 96000 [.int .i64 96000] from rfl) (Reps.none _ _)))))))))))))); intro v168 w1 ho2 hb hg_ hnew_; clear hg_ hnew_; (first | rw [← Ny167.out] at ho2 | (simp only [Int.reduceToNat] at ho2; rw [← Ny167.out] at ho2)); have n0_ := Aside0.mk (Kd.R_lower ho2 (below_size (by repeat (first | (with_reducible first | exact HB.out | apply below_alloc | apply pw_below_drewN | apply below_drew1) | exact HB.out)))); have n1_ := Aside0.mk (below_step (by repeat (first | (with_reducible first | exact HB.out | apply below_alloc | apply pw_below_drewN | apply below_drew1) | exact HB.out)) hb); clear HB; have HO169 := n0_; have HB := n1_; clear n0_ n1_; clear hb ho2))
 go_ret
 exact ⟨_, by first | rfl | (simp [errW_none, errW_some] <;> rfl) | (simp [*, errW_none, errW_some] <;> rfl), by (with_reducible repeat (first | apply Kd.R_alloc | apply Kd.R_drewN | apply Kd.R_drew)); exact HO169.out, by repeat (first | (with_reducible first | exact HB.out | apply below_alloc | apply pw_below_drewN | apply below_drew1) | exact HB.out)⟩
mutual
def spec_Crc.l0 : Nat → Int → Int → Int → List Int → Int → Int → Option (Int)
 | 0, _, _, _, _, _, _ => none
 | k + 1, x1, x2, x7, x12, x13, x14 => if x14 < x13 then (if 0 ≤ x14 then (if x14 < (x12.length : Int) then (spec_Crc.l1 k x1 x2 x7 (rd x12 x14) 7 x12 x13 x14) else (none)) else (none)) else (some x7)
def spec_Crc.l1 : Nat → Int → Int → Int → Int → Int → List Int → Int → Int → Option (Int)
 | 0, _, _, _, _, _, _, _, _ => none
 | k + 1, x1, x2, x7, x9, x10, x12, x13, x14 => if x10 ≥ 0 then (if 0 ≤ (wrap64 (x1 - 1)) then (if 0 ≤ x10 then (if 0 ≤ x1 then (if (Go.bits .xor .i64 (Go.bits .and .i64 (shr .i64 x7 (wrap64 (x1 - 1))) 1) (Go.bits .and .i64 (shr .i64 (wrap64 (x9)) x10) 1)) = 1 then (spec_Crc.l1 k x1 x2 (Go.bits .xor .i64 (Go.bits .and .i64 (wrap64 (x7 * 2)) (wrap64 ((shl .i64 1 x1) - 1))) x2) x9 (wrap64 (x10 - 1)) x12 x13 x14) else (spec_Crc.l1 k x1 x2 (Go.bits .and .i64 (wrap64 (x7 * 2)) (wrap64 ((shl .i64 1 x1) - 1))) x9 (wrap64 (x10 - 1)) x12 x13 x14)) else (none)) else (none)) else (none)) else (spec_Crc.l0 k x1 x2 x7 x12 x13 (wrap64 (x14 + 1)))
end
def spec_Crc.f (k : Nat) (l0 : List Int) (a1 : Int) (a2 : Int) : Option (Int) := spec_Crc.l0 k a1 a2 0 l0 (l0.length : Int) 0
set_option maxHeartbeats 8000000 in
set_option maxRecDepth 100000 in
theorem spec_Crc.calls (k : Nat) (A0 : Option Addr) (c0 : Nat) (l0 : List Int) (a1 : Int) (a2 : Int) (r : Int) (w : World) (hr0 : Kd.C (Kd.int .u8) w A0 l0.length l0) (hc0 : l0.length ≤ c0) (h : spec_Crc.f k l0 a1 a2 = some r) :
  Calls Tryz.prog 61 #[.slice A0 l0.length c0, .int .i64 a1, .int .i64 a2] w fun e w' => e = .returned (.int .i64 r) ∧ Drawn0 w w' := by
 have HR0 := Aside0.mk hr0
 have HC0 := Aside0.mk hc0
 clear hr0 hc0
 have H : (spec_Crc.l0 k a1 a2 0 l0 (l0.length : Int) 0) = some r := h
 clear h
 have H' := Aside0.mk H
 clear H
 go_enter Tryz.func61, Tryz.ntmps61
 go_wp2
 repeat (go_quiet (fail); try go_wp2)
 go_loopg [7, 14] k (fun kq v7 v14 w' => ∃ (x7_1 : Int) (x14_1 : Int), v7 = .int .i64 x7_1 ∧ v14 = .int .i64 x14_1 ∧ Aside0 (spec_Crc.l0 kq a1 a2 x7_1 l0 (l0.length : Int) x14_1 = some r) ∧ Aside0 (kq ≤ k) ∧ Drawn0 w w')
 case atStart => exact ⟨(0), (0), (by first | rfl | (simp; done) | (simp [*]; done)), (by first | rfl | (simp; done) | (simp [*]; done)), H', ⟨Nat.le_refl _⟩, by repeat (first | exact Drawn0.refl _ | apply Drawn0.step)⟩
 case round =>
  clear H'
  try clear p2
  obtain ⟨x7_1, x14_1, rfl, rfl, HA, HK1, ⟨m1, rfl⟩⟩ := hrel
  cases gk with
  | zero => exact absurd HA.out (by simp [spec_Crc.l0])
  | succ k1 =>
   have H := HA.out
   clear HA
   simp only [spec_Crc.l0] at H
   by_cases c4 : x14_1 < (l0.length : Int)
   ·rw [if_pos c4] at H
    have c4b0 : decide (x14_1 < (l0.length : Int)) = true := decide_eq_true c4
    clear c4
    by_cases c5 : 0 ≤ x14_1
    ·rw [if_pos c5] at H
     have c5b0 : decide (0 ≤ x14_1) = true := decide_eq_true c5
     clear c5
     by_cases c6 : x14_1 < (l0.length : Int)
     ·rw [if_pos c6] at H
      have c6b0 : decide (x14_1 < (l0.length : Int)) = true := decide_eq_true c6
      clear c6
      have H' := Aside0.mk H
      clear H
      have p170 : 0 ≤ (x14_1 : Int) := of_decide_eq_true (by first | (with_reducible assumption) | assumption)
      have q170 : x14_1 < (l0.length : Int) := of_decide_eq_true (by first | (with_reducible assumption) | assumption)
      obtain ⟨ad170, e170, hx170_0⟩ := Kd.at_int HR0.out x14_1 p170 q170
      cases e170
      replace p170 := eq_true p170
      replace q170 := eq_true q170
      go_wp2
      repeat (go_quiet (fail); try go_wp2)
      go_loopg [7, 10] k1 (fun kq v7 v10 w' => ∃ (x7_2 : Int) (x10_2 : Int), v7 = .int .i64 x7_2 ∧ v10 = .int .i64 x10_2 ∧ Aside0 (spec_Crc.l1 kq a1 a2 x7_2 (rd l0 x14_1) x10_2 l0 (l0.length : Int) x14_1 = some r) ∧ Aside0 (kq ≤ k1) ∧ Drawn0 w w')
      case atStart => exact ⟨(x7_1), (7), (by first | rfl | (simp; done) | (simp [*]; done)), (by first | rfl | (simp; done) | (simp [*]; done)), H', ⟨Nat.le_refl _⟩, by repeat (first | exact Drawn0.refl _ | apply Drawn0.step)⟩
      case round =>
       clear H'
       try clear p1
       try clear q1
       try clear hx1
       try clear p2
       try clear c4
       try clear c4b0
       try clear c5
       try clear c5b0
       try clear c6
       try clear c6b0
       try clear hx170_0
       try clear p170
       try clear p2
       try clear q170
       obtain ⟨x7_2, x10_2, rfl, rfl, HA, HK2, ⟨m2, rfl⟩⟩ := hrel
       cases gk with
       | zero => exact absurd HA.out (by simp [spec_Crc.l1])
       | succ k2 =>
        have H := HA.out
        clear HA
        simp only [spec_Crc.l1] at H
        by_cases c7 : x10_2 ≥ 0
        ·rw [if_pos c7] at H
         have c7b0 : decide (0 ≤ x10_2) = true := decide_eq_true c7
         clear c7
         obtain ⟨ji8, hji8⟩ : ∃ j_ : Int, (wrap64 (a1 - 1)) = j_ := ⟨_, rfl⟩
         replace H : (if 0 ≤ (ji8) then (if 0 ≤ x10_2 then (if 0 ≤ a1 then (if (Go.bits .xor .i64 (Go.bits .and .i64 (shr .i64 x7_2 (ji8)) 1) (Go.bits .and .i64 (shr .i64 (wrap64 ((rd l0 x14_1))) x10_2) 1)) = 1 then (spec_Crc.l1 k2 a1 a2 (Go.bits .xor .i64 (Go.bits .and .i64 (wrap64 (x7_2 * 2)) (wrap64 ((shl .i64 1 a1) - 1))) a2) (rd l0 x14_1) (wrap64 (x10_2 - 1)) l0 (l0.length : Int) x14_1) else (spec_Crc.l1 k2 a1 a2 (Go.bits .and .i64 (wrap64 (x7_2 * 2)) (wrap64 ((shl .i64 1 a1) - 1))) (rd l0 x14_1) (wrap64 (x10_2 - 1)) l0 (l0.length : Int) x14_1)) else (none)) else (none)) else (none)) = some r := by first | (rw [hji8] at H; exact H) | (simp only [hji8] at H ⊢; exact H)
         have hji8w : (IntKind.i64.wrap (a1 - 1)) = ji8 := (i64_w _).trans hji8
         by_cases c9 : 0 ≤ (ji8)
         ·rw [if_pos c9] at H
          have c9b0 := eq_true c9
          have c9b1 : decide (0 ≤ (ji8)) = true := decide_eq_true c9
          clear c9
          obtain ⟨ji10, hji10⟩ : ∃ j_ : Int, (shr .i64 x7_2 (ji8)) = j_ := ⟨_, rfl⟩
          replace H : (if 0 ≤ x10_2 then (if 0 ≤ a1 then (if (Go.bits .xor .i64 (Go.bits .and .i64 (ji10) 1) (Go.bits .and .i64 (shr .i64 (wrap64 ((rd l0 x14_1))) x10_2) 1)) = 1 then (spec_Crc.l1 k2 a1 a2 (Go.bits .xor .i64 (Go.bits .and .i64 (wrap64 (x7_2 * 2)) (wrap64 ((shl .i64 1 a1) - 1))) a2) (rd l0 x14_1) (wrap64 (x10_2 - 1)) l0 (l0.length : Int) x14_1) else (spec_Crc.l1 k2 a1 a2 (Go.bits .and .i64 (wrap64 (x7_2 * 2)) (wrap64 ((shl .i64 1 a1) - 1))) (rd l0 x14_1) (wrap64 (x10_2 - 1)) l0 (l0.length : Int) x14_1)) else (none)) else (none)) = some r := by first | (rw [hji10] at H; exact H) | (simp only [hji10] at H ⊢; exact H)
          have hji10_ : (x7_2 / 2 ^ min (ji8).toNat 64) = ji10 := hji10
          have hji10z : (ji8) ≤ 64 → (x7_2 / 2 ^ (ji8).toNat) = ji10 := shr_small hji10
          by_cases c11 : 0 ≤ x10_2
          ·rw [if_pos c11] at H
           have c11b0 := eq_true c11
           have c11b1 : decide (0 ≤ x10_2) = true := decide_eq_true c11
           clear c11
           obtain ⟨ji12, hji12⟩ : ∃ j_ : Int, (shr .i64 (wrap64 ((rd l0 x14_1))) x10_2) = j_ := ⟨_, rfl⟩
           replace H : (if 0 ≤ a1 then (if (Go.bits .xor .i64 (Go.bits .and .i64 (ji10) 1) (Go.bits .and .i64 (ji12) 1)) = 1 then (spec_Crc.l1 k2 a1 a2 (Go.bits .xor .i64 (Go.bits .and .i64 (wrap64 (x7_2 * 2)) (wrap64 ((shl .i64 1 a1) - 1))) a2) (rd l0 x14_1) (wrap64 (x10_2 - 1)) l0 (l0.length : Int) x14_1) else (spec_Crc.l1 k2 a1 a2 (Go.bits .and .i64 (wrap64 (x7_2 * 2)) (wrap64 ((shl .i64 1 a1) - 1))) (rd l0 x14_1) (wrap64 (x10_2 - 1)) l0 (l0.length : Int) x14_1)) else (none)) = some r := by first | (rw [hji12] at H; exact H) | (simp only [hji12] at H ⊢; exact H)
           have hji12_ : ((wrap64 ((rd l0 x14_1))) / 2 ^ min x10_2.toNat 64) = ji12 := hji12
           have hji12z : x10_2 ≤ 64 → ((wrap64 ((rd l0 x14_1))) / 2 ^ x10_2.toNat) = ji12 := shr_small hji12
           by_cases c13 : 0 ≤ a1
           ·rw [if_pos c13] at H
            have c13b0 := eq_true c13
            have c13b1 : decide (0 ≤ a1) = true := decide_eq_true c13
            clear c13
            obtain ⟨ji14, hji14⟩ : ∃ j_ : Int, (shl .i64 1 a1) = j_ := ⟨_, rfl⟩
            replace H : (if (Go.bits .xor .i64 (Go.bits .and .i64 (ji10) 1) (Go.bits .and .i64 (ji12) 1)) = 1 then (spec_Crc.l1 k2 a1 a2 (Go.bits .xor .i64 (Go.bits .and .i64 (wrap64 (x7_2 * 2)) (wrap64 ((ji14) - 1))) a2) (rd l0 x14_1) (wrap64 (x10_2 - 1)) l0 (l0.length : Int) x14_1) else (spec_Crc.l1 k2 a1 a2 (Go.bits .and .i64 (wrap64 (x7_2 * 2)) (wrap64 ((ji14) - 1))) (rd l0 x14_1) (wrap64 (x10_2 - 1)) l0 (l0.length : Int) x14_1)) = some r := by first | (rw [hji14] at H; exact H) | (simp only [hji14] at H ⊢; exact H)
            have hji14_ : (IntKind.i64.wrap (1 * 2 ^ min a1.toNat 64)) = ji14 := hji14
            have hji14z : a1 ≤ 64 → (IntKind.i64.wrap (1 * 2 ^ a1.toNat)) = ji14 := shl_small hji14
            have hji14u : (IntKind.i64.wrap (2 ^ min a1.toNat 64)) = ji14 := by have h_ := hji14_; rw [Int.one_mul] at h_; exact h_
            have hji14v : a1 ≤ 64 → (IntKind.i64.wrap (2 ^ a1.toNat)) = ji14 := fun hle_ => by have h_ := hji14z hle_; rw [Int.one_mul] at h_; exact h_
            have hji14y : (wrap64 (1 * 2 ^ min a1.toNat 64)) = ji14 := (i64_w _).symm.trans hji14_
            have hji14x : a1 ≤ 64 → (wrap64 (1 * 2 ^ a1.toNat)) = ji14 := fun h_ => (i64_w _).symm.trans (hji14z h_)
            by_cases c15 : (Go.bits .xor .i64 (Go.bits .and .i64 (ji10) 1) (Go.bits .and .i64 (ji12) 1)) = 1
            ·rw [if_pos c15] at H
             have c15b0 : ((Go.bits .xor .i64 (Go.bits .and .i64 (ji10) 1) (Go.bits .and .i64 (ji12) 1)) == 1) = true := beq_iff_eq.mpr c15
             have c15b1 : ((Go.bits .xor .i64 (Go.bits .and .i64 (ji10) 1) (Go.bits .and .i64 (ji12) 1)) != 1) = false := bne_eq_false_iff_eq.mpr c15
             clear c15
             have H' := Aside0.mk H
             clear H
             go_wp2
             repeat (go_quiet (fail); try go_wp2)
             go_roundg k2
             case measure => have := HK1.out; have := HK2.out; omega
             case rel => exact ⟨(Go.bits .xor .i64 (Go.bits .and .i64 (wrap64 (x7_2 * 2)) (wrap64 ((ji14) - 1))) a2), (wrap64 (x10_2 - 1)), (by first | rfl | (simp; done) | (simp only [← hji14] <;> (first | rfl | simp)) | (simp [*]; done)), (by first | rfl | (simp; done) | (simp [*]; done)), H', ⟨by have := HK1.out; have := HK2.out; omega⟩, by repeat (first | exact Drawn0.refl _ | apply Drawn0.step)⟩
            ·rw [if_neg c15] at H
             have c15b0 : ((Go.bits .xor .i64 (Go.bits .and .i64 (ji10) 1) (Go.bits .and .i64 (ji12) 1)) == 1) = false := beq_eq_false_iff_ne.mpr c15
             have c15b1 : ((Go.bits .xor .i64 (Go.bits .and .i64 (ji10) 1) (Go.bits .and .i64 (ji12) 1)) != 1) = true := bne_iff_ne.mpr c15
             have H' := Aside0.mk H
             clear H
             go_wp2
             repeat (go_quiet (fail); try go_wp2)
             go_roundg k2
             case measure => have := HK1.out; have := HK2.out; omega
             case rel => exact ⟨(Go.bits .and .i64 (wrap64 (x7_2 * 2)) (wrap64 ((ji14) - 1))), (wrap64 (x10_2 - 1)), (by first | rfl | (simp; done) | (simp only [← hji14] <;> (first | rfl | simp)) | (simp [*]; done)), (by first | rfl | (simp; done) | (simp [*]; done)), H', ⟨by have := HK1.out; have := HK2.out; omega⟩, by repeat (first | exact Drawn0.refl _ | apply Drawn0.step)⟩
           ·rw [if_neg c13] at H
            exact absurd H (by simp)
          ·rw [if_neg c11] at H
           exact absurd H (by simp)
         ·rw [if_neg c9] at H
          exact absurd H (by simp)
        ·rw [if_neg c7] at H
         have c7b0 : decide (0 ≤ x10_2) = false := decide_eq_false c7
         clear c7
         have H' := Aside0.mk H
         clear H
         go_wp2
         repeat (go_quiet (fail); try go_wp2)
         go_roundg k2
         case measure => have := HK1.out; have := HK2.out; omega
         case rel => exact ⟨(x7_2), (wrap64 (x14_1 + 1)), (by first | rfl | (simp; done) | (simp [*]; done)), (by first | rfl | (simp; done) | (simp [*]; done)), H', ⟨by have := HK1.out; have := HK2.out; omega⟩, by repeat (first | exact Drawn0.refl _ | apply Drawn0.step)⟩
     ·rw [if_neg c6] at H
      exact absurd H (by simp)
    ·rw [if_neg c5] at H
     exact absurd H (by simp)
   ·rw [if_neg c4] at H
    have c4b0 : decide (x14_1 < (l0.length : Int)) = false := decide_eq_false c4
    clear c4
    obtain rfl := Option.some.inj H
    go_wp2
    repeat (go_quiet (fail); try go_wp2)
    go_ret
    exact ⟨by first | rfl | (simp; done) | (simp [*]; done), by repeat (first | exact Drawn0.refl _ | apply Drawn0.step)⟩
def spec_Crc8.f (k : Nat) (l0 : List Int) : Option (Int) := (spec_Crc.f k l0 8 7).bind fun t171 => (some t171)
set_option maxHeartbeats 8000000 in
set_option maxRecDepth 100000 in
theorem spec_Crc8.calls (k : Nat) (A0 : Option Addr) (c0 : Nat) (l0 : List Int) (r : Int) (w : World) (hr0 : Kd.C (Kd.int .u8) w A0 l0.length l0) (hc0 : l0.length ≤ c0) (h : spec_Crc8.f k l0 = some r) :
  Calls Tryz.prog 53 #[.slice A0 l0.length c0] w fun e w' => e = .returned (.int .i64 r) ∧ Drawn0 w w' := by
 have HR0 := Aside0.mk hr0
 have HC0 := Aside0.mk hc0
 clear hr0 hc0
 have H : ((spec_Crc.f k l0 8 7).bind fun t171 => (some t171)) = some r := h
 clear h
 replace H := Option.bind_eq_some_iff.mp H
 obtain ⟨t171, A20, H⟩ := H
 replace H : (some t171) = some r := H
 have A2 := Aside0.mk A20
 clear A20
 obtain rfl := Option.some.inj H
 go_enter Tryz.func53, Tryz.ntmps53
 go_wp2_with (first | ((with_reducible refine gate_callee (f := 61) rfl ?_); refine goesL_ (some 4) rfl rfl Tryz.func61 (by kernel_rfl) rfl #[.slice A0 l0.length c0, .int .i64 8, .int .i64 7] rfl (by (try simp only [List.map_toArray, List.map_cons, List.map_nil]); first | done | rfl | (simp only [List.length_drop, List.length_take]; rfl)) ?_; (with_reducible refine (spec_Crc.calls k _ _ l0 8 7 t171 _ ?side1 ?side2 A2.out).mono ?_); (case side1 => repeat (first | exact HR0.out | (with_reducible refine Kd.C_alloc ?_ _) | (with_reducible refine Kd.C_drewN ?_ _) | (with_reducible refine Kd.C_drew ?_))); (case side2 => exact HC0.out); rintro e w' ⟨rfl, ⟨nd, rfl⟩⟩; refine ⟨_, rfl, ?_⟩))
 go_ret
 exact ⟨by first | rfl | (simp; done) | (simp [*]; done), by repeat (first | exact Drawn0.refl _ | apply Drawn0.step)⟩
end Go.Proofs.YtmcllndnjdemaaaGreatDoor.PFnEncode
