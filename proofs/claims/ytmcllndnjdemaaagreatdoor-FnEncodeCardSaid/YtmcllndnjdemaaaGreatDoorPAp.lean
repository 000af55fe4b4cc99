/- Contracts that print.sh printed for this claim (spec_Apart), cut out and mended in places by wip/pcut.py. -/
import Derived.Test.YtmcllndnjdemaaaGreatDoorPFnEncodex0
namespace Go.Proofs.YtmcllndnjdemaaaGreatDoor.PFnEncode
open Go.RowKit Go.Proofs.YtmcllndnjdemaaaGreatDoorW.PrintWords Go.Proofs.YtmcllndnjdemaaaGreatDoorW.PrintLast Go.Proofs.YtmcllndnjdemaaaGreatDoorW.PrintMore
attribute [local go_sem] max2_int min2_int max_two min_two max_three min_three max_four min_four   -- for this text's walks alone
set_option linter.unusedVariables false
set_option linter.unusedSimpArgs false
def spec_Apart.l0 : Nat → Int → List Int → List Int → List Int → List Int → Int → Int → Option (List Int × List Int)
 | 0, _, _, _, _, _, _, _ => none
 | k + 1, x0, x1, x2, x8, x9, x15, x16 => if x16 < x15 then (if 0 ≤ x16 then (if x16 < (x1.length : Int) then (if x16 < (x2.length : Int) then (if x0 = 8 then ((some (([rd x1 x16] : List Int) : List Int)).bind fun y183 => (if x8.length + y183.length < 17592186044416 then ((some (([wrap64 ((rd x1 x16) - (rd x2 x16))] : List Int) : List Int)).bind fun y189 => (if x9.length + y189.length < 17592186044416 then (spec_Apart.l0 k x0 x1 x2 (x8 ++ y183) (x9 ++ y189) x15 (wrap64 (x16 + 1))) else (none))) else (none))) else (if x0 = 9 then ((some (([wrap64 ((rd x1 x16) - (rd x2 x16))] : List Int) : List Int)).bind fun y195 => (if x8.length + y195.length < 17592186044416 then ((some (([rd x2 x16] : List Int) : List Int)).bind fun y202 => (if x9.length + y202.length < 17592186044416 then (spec_Apart.l0 k x0 x1 x2 (x8 ++ y195) (x9 ++ y202) x15 (wrap64 (x16 + 1))) else (none))) else (none))) else ((some (([(wrap64 ((rd x1 x16) + (rd x2 x16))) / 2] : List Int) : List Int)).bind fun y210 => (if x8.length + y210.length < 17592186044416 then ((some (([wrap64 ((rd x1 x16) - (rd x2 x16))] : List Int) : List Int)).bind fun y216 => (if x9.length + y216.length < 17592186044416 then (spec_Apart.l0 k x0 x1 x2 (x8 ++ y210) (x9 ++ y216) x15 (wrap64 (x16 + 1))) else (none))) else (none))))) else (none)) else (none)) else (none)) else (some (x8, x9))
def spec_Apart.f (k : Nat) (a0 : Int) (l1 : List Int) (l2 : List Int) : Option (List Int × List Int) := spec_Apart.l0 k a0 l1 l2 (([] : List Int)) (([] : List Int)) (l1.length : Int) 0
def spec_Apart.T5 : Bool × List (List Nat × List Nat) := (true, [([], []), ([], []), ([0, 1], [0, 1]), ([2], [2]), ([], []), ([], []), ([4, 5], [4, 5]), ([6], [6]), ([3, 7], [3, 7]), ([8, 0, 1, 2, 3, 4, 5, 6, 7, 8], [8])])
def spec_Apart.B5 : List Nat := [0, 0, 3, 7, 0, 0, 48, 112, 255, 511]
theorem spec_Apart.tab5 : rtab .any (opsOf Tryz.f26 5) = spec_Apart.T5 := by kernel_rfl
theorem spec_Apart.bits5 : waitsOk spec_Apart.T5.2 spec_Apart.B5 = true := by kernel_rfl
def spec_Apart.T7 : Bool × List (List Nat × List Nat) := (true, [([], []), ([], []), ([], []), ([1, 2], [1, 2]), ([3], [3]), ([], []), ([], []), ([5, 6], [5, 6]), ([7], [7]), ([4, 8], [4, 8]), ([9], [9]), ([10], [10]), ([0, 11], [0, 11]), ([], []), ([], []), ([14], [14]), ([13, 15, 12], [13, 15]), ([12, 16, 0, 1, 2, 3, 4, 5, 6, 7, 8, 9, 10, 11, 12], [0, 12]), ([16, 17, 0, 1, 2, 3, 4, 5, 6, 7, 8, 9, 10, 11, 12, 13, 14, 15, 16, 17], [13, 16])])
def spec_Apart.B7 : List Nat := [0, 0, 0, 6, 14, 0, 0, 96, 224, 510, 1022, 2046, 4095, 0, 0, 16384, 65535, 131071, 262143]
theorem spec_Apart.tab7 : rtab .any (opsOf Tryz.f26 7) = spec_Apart.T7 := by kernel_rfl
theorem spec_Apart.bits7 : waitsOk spec_Apart.T7.2 spec_Apart.B7 = true := by kernel_rfl
def spec_Apart.T11 : Bool × List (List Nat × List Nat) := (true, [([], []), ([], []), ([1], [1]), ([0, 2], [0, 2]), ([], []), ([], []), ([], []), ([5, 6], [5, 6]), ([7], [7]), ([8], [8]), ([4, 9, 3], [4, 9]), ([3, 10, 0, 1, 2, 3], [0, 3]), ([10, 11, 0, 1, 2, 3, 4, 5, 6, 7, 8, 9, 10, 11], [4, 10])])
def spec_Apart.B11 : List Nat := [0, 0, 2, 7, 0, 0, 0, 96, 224, 480, 1023, 2047, 4095]
theorem spec_Apart.tab11 : rtab .any (opsOf Tryz.f26 11) = spec_Apart.T11 := by kernel_rfl
theorem spec_Apart.bits11 : waitsOk spec_Apart.T11.2 spec_Apart.B11 = true := by kernel_rfl
set_option maxHeartbeats 8000000 in
set_option maxRecDepth 100000 in
theorem spec_Apart.calls (k : Nat) (a0 : Int) (A1 : Option Addr) (c1 : Nat) (l1 : List Int) (A2 : Option Addr) (c2 : Nat) (l2 : List Int) (r1 : List Int) (r2 : List Int) (w : World) (hr1 : Kd.C (Kd.int .i64) w A1 l1.length l1) (hc1 : l1.length ≤ c1) (hr2 : Kd.C (Kd.int .i64) w A2 l2.length l2) (hc2 : l2.length ≤ c2) (h : spec_Apart.f k a0 l1 l2 = some (r1, r2)) :
  Calls Tryz.prog 26 #[.int .i64 a0, .slice A1 l1.length c1, .slice A2 l2.length c2] w fun e w' => ∃ v0_ v1_ : Value, e = .returned (.tuple #[v0_, v1_]) ∧ Kd.R (Kd.int .i64) 3 w' w.heap.size (fun k_ => some k_ ≠ (v1_ : Value).ownBlock) v0_ r1 ∧ Kd.R (Kd.int .i64) 3 w' w.heap.size (fun k_ => some k_ ≠ (v0_ : Value).ownBlock) v1_ r2 ∧ Below w.heap.size w w' := by
 have HR1 := Aside0.mk hr1
 have HC1 := Aside0.mk hc1
 clear hr1 hc1
 have HR2 := Aside0.mk hr2
 have HC2 := Aside0.mk hc2
 clear hr2 hc2
 have HB := Aside0.mk (Below.refl w.heap.size w)
 have H : (spec_Apart.l0 k a0 l1 l2 (([] : List Int)) (([] : List Int)) (l1.length : Int) 0) = some (r1, r2) := h
 clear h
 obtain ⟨y174, hy174⟩ : ∃ y_ : List Int, y_ = (([] : List Int)) := ⟨_, rfl⟩
 replace H : (spec_Apart.l0 k a0 l1 l2 y174 (([] : List Int)) (l1.length : Int) 0) = some (r1, r2) := by first | (rw [hy174]; with_reducible exact H) | (have H2_ := (Option.bind_some _ _).symm.trans H; rw [hy174]; with_reducible exact H2_) | (have H2_ := (Option.bind_some _ _).symm.trans H; with_reducible exact H2_) | with_reducible exact H | (rw [hy174]; exact H) | exact H
 have Ny174 := Aside0.mk hy174
 clear hy174
 obtain ⟨y177, hy177⟩ : ∃ y_ : List Int, y_ = (([] : List Int)) := ⟨_, rfl⟩
 replace H : (spec_Apart.l0 k a0 l1 l2 y174 y177 (l1.length : Int) 0) = some (r1, r2) := by first | (rw [hy177]; with_reducible exact H) | (have H2_ := (Option.bind_some _ _).symm.trans H; rw [hy177]; with_reducible exact H2_) | (have H2_ := (Option.bind_some _ _).symm.trans H; with_reducible exact H2_) | with_reducible exact H | (rw [hy177]; exact H) | exact H
 have Ny177 := Aside0.mk hy177
 clear hy177
 have H' := Aside0.mk H
 clear H
 go_enter Tryz.func26, Tryz.ntmps26
 go_wp2_with (first | ((with_reducible refine gate_dst (N := 12) rfl ?_); refine Kd.R_lit (Kd.int .i64) _ 3 ?hg (N := 12) ?hd (xs := ([] : List Int)) (inner := []) (ok := fun _ => True) (okp := fun _ => True) ?hr ?hp (fun _ hk => hk) trivial (Below.refl _ _) (Nat.le_refl _) (by simp) ?_; (case hd => rfl); (case hg => rfl); (case hr => first | (go_simp; done) | (go_simp; rfl)); (case hp => exact (Reps.none _ _)); intro v175 w4 ho5 hb hg_ hnew_; clear hg_ hnew_; (first | rw [← Ny174.out] at ho5 | (simp only [Int.reduceToNat] at ho5; rw [← Ny174.out] at ho5)); have n0_ := Aside0.mk (Kd.R_lower ho5 (below_size (by repeat (first | (with_reducible first | exact HB.out | apply below_alloc | apply pw_below_drewN | apply below_drew1) | exact HB.out)))); have n1_ := Aside0.mk (below_step (by repeat (first | (with_reducible first | exact HB.out | apply below_alloc | apply pw_below_drewN | apply below_drew1) | exact HB.out)) hb); clear HB; have HO176 := n0_; have HB := n1_; clear n0_ n1_; clear hb ho5) | ((with_reducible refine gate_dst (N := 13) rfl ?_); refine Kd.R_lit (Kd.int .i64) _ 3 ?hg (N := 13) ?hd (xs := ([] : List Int)) (inner := []) (ok := fun _ => True) (okp := fun _ => True) ?hr ?hp (fun _ hk => hk) trivial (Below.refl _ _) (Nat.le_refl _) (by simp) ?_; (case hd => rfl); (case hg => rfl); (case hr => first | (go_simp; done) | (go_simp; rfl)); (case hp => exact (Reps.none _ _)); intro v178 w6 ho7 hb hg_ hnew_; clear hg_ hnew_; (first | rw [← Ny177.out] at ho7 | (simp only [Int.reduceToNat] at ho7; rw [← Ny177.out] at ho7)); have n0_ := Aside0.mk (Kd.R_elder' (by (with_reducible repeat (first | apply Kd.R_alloc | apply Kd.R_drewN | apply Kd.R_drew)); exact HO176.out) (Kd.R_base ho7) hb); have n1_ := Aside0.mk (Kd.R_lower (Kd.R_new' ho7 (Kd.R_lt (by (with_reducible repeat (first | apply Kd.R_alloc | apply Kd.R_drewN | apply Kd.R_drew)); exact HO176.out))) (below_size (by repeat (first | (with_reducible first | exact HB.out | apply below_alloc | apply pw_below_drewN | apply below_drew1) | exact HB.out)))); have n2_ := Aside0.mk (below_step (by repeat (first | (with_reducible first | exact HB.out | apply below_alloc | apply pw_below_drewN | apply below_drew1) | exact HB.out)) hb); clear HO176; clear HB; have HO176 := n0_; have HO179 := n1_; have HB := n2_; clear n0_ n1_ n2_; clear hb ho7))
 go_loopg [8, 9, 16] k (fun kq v8 v9 v16 w' => ∃ (x8_1 : List Int) (x9_1 : List Int) (x16_1 : Int), v16 = .int .i64 x16_1 ∧ Aside0 (spec_Apart.l0 kq a0 l1 l2 x8_1 x9_1 (l1.length : Int) x16_1 = some (r1, r2)) ∧ Aside0 (kq ≤ k) ∧ Aside0 (Kd.R (Kd.int .i64) 3 w' w.heap.size (fun k_ => some k_ ≠ (v9 : Value).ownBlock) v8 x8_1) ∧ Aside0 (Kd.R (Kd.int .i64) 3 w' w.heap.size (fun k_ => some k_ ≠ (v8 : Value).ownBlock) v9 x9_1) ∧ Aside0 (Below w.heap.size w w'))
 case atStart => exact ⟨(y174), (y177), (0), (by first | rfl | (simp; done) | (simp [*]; done)), H', ⟨Nat.le_refl _⟩, ⟨by (with_reducible repeat (first | apply Kd.R_alloc | apply Kd.R_drewN | apply Kd.R_drew)); exact Kd.R_mono HO176.out (fun _ hk => hk.2)⟩, ⟨by (with_reducible repeat (first | apply Kd.R_alloc | apply Kd.R_drewN | apply Kd.R_drew)); exact Kd.R_mono HO179.out (fun _ hk => hk.2)⟩, ⟨by repeat (first | (with_reducible first | exact HB.out | apply below_alloc | apply pw_below_drewN | apply below_drew1) | exact HB.out)⟩⟩
 case round =>
  clear H'
  try clear c1
  try clear c2
  try clear p2
  obtain ⟨x8_1, x9_1, x16_1, rfl, HA, HK1, HO_8, HO_9, HB⟩ := hrel
  cases gk with
  | zero => exact absurd HA.out (by simp [spec_Apart.l0])
  | succ k1 =>
   have H := HA.out
   clear HA
   simp only [spec_Apart.l0] at H
   by_cases c8 : x16_1 < (l1.length : Int)
   ·rw [if_pos c8] at H
    have c8b0 : decide (x16_1 < (l1.length : Int)) = true := decide_eq_true c8
    clear c8
    by_cases c9 : 0 ≤ x16_1
    ·rw [if_pos c9] at H
     have c9b0 : decide (0 ≤ x16_1) = true := decide_eq_true c9
     clear c9
     by_cases c10 : x16_1 < (l1.length : Int)
     ·rw [if_pos c10] at H
      have c10b0 : decide (x16_1 < (l1.length : Int)) = true := decide_eq_true c10
      clear c10
      by_cases c11 : x16_1 < (l2.length : Int)
      ·rw [if_pos c11] at H
       have c11b0 : decide (x16_1 < (l2.length : Int)) = true := decide_eq_true c11
       clear c11
       by_cases c12 : a0 = 8
       ·rw [if_pos c12] at H
        have c12b0 : (a0 == 8) = true := beq_iff_eq.mpr c12
        have c12b1 : (a0 != 8) = false := bne_eq_false_iff_eq.mpr c12
        clear c12
        obtain ⟨y183, hy183⟩ : ∃ y_ : List Int, y_ = (([rd l1 x16_1] : List Int)) := ⟨_, rfl⟩
        replace H : (if x8_1.length + y183.length < 17592186044416 then ((some (([wrap64 ((rd l1 x16_1) - (rd l2 x16_1))] : List Int) : List Int)).bind fun y189 => (if x9_1.length + y189.length < 17592186044416 then (spec_Apart.l0 k1 a0 l1 l2 (x8_1 ++ y183) (x9_1 ++ y189) (l1.length : Int) (wrap64 (x16_1 + 1))) else (none))) else (none)) = some (r1, r2) := by first | (rw [hy183]; with_reducible exact H) | (have H2_ := (Option.bind_some _ _).symm.trans H; rw [hy183]; with_reducible exact H2_) | (have H2_ := (Option.bind_some _ _).symm.trans H; with_reducible exact H2_) | with_reducible exact H | (rw [hy183]; exact H) | exact H
        have Ny183 := Aside0.mk hy183
        clear hy183
        by_cases c13 : x8_1.length + y183.length < 17592186044416
        ·rw [if_pos c13] at H
         have LMc13 := Aside0.mk c13
         clear c13
         obtain ⟨y186, hy186⟩ : ∃ y_ : List Int, y_ = (x8_1 ++ y183) := ⟨_, rfl⟩
         replace H : ((some (([wrap64 ((rd l1 x16_1) - (rd l2 x16_1))] : List Int) : List Int)).bind fun y189 => (if x9_1.length + y189.length < 17592186044416 then (spec_Apart.l0 k1 a0 l1 l2 y186 (x9_1 ++ y189) (l1.length : Int) (wrap64 (x16_1 + 1))) else (none))) = some (r1, r2) := by first | (rw [hy186]; with_reducible exact H) | (have H2_ := (Option.bind_some _ _).symm.trans H; rw [hy186]; with_reducible exact H2_) | (have H2_ := (Option.bind_some _ _).symm.trans H; with_reducible exact H2_) | with_reducible exact H | (rw [hy186]; exact H) | exact H
         have Ny186 := Aside0.mk hy186
         clear hy186
         obtain ⟨y189, hy189⟩ : ∃ y_ : List Int, y_ = (([wrap64 ((rd l1 x16_1) - (rd l2 x16_1))] : List Int)) := ⟨_, rfl⟩
         replace H : (if x9_1.length + y189.length < 17592186044416 then (spec_Apart.l0 k1 a0 l1 l2 y186 (x9_1 ++ y189) (l1.length : Int) (wrap64 (x16_1 + 1))) else (none)) = some (r1, r2) := by first | (rw [hy189]; with_reducible exact H) | (have H2_ := (Option.bind_some _ _).symm.trans H; rw [hy189]; with_reducible exact H2_) | (have H2_ := (Option.bind_some _ _).symm.trans H; with_reducible exact H2_) | with_reducible exact H | (rw [hy189]; exact H) | exact H
         have Ny189 := Aside0.mk hy189
         clear hy189
         by_cases c14 : x9_1.length + y189.length < 17592186044416
         ·rw [if_pos c14] at H
          have LMc14 := Aside0.mk c14
          clear c14
          obtain ⟨y192, hy192⟩ : ∃ y_ : List Int, y_ = (x9_1 ++ y189) := ⟨_, rfl⟩
          replace H : (spec_Apart.l0 k1 a0 l1 l2 y186 y192 (l1.length : Int) (wrap64 (x16_1 + 1))) = some (r1, r2) := by first | (rw [hy192]; with_reducible exact H) | (have H2_ := (Option.bind_some _ _).symm.trans H; rw [hy192]; with_reducible exact H2_) | (have H2_ := (Option.bind_some _ _).symm.trans H; with_reducible exact H2_) | with_reducible exact H | (rw [hy192]; exact H) | exact H
          have Ny192 := Aside0.mk hy192
          clear hy192
          have H' := Aside0.mk H
          clear H
          try go_wp2
          have n0_ := Aside0.mk (Kd.R_drew HO_8.out)
          have n1_ := Aside0.mk (Kd.R_drew HO_9.out)
          have n2_ := Aside0.mk (below_drew1 HB.out)
          clear HO_8
          clear HO_9
          clear HB
          have HO_8 := n0_
          have HO_9 := n1_
          have HB := n2_
          clear n0_ n1_ n2_
          have p180 : 0 ≤ (x16_1 : Int) := of_decide_eq_true (by first | (with_reducible assumption) | assumption)
          have q180 : x16_1 < (l1.length : Int) := of_decide_eq_true (by first | (with_reducible assumption) | assumption)
          obtain ⟨ad180, e180, hx180_0⟩ := Kd.at_int HR1.out x16_1 p180 q180
          have hw180_0 := hx180_0
          cases e180
          replace hx180_0 := (HB.out.cell (World.block_lt_of_cell? w _ hx180_0)).trans hx180_0
          replace p180 := eq_true p180
          replace q180 := eq_true q180
          have p181 : 0 ≤ (x16_1 : Int) := of_decide_eq_true (by first | (with_reducible assumption) | assumption)
          have q181 : x16_1 < (l2.length : Int) := of_decide_eq_true (by first | (with_reducible assumption) | assumption)
          obtain ⟨ad181, e181, hx181_0⟩ := Kd.at_int HR2.out x16_1 p181 q181
          have hw181_0 := hx181_0
          cases e181
          replace hx181_0 := (HB.out.cell (World.block_lt_of_cell? w _ hx181_0)).trans hx181_0
          replace p181 := eq_true p181
          replace q181 := eq_true q181
          refine start_ (n := 10) (S := fun w' => w'.cell? (ad180.add (x16_1).toNat) = some (.int .i64 (rd l1 x16_1)) ∧ w'.cell? (ad181.add (x16_1).toNat) = some (.int .i64 (rd l2 x16_1))) (ds := []) #[false, false, false, false, false, false, false, false, false, false] (by kernel_rfl) rfl rfl ⟨((HB.out.cell (World.block_lt_of_cell? w _ hw180_0)).trans hw180_0), ((HB.out.cell (World.block_lt_of_cell? w _ hw181_0)).trans hw181_0)⟩ (fun hHeld => ?_); refine with_tabW spec_Apart.tab5 spec_Apart.bits5 (fun HT_ HW_ => ?_)
          generalize wr.drew = w15 at HO_8 HO_9 HB hx180_0 hx181_0 hHeld ⊢
          refine pure_ (i := 0) (N := some 19) (v := ?_) (a' := ?_) #[true, false, false, false, false, false, false, false, false, false] rfl rfl (any_of HT_.out (by kernel_rfl)) (fun _ _ _ h => h) (Or.inl ⟨by rfl, ?_⟩) ?_ ?_
          rotate_left
          ·intro w'
           go_simp
           with_reducible rfl
          rotate_left
          ·simp only [Act.put, List.setIfInBounds_toArray, List.set_cons_zero, List.set_cons_succ, i64_w, i32_w]
           rfl
          refine pure_ (i := 1) (N := some 20) (v := ?_) (a' := ?_) #[true, true, false, false, false, false, false, false, false, false] rfl rfl (any_of HT_.out (by kernel_rfl)) (fun _ _ _ h => h) (Or.inl ⟨by rfl, ?_⟩) ?_ ?_
          rotate_left
          ·intro w'
           go_simp
           with_reducible rfl
          rotate_left
          ·simp only [Act.put, List.setIfInBounds_toArray, List.set_cons_zero, List.set_cons_succ, i64_w, i32_w]
           rfl
          refine pure_ (i := 2) (N := some 21) (v := ?_) (a' := ?_) #[true, true, true, false, false, false, false, false, false, false] rfl rfl (any_of HT_.out (by kernel_rfl)) (fun _ _ _ h => h) (Or.inl ⟨by rfl, ?_⟩) ?_ ?_
          rotate_left
          ·intro w'
           go_simp
           with_reducible rfl
          rotate_left
          ·simp only [Act.put, List.setIfInBounds_toArray, List.set_cons_zero, List.set_cons_succ, i64_w, i32_w]
           rfl
          refine pure_ (i := 4) (N := some 23) (v := ?_) (a' := ?_) #[true, true, true, false, true, false, false, false, false, false] rfl rfl (any_of HT_.out (by kernel_rfl)) (fun _ _ _ h => h) (Or.inl ⟨by rfl, ?_⟩) ?_ ?_
          rotate_left
          ·intro w'
           go_simp
           with_reducible rfl
          rotate_left
          ·simp only [Act.put, List.setIfInBounds_toArray, List.set_cons_zero, List.set_cons_succ, i64_w, i32_w]
           rfl
          refine pure_ (i := 5) (N := some 24) (v := ?_) (a' := ?_) #[true, true, true, false, true, true, false, false, false, false] rfl rfl (any_of HT_.out (by kernel_rfl)) (fun _ _ _ h => h) (Or.inl ⟨by rfl, ?_⟩) ?_ ?_
          rotate_left
          ·intro w'
           go_simp
           with_reducible rfl
          rotate_left
          ·simp only [Act.put, List.setIfInBounds_toArray, List.set_cons_zero, List.set_cons_succ, i64_w, i32_w]
           rfl
          refine pure_ (i := 6) (N := some 25) (v := ?_) (a' := ?_) #[true, true, true, false, true, true, true, false, false, false] rfl rfl (any_of HT_.out (by kernel_rfl)) (fun _ _ _ h => h) (Or.inl ⟨by rfl, ?_⟩) ?_ ?_
          rotate_left
          ·intro w'
           go_simp
           with_reducible rfl
          rotate_left
          ·simp only [Act.put, List.setIfInBounds_toArray, List.set_cons_zero, List.set_cons_succ, i64_w, i32_w]
           rfl
          refine take_ (i := 3) (N := some 22) (v := ?_) (a' := ?_) #[true, true, true, true, true, true, true, false, false, false] rfl rfl (take_ofW HT_.out HW_.out (by kernel_rfl)) (fun _ _ _ h => h) (Or.inl ⟨by rfl, ?_⟩) hHeld ?_ ?_
          rotate_left
          ·rintro w' ⟨s0, s1⟩
           go_simp
           with_reducible rfl
          rotate_left
          ·simp only [Act.put, List.setIfInBounds_toArray, List.set_cons_zero, List.set_cons_succ, i64_w, i32_w]
           rfl
          refine take_ (i := 7) (N := some 26) (v := ?_) (a' := ?_) #[true, true, true, true, true, true, true, true, false, false] rfl rfl (take_ofW HT_.out HW_.out (by kernel_rfl)) (fun _ _ _ h => h) (Or.inl ⟨by rfl, ?_⟩) hHeld ?_ ?_
          rotate_left
          ·rintro w' ⟨s0, s1⟩
           go_simp
           with_reducible rfl
          rotate_left
          ·simp only [Act.put, List.setIfInBounds_toArray, List.set_cons_zero, List.set_cons_succ, i64_w, i32_w]
           rfl
          refine pure_ (i := 8) (N := some 27) (v := ?_) (a' := ?_) #[true, true, true, true, true, true, true, true, true, false] rfl rfl (any_of HT_.out (by kernel_rfl)) (fun _ _ _ h => h) (Or.inl ⟨by rfl, ?_⟩) ?_ ?_
          rotate_left
          ·intro w'
           go_simp
           with_reducible rfl
          rotate_left
          ·simp only [Act.put, List.setIfInBounds_toArray, List.set_cons_zero, List.set_cons_succ, i64_w, i32_w]
           rfl
          refine pure_ (i := 9) (N := some 11) (v := ?_) (a' := ?_) #[true, true, true, true, true, true, true, true, true, true] rfl rfl (any_of HT_.out (by kernel_rfl)) (fun _ _ _ h => h) (Or.inl ⟨by rfl, ?_⟩) ?_ ?_
          rotate_left
          ·intro w'
           go_simp
           with_reducible rfl
          rotate_left
          ·simp only [Act.put, List.setIfInBounds_toArray, List.set_cons_zero, List.set_cons_succ, i64_w, i32_w]
           rfl
          refine done_ (done_of HT_.out (by kernel_rfl)) ?_
          have p182 : 0 ≤ (x16_1 : Int) := of_decide_eq_true (by first | (with_reducible assumption) | assumption)
          have q182 : x16_1 < (l1.length : Int) := of_decide_eq_true (by first | (with_reducible assumption) | assumption)
          obtain ⟨ad182, e182, hx182_0⟩ := Kd.at_int HR1.out x16_1 p182 q182
          obtain rfl : ad180 = ad182 := (by injection e182)
          replace hx182_0 := (HB.out.cell (World.block_lt_of_cell? w _ hx182_0)).trans hx182_0
          replace p182 := eq_true p182
          replace q182 := eq_true q182
          try go_wp2_with (first | ((with_reducible refine gate_dst (N := 53) rfl ?_); refine Kd.R_lit (Kd.int .i64) _ 3 ?hg (N := 53) ?hd (xs := ([rd l1 x16_1] : List Int)) (inner := [.int .i64 (rd l1 x16_1)]) (ok := fun _ => True) (okp := fun _ => True) ?hr ?hp (fun _ hk => hk) trivial (Below.refl _ _) (Nat.le_refl _) (by simp) ?_; (case hd => rfl); (case hg => rfl); (case hr => first | (go_simp; done) | (go_simp; rfl)); (case hp => exact (Reps.one (show Kd.M (Kd.int .i64) _ _ _ (rd l1 x16_1) [.int .i64 (rd l1 x16_1)] from rfl) (Reps.none _ _))); intro v184 w16 ho17 hb hg_ hnew_; clear hg_ hnew_; (first | rw [← Ny183.out] at ho17 | (simp only [Int.reduceToNat] at ho17; rw [← Ny183.out] at ho17)); have n0_ := Aside0.mk (Kd.R_elder' (by (with_reducible repeat (first | apply Kd.R_alloc | apply Kd.R_drewN | apply Kd.R_drew)); exact HO_8.out) (Kd.R_base ho17) hb); have n1_ := Aside0.mk (Kd.R_elder' (by (with_reducible repeat (first | apply Kd.R_alloc | apply Kd.R_drewN | apply Kd.R_drew)); exact HO_9.out) (Kd.R_base ho17) hb); have n2_ := Aside0.mk (Kd.R_lower (Kd.R_new' (Kd.R_new' ho17 (Kd.R_lt (by (with_reducible repeat (first | apply Kd.R_alloc | apply Kd.R_drewN | apply Kd.R_drew)); exact HO_8.out))) (Kd.R_lt (by (with_reducible repeat (first | apply Kd.R_alloc | apply Kd.R_drewN | apply Kd.R_drew)); exact HO_9.out))) (below_size (by repeat (first | (with_reducible first | exact HB.out | apply below_alloc | apply pw_below_drewN | apply below_drew1) | exact HB.out)))); have n3_ := Aside0.mk (below_step (by repeat (first | (with_reducible first | exact HB.out | apply below_alloc | apply pw_below_drewN | apply below_drew1) | exact HB.out)) hb); clear HO_8; clear HO_9; clear HB; have HO_8 := n0_; have HO_9 := n1_; have HO185 := n2_; have HB := n3_; clear n0_ n1_ n2_ n3_; clear hb ho17; obtain ⟨Ao19, co19, eo19⟩ := Kd.R_slice HO185.out; subst eo19) | ((with_reducible refine gate_builtin (b := .append) (xs := #[.tmp 48, .tmp 53]) rfl ?_); at_builtin; refine Kd.R_append_rows (Kd.int .i64) (w0 := w) w.heap.size rfl (.tmp 48) (.tmp 53) 44 3 (.int .i64 0) 8 rfl Tryz.underlying44 info3 rfl (by decide) (by omega) u8 x8_1 y183 _ _ _ (fun k_ => some k_ ≠ (u9 : Value).ownBlock ∧ some k_ ≠ (.slice Ao19 y183.length co19 : Value).ownBlock) (fun _ => False) rfl rfl ?aO ?aR (fun _ _ h => h) (fun _ h => h.elim) ?aF ?aB ?aS ?aL ?_; (case aR => repeat (first | exact (Kd.R_reads' HO185.out).2.2 | (with_reducible refine Kd.C_alloc ?_ _) | (with_reducible refine Kd.C_drewN ?_ _) | (with_reducible refine Kd.C_drew ?_))); (case aB => exact (by repeat (first | (with_reducible first | exact HB.out | apply below_alloc | apply pw_below_drewN | apply below_drew1) | exact HB.out))); (case aF => exact (fun k_ hk => ⟨Kd.fresh' (Kd.R_lt (by (with_reducible repeat (first | apply Kd.R_alloc | apply Kd.R_drewN | apply Kd.R_drew)); exact HO_9.out)) k_ hk, Kd.fresh' (Kd.R_lt (by (with_reducible repeat (first | apply Kd.R_alloc | apply Kd.R_drewN | apply Kd.R_drew)); exact HO185.out)) k_ hk⟩)); (case aO => exact (by (with_reducible repeat (first | apply Kd.R_alloc | apply Kd.R_drewN | apply Kd.R_drew)); exact HO_8.out)); (case aS => exact (below_size (by repeat (first | (with_reducible first | exact HB.out | apply below_alloc | apply pw_below_drewN | apply below_drew1) | exact HB.out)))); (case aL => have := LMc13.out; omega); intro v187 w18 ho hb hg hat; rw [← Ny186.out] at ho; have n0_ := Aside0.mk (Kd.R_after (ok := (fun k_ => some k_ ≠ (.slice Ao19 y183.length co19 : Value).ownBlock)) (by (with_reducible repeat (first | apply Kd.R_alloc | apply Kd.R_drewN | apply Kd.R_drew)); exact Kd.R_mono HO_9.out (fun _ hk => ⟨hk.2, hk.1⟩)) hg hat); have n1_ := Aside0.mk (Kd.R_after (ok := (fun k_ => some k_ ≠ (u9 : Value).ownBlock)) (by (with_reducible repeat (first | apply Kd.R_alloc | apply Kd.R_drewN | apply Kd.R_drew)); exact Kd.R_mono HO185.out (fun _ hk => ⟨hk.2, hk.1.2⟩)) hg hat); have n2_ := Aside0.mk (hb); have n3_ := Aside0.mk (ho); clear HO_9; clear HO185; clear HB; clear HO_8; have HO_9 := n0_; have HO185 := n1_; have HB := n2_; have HO188 := n3_; clear n0_ n1_ n2_ n3_; clear ho hb hg hat) | ((with_reducible refine gate_dst (N := 57) rfl ?_); refine Kd.R_lit (Kd.int .i64) _ 3 ?hg (N := 57) ?hd (xs := ([wrap64 ((rd l1 x16_1) - (rd l2 x16_1))] : List Int)) (inner := [.int .i64 (wrap64 ((rd l1 x16_1) - (rd l2 x16_1)))]) (ok := fun _ => True) (okp := fun _ => True) ?hr ?hp (fun _ hk => hk) trivial (Below.refl _ _) (Nat.le_refl _) (by simp) ?_; (case hd => rfl); (case hg => rfl); (case hr => first | (go_simp; done) | (go_simp; rfl)); (case hp => exact (Reps.one (show Kd.M (Kd.int .i64) _ _ _ (wrap64 ((rd l1 x16_1) - (rd l2 x16_1))) [.int .i64 (wrap64 ((rd l1 x16_1) - (rd l2 x16_1)))] from rfl) (Reps.none _ _))); intro v190 w20 ho21 hb hg_ hnew_; clear hg_ hnew_; (first | rw [← Ny189.out] at ho21 | (simp only [Int.reduceToNat] at ho21; rw [← Ny189.out] at ho21)); have n0_ := Aside0.mk (Kd.R_elder' (by (with_reducible repeat (first | apply Kd.R_alloc | apply Kd.R_drewN | apply Kd.R_drew)); exact HO_9.out) (Kd.R_base ho21) hb); have n1_ := Aside0.mk (Kd.R_elder' (by (with_reducible repeat (first | apply Kd.R_alloc | apply Kd.R_drewN | apply Kd.R_drew)); exact HO185.out) (Kd.R_base ho21) hb); have n2_ := Aside0.mk (Kd.R_elder' (by (with_reducible repeat (first | apply Kd.R_alloc | apply Kd.R_drewN | apply Kd.R_drew)); exact HO188.out) (Kd.R_base ho21) hb); have n3_ := Aside0.mk (Kd.R_lower (Kd.R_new' (Kd.R_new' (Kd.R_new' ho21 (Kd.R_lt (by (with_reducible repeat (first | apply Kd.R_alloc | apply Kd.R_drewN | apply Kd.R_drew)); exact HO_9.out))) (Kd.R_lt (by (with_reducible repeat (first | apply Kd.R_alloc | apply Kd.R_drewN | apply Kd.R_drew)); exact HO185.out))) (Kd.R_lt (by (with_reducible repeat (first | apply Kd.R_alloc | apply Kd.R_drewN | apply Kd.R_drew)); exact HO188.out))) (below_size (by repeat (first | (with_reducible first | exact HB.out | apply below_alloc | apply pw_below_drewN | apply below_drew1) | exact HB.out)))); have n4_ := Aside0.mk (below_step (by repeat (first | (with_reducible first | exact HB.out | apply below_alloc | apply pw_below_drewN | apply below_drew1) | exact HB.out)) hb); clear HO_9; clear HO185; clear HO188; clear HB; have HO_9 := n0_; have HO185 := n1_; have HO188 := n2_; have HO191 := n3_; have HB := n4_; clear n0_ n1_ n2_ n3_ n4_; clear hb ho21; obtain ⟨Ao23, co23, eo23⟩ := Kd.R_slice HO191.out; subst eo23) | ((with_reducible refine gate_builtin (b := .append) (xs := #[.tmp 55, .tmp 57]) rfl ?_); at_builtin; refine Kd.R_append_rows (Kd.int .i64) (w0 := w) w.heap.size rfl (.tmp 55) (.tmp 57) 44 3 (.int .i64 0) 8 rfl Tryz.underlying44 info3 rfl (by decide) (by omega) u9 x9_1 y189 _ _ _ (fun k_ => some k_ ≠ (.slice Ao19 y183.length co19 : Value).ownBlock ∧ some k_ ≠ (v187 : Value).ownBlock ∧ some k_ ≠ (.slice Ao23 y189.length co23 : Value).ownBlock) (fun _ => False) rfl rfl ?aO ?aR (fun _ _ h => h) (fun _ h => h.elim) ?aF ?aB ?aS ?aL ?_; (case aR => repeat (first | exact (Kd.R_reads' HO191.out).2.2 | (with_reducible refine Kd.C_alloc ?_ _) | (with_reducible refine Kd.C_drewN ?_ _) | (with_reducible refine Kd.C_drew ?_))); (case aB => exact (by repeat (first | (with_reducible first | exact HB.out | apply below_alloc | apply pw_below_drewN | apply below_drew1) | exact HB.out))); (case aF => exact (fun k_ hk => ⟨Kd.fresh' (Kd.R_lt (by (with_reducible repeat (first | apply Kd.R_alloc | apply Kd.R_drewN | apply Kd.R_drew)); exact HO185.out)) k_ hk, Kd.fresh' (Kd.R_lt (by (with_reducible repeat (first | apply Kd.R_alloc | apply Kd.R_drewN | apply Kd.R_drew)); exact HO188.out)) k_ hk, Kd.fresh' (Kd.R_lt (by (with_reducible repeat (first | apply Kd.R_alloc | apply Kd.R_drewN | apply Kd.R_drew)); exact HO191.out)) k_ hk⟩)); (case aO => exact (by (with_reducible repeat (first | apply Kd.R_alloc | apply Kd.R_drewN | apply Kd.R_drew)); exact Kd.R_mono HO_9.out (fun _ hk => ⟨hk.1.1, ⟨hk.1.2, hk.2⟩⟩))); (case aS => exact (below_size (by repeat (first | (with_reducible first | exact HB.out | apply below_alloc | apply pw_below_drewN | apply below_drew1) | exact HB.out)))); (case aL => have := LMc14.out; omega); intro v193 w22 ho hb hg hat; rw [← Ny192.out] at ho; have n0_ := Aside0.mk (Kd.R_after (ok := (fun k_ => some k_ ≠ (v187 : Value).ownBlock ∧ some k_ ≠ (.slice Ao23 y189.length co23 : Value).ownBlock)) (by (with_reducible repeat (first | apply Kd.R_alloc | apply Kd.R_drewN | apply Kd.R_drew)); exact Kd.R_mono HO185.out (fun _ hk => ⟨⟨hk.1.2, hk.2⟩, hk.1.1⟩)) hg hat); have n1_ := Aside0.mk (Kd.R_after (ok := (fun k_ => some k_ ≠ (.slice Ao19 y183.length co19 : Value).ownBlock ∧ some k_ ≠ (.slice Ao23 y189.length co23 : Value).ownBlock)) (by (with_reducible repeat (first | apply Kd.R_alloc | apply Kd.R_drewN | apply Kd.R_drew)); exact Kd.R_mono HO188.out (fun _ hk => ⟨⟨hk.1.2, hk.2⟩, hk.1.1⟩)) hg hat); have n2_ := Aside0.mk (Kd.R_after (ok := (fun k_ => some k_ ≠ (.slice Ao19 y183.length co19 : Value).ownBlock ∧ some k_ ≠ (v187 : Value).ownBlock)) (by (with_reducible repeat (first | apply Kd.R_alloc | apply Kd.R_drewN | apply Kd.R_drew)); exact Kd.R_mono HO191.out (fun _ hk => ⟨⟨hk.1.2, hk.2⟩, hk.1.1.2⟩)) hg hat); have n3_ := Aside0.mk (hb); have n4_ := Aside0.mk (ho); clear HO185; clear HO188; clear HO191; clear HB; clear HO_9; have HO185 := n0_; have HO188 := n1_; have HO191 := n2_; have HB := n3_; have HO194 := n4_; clear n0_ n1_ n2_ n3_ n4_; clear ho hb hg hat))
          go_roundg k1
          case measure => have := HK1.out; omega
          case rel => exact ⟨(y186), (y192), (wrap64 (x16_1 + 1)), (by first | rfl | (simp; done) | (simp [*]; done)), H', ⟨by have := HK1.out; omega⟩, ⟨by (with_reducible repeat (first | apply Kd.R_alloc | apply Kd.R_drewN | apply Kd.R_drew)); exact Kd.R_mono HO188.out (fun _ hk => hk.2)⟩, ⟨by (with_reducible repeat (first | apply Kd.R_alloc | apply Kd.R_drewN | apply Kd.R_drew)); exact Kd.R_mono HO194.out (fun _ hk => hk.2.1)⟩, ⟨by repeat (first | (with_reducible first | exact HB.out | apply below_alloc | apply pw_below_drewN | apply below_drew1) | exact HB.out)⟩⟩
         ·rw [if_neg c14] at H
          exact absurd H (by simp)
        ·rw [if_neg c13] at H
         exact absurd H (by simp)
       ·rw [if_neg c12] at H
        have c12b0 : (a0 == 8) = false := beq_eq_false_iff_ne.mpr c12
        have c12b1 : (a0 != 8) = true := bne_iff_ne.mpr c12
        by_cases c24 : a0 = 9
        ·rw [if_pos c24] at H
         have c24b0 : (a0 == 9) = true := beq_iff_eq.mpr c24
         have c24b1 : (a0 != 9) = false := bne_eq_false_iff_eq.mpr c24
         clear c24
         obtain ⟨y195, hy195⟩ : ∃ y_ : List Int, y_ = (([wrap64 ((rd l1 x16_1) - (rd l2 x16_1))] : List Int)) := ⟨_, rfl⟩
         replace H : (if x8_1.length + y195.length < 17592186044416 then ((some (([rd l2 x16_1] : List Int) : List Int)).bind fun y202 => (if x9_1.length + y202.length < 17592186044416 then (spec_Apart.l0 k1 a0 l1 l2 (x8_1 ++ y195) (x9_1 ++ y202) (l1.length : Int) (wrap64 (x16_1 + 1))) else (none))) else (none)) = some (r1, r2) := by first | (rw [hy195]; with_reducible exact H) | (have H2_ := (Option.bind_some _ _).symm.trans H; rw [hy195]; with_reducible exact H2_) | (have H2_ := (Option.bind_some _ _).symm.trans H; with_reducible exact H2_) | with_reducible exact H | (rw [hy195]; exact H) | exact H
         have Ny195 := Aside0.mk hy195
         clear hy195
         by_cases c25 : x8_1.length + y195.length < 17592186044416
         ·rw [if_pos c25] at H
          have LMc25 := Aside0.mk c25
          clear c25
          obtain ⟨y198, hy198⟩ : ∃ y_ : List Int, y_ = (x8_1 ++ y195) := ⟨_, rfl⟩
          replace H : ((some (([rd l2 x16_1] : List Int) : List Int)).bind fun y202 => (if x9_1.length + y202.length < 17592186044416 then (spec_Apart.l0 k1 a0 l1 l2 y198 (x9_1 ++ y202) (l1.length : Int) (wrap64 (x16_1 + 1))) else (none))) = some (r1, r2) := by first | (rw [hy198]; with_reducible exact H) | (have H2_ := (Option.bind_some _ _).symm.trans H; rw [hy198]; with_reducible exact H2_) | (have H2_ := (Option.bind_some _ _).symm.trans H; with_reducible exact H2_) | with_reducible exact H | (rw [hy198]; exact H) | exact H
          have Ny198 := Aside0.mk hy198
          clear hy198
          obtain ⟨y202, hy202⟩ : ∃ y_ : List Int, y_ = (([rd l2 x16_1] : List Int)) := ⟨_, rfl⟩
          replace H : (if x9_1.length + y202.length < 17592186044416 then (spec_Apart.l0 k1 a0 l1 l2 y198 (x9_1 ++ y202) (l1.length : Int) (wrap64 (x16_1 + 1))) else (none)) = some (r1, r2) := by first | (rw [hy202]; with_reducible exact H) | (have H2_ := (Option.bind_some _ _).symm.trans H; rw [hy202]; with_reducible exact H2_) | (have H2_ := (Option.bind_some _ _).symm.trans H; with_reducible exact H2_) | with_reducible exact H | (rw [hy202]; exact H) | exact H
          have Ny202 := Aside0.mk hy202
          clear hy202
          by_cases c26 : x9_1.length + y202.length < 17592186044416
          ·rw [if_pos c26] at H
           have LMc26 := Aside0.mk c26
           clear c26
           obtain ⟨y205, hy205⟩ : ∃ y_ : List Int, y_ = (x9_1 ++ y202) := ⟨_, rfl⟩
           replace H : (spec_Apart.l0 k1 a0 l1 l2 y198 y205 (l1.length : Int) (wrap64 (x16_1 + 1))) = some (r1, r2) := by first | (rw [hy205]; with_reducible exact H) | (have H2_ := (Option.bind_some _ _).symm.trans H; rw [hy205]; with_reducible exact H2_) | (have H2_ := (Option.bind_some _ _).symm.trans H; with_reducible exact H2_) | with_reducible exact H | (rw [hy205]; exact H) | exact H
           have Ny205 := Aside0.mk hy205
           clear hy205
           have H' := Aside0.mk H
           clear H
           try go_wp2
           have n0_ := Aside0.mk (Kd.R_drew HO_8.out)
           have n1_ := Aside0.mk (Kd.R_drew HO_9.out)
           have n2_ := Aside0.mk (below_drew1 HB.out)
           clear HO_8
           clear HO_9
           clear HB
           have HO_8 := n0_
           have HO_9 := n1_
           have HB := n2_
           clear n0_ n1_ n2_
           have p180 : 0 ≤ (x16_1 : Int) := of_decide_eq_true (by first | (with_reducible assumption) | assumption)
           have q180 : x16_1 < (l1.length : Int) := of_decide_eq_true (by first | (with_reducible assumption) | assumption)
           obtain ⟨ad180, e180, hx180_0⟩ := Kd.at_int HR1.out x16_1 p180 q180
           have hw180_0 := hx180_0
           cases e180
           replace hx180_0 := (HB.out.cell (World.block_lt_of_cell? w _ hx180_0)).trans hx180_0
           replace p180 := eq_true p180
           replace q180 := eq_true q180
           have p181 : 0 ≤ (x16_1 : Int) := of_decide_eq_true (by first | (with_reducible assumption) | assumption)
           have q181 : x16_1 < (l2.length : Int) := of_decide_eq_true (by first | (with_reducible assumption) | assumption)
           obtain ⟨ad181, e181, hx181_0⟩ := Kd.at_int HR2.out x16_1 p181 q181
           have hw181_0 := hx181_0
           cases e181
           replace hx181_0 := (HB.out.cell (World.block_lt_of_cell? w _ hx181_0)).trans hx181_0
           replace p181 := eq_true p181
           replace q181 := eq_true q181
           refine start_ (n := 10) (S := fun w' => w'.cell? (ad180.add (x16_1).toNat) = some (.int .i64 (rd l1 x16_1)) ∧ w'.cell? (ad181.add (x16_1).toNat) = some (.int .i64 (rd l2 x16_1))) (ds := []) #[false, false, false, false, false, false, false, false, false, false] (by kernel_rfl) rfl rfl ⟨((HB.out.cell (World.block_lt_of_cell? w _ hw180_0)).trans hw180_0), ((HB.out.cell (World.block_lt_of_cell? w _ hw181_0)).trans hw181_0)⟩ (fun hHeld => ?_); refine with_tabW spec_Apart.tab5 spec_Apart.bits5 (fun HT_ HW_ => ?_)
           generalize wr.drew = w27 at HO_8 HO_9 HB hx180_0 hx181_0 hHeld ⊢
           refine pure_ (i := 0) (N := some 19) (v := ?_) (a' := ?_) #[true, false, false, false, false, false, false, false, false, false] rfl rfl (any_of HT_.out (by kernel_rfl)) (fun _ _ _ h => h) (Or.inl ⟨by rfl, ?_⟩) ?_ ?_
           rotate_left
           ·intro w'
            go_simp
            with_reducible rfl
           rotate_left
           ·simp only [Act.put, List.setIfInBounds_toArray, List.set_cons_zero, List.set_cons_succ, i64_w, i32_w]
            rfl
           refine pure_ (i := 1) (N := some 20) (v := ?_) (a' := ?_) #[true, true, false, false, false, false, false, false, false, false] rfl rfl (any_of HT_.out (by kernel_rfl)) (fun _ _ _ h => h) (Or.inl ⟨by rfl, ?_⟩) ?_ ?_
           rotate_left
           ·intro w'
            go_simp
            with_reducible rfl
           rotate_left
           ·simp only [Act.put, List.setIfInBounds_toArray, List.set_cons_zero, List.set_cons_succ, i64_w, i32_w]
            rfl
           refine pure_ (i := 2) (N := some 21) (v := ?_) (a' := ?_) #[true, true, true, false, false, false, false, false, false, false] rfl rfl (any_of HT_.out (by kernel_rfl)) (fun _ _ _ h => h) (Or.inl ⟨by rfl, ?_⟩) ?_ ?_
           rotate_left
           ·intro w'
            go_simp
            with_reducible rfl
           rotate_left
           ·simp only [Act.put, List.setIfInBounds_toArray, List.set_cons_zero, List.set_cons_succ, i64_w, i32_w]
            rfl
           refine pure_ (i := 4) (N := some 23) (v := ?_) (a' := ?_) #[true, true, true, false, true, false, false, false, false, false] rfl rfl (any_of HT_.out (by kernel_rfl)) (fun _ _ _ h => h) (Or.inl ⟨by rfl, ?_⟩) ?_ ?_
           rotate_left
           ·intro w'
            go_simp
            with_reducible rfl
           rotate_left
           ·simp only [Act.put, List.setIfInBounds_toArray, List.set_cons_zero, List.set_cons_succ, i64_w, i32_w]
            rfl
           refine pure_ (i := 5) (N := some 24) (v := ?_) (a' := ?_) #[true, true, true, false, true, true, false, false, false, false] rfl rfl (any_of HT_.out (by kernel_rfl)) (fun _ _ _ h => h) (Or.inl ⟨by rfl, ?_⟩) ?_ ?_
           rotate_left
           ·intro w'
            go_simp
            with_reducible rfl
           rotate_left
           ·simp only [Act.put, List.setIfInBounds_toArray, List.set_cons_zero, List.set_cons_succ, i64_w, i32_w]
            rfl
           refine pure_ (i := 6) (N := some 25) (v := ?_) (a' := ?_) #[true, true, true, false, true, true, true, false, false, false] rfl rfl (any_of HT_.out (by kernel_rfl)) (fun _ _ _ h => h) (Or.inl ⟨by rfl, ?_⟩) ?_ ?_
           rotate_left
           ·intro w'
            go_simp
            with_reducible rfl
           rotate_left
           ·simp only [Act.put, List.setIfInBounds_toArray, List.set_cons_zero, List.set_cons_succ, i64_w, i32_w]
            rfl
           refine take_ (i := 3) (N := some 22) (v := ?_) (a' := ?_) #[true, true, true, true, true, true, true, false, false, false] rfl rfl (take_ofW HT_.out HW_.out (by kernel_rfl)) (fun _ _ _ h => h) (Or.inl ⟨by rfl, ?_⟩) hHeld ?_ ?_
           rotate_left
           ·rintro w' ⟨s0, s1⟩
            go_simp
            with_reducible rfl
           rotate_left
           ·simp only [Act.put, List.setIfInBounds_toArray, List.set_cons_zero, List.set_cons_succ, i64_w, i32_w]
            rfl
           refine take_ (i := 7) (N := some 26) (v := ?_) (a' := ?_) #[true, true, true, true, true, true, true, true, false, false] rfl rfl (take_ofW HT_.out HW_.out (by kernel_rfl)) (fun _ _ _ h => h) (Or.inl ⟨by rfl, ?_⟩) hHeld ?_ ?_
           rotate_left
           ·rintro w' ⟨s0, s1⟩
            go_simp
            with_reducible rfl
           rotate_left
           ·simp only [Act.put, List.setIfInBounds_toArray, List.set_cons_zero, List.set_cons_succ, i64_w, i32_w]
            rfl
           refine pure_ (i := 8) (N := some 27) (v := ?_) (a' := ?_) #[true, true, true, true, true, true, true, true, true, false] rfl rfl (any_of HT_.out (by kernel_rfl)) (fun _ _ _ h => h) (Or.inl ⟨by rfl, ?_⟩) ?_ ?_
           rotate_left
           ·intro w'
            go_simp
            with_reducible rfl
           rotate_left
           ·simp only [Act.put, List.setIfInBounds_toArray, List.set_cons_zero, List.set_cons_succ, i64_w, i32_w]
            rfl
           refine pure_ (i := 9) (N := some 11) (v := ?_) (a' := ?_) #[true, true, true, true, true, true, true, true, true, true] rfl rfl (any_of HT_.out (by kernel_rfl)) (fun _ _ _ h => h) (Or.inl ⟨by rfl, ?_⟩) ?_ ?_
           rotate_left
           ·intro w'
            go_simp
            with_reducible rfl
           rotate_left
           ·simp only [Act.put, List.setIfInBounds_toArray, List.set_cons_zero, List.set_cons_succ, i64_w, i32_w]
            rfl
           refine done_ (done_of HT_.out (by kernel_rfl)) ?_
           obtain ⟨Ao28, co28, eo28⟩ := Kd.R_slice HO_8.out
           subst eo28
           obtain ⟨Ao29, co29, eo29⟩ := Kd.R_slice HO_9.out
           subst eo29
           try go_wp2
           have n0_ := Aside0.mk (Kd.R_drew HO_8.out)
           have n1_ := Aside0.mk (Kd.R_drew HO_9.out)
           have n2_ := Aside0.mk (below_drew1 HB.out)
           clear HO_8
           clear HO_9
           clear HB
           have HO_8 := n0_
           have HO_9 := n1_
           have HB := n2_
           clear n0_ n1_ n2_
           have p201 : 0 ≤ (x16_1 : Int) := of_decide_eq_true (by first | (with_reducible assumption) | assumption)
           have q201 : x16_1 < (l2.length : Int) := of_decide_eq_true (by first | (with_reducible assumption) | assumption)
           obtain ⟨ad201, e201, hx201_0⟩ := Kd.at_int HR2.out x16_1 p201 q201
           have hw201_0 := hx201_0
           obtain rfl : ad181 = ad201 := (by injection e201)
           replace hx201_0 := (HB.out.cell (World.block_lt_of_cell? w _ hx201_0)).trans hx201_0
           replace p201 := eq_true p201
           replace q201 := eq_true q201
           refine start_ (n := 13) (S := fun w' => w'.cell? (ad181.add (x16_1).toNat) = some (.int .i64 (rd l2 x16_1))) (ds := []) #[false, false, false, false, false, false, false, false, false, false, false, false, false] (by kernel_rfl) rfl rfl (((HB.out.cell (World.block_lt_of_cell? w _ hw201_0)).trans hw201_0)) (fun hHeld => ?_); refine with_tabW spec_Apart.tab11 spec_Apart.bits11 (fun HT_ HW_ => ?_)
           generalize w27.drew = w30 at HO_8 HO_9 HB hx201_0 hHeld ⊢
           refine pure_ (i := 0) (N := some 61) (v := ?_) (a' := ?_) #[true, false, false, false, false, false, false, false, false, false, false, false, false] rfl rfl (any_of HT_.out (by kernel_rfl)) (fun _ _ _ h => h) (Or.inl ⟨by rfl, ?_⟩) ?_ ?_
           rotate_left
           ·intro w'
            go_simp
            with_reducible rfl
           rotate_left
           ·simp only [Act.put, List.setIfInBounds_toArray, List.set_cons_zero, List.set_cons_succ, i64_w, i32_w]
            rfl
           refine pure_ (i := 1) (N := some 62) (v := ?_) (a' := ?_) #[true, true, false, false, false, false, false, false, false, false, false, false, false] rfl rfl (any_of HT_.out (by kernel_rfl)) (fun _ _ _ h => h) (Or.inl ⟨by rfl, ?_⟩) ?_ ?_
           rotate_left
           ·intro w'
            go_simp
            with_reducible rfl
           rotate_left
           ·simp only [Act.put, List.setIfInBounds_toArray, List.set_cons_zero, List.set_cons_succ, i64_w, i32_w]
            rfl
           refine pure_ (i := 4) (N := some 65) (v := ?_) (a' := ?_) #[true, true, false, false, true, false, false, false, false, false, false, false, false] rfl rfl (any_of HT_.out (by kernel_rfl)) (fun _ _ _ h => h) (Or.inl ⟨by rfl, ?_⟩) ?_ ?_
           rotate_left
           ·intro w'
            go_simp
            with_reducible rfl
           rotate_left
           ·simp only [Act.put, List.setIfInBounds_toArray, List.set_cons_zero, List.set_cons_succ, i64_w, i32_w]
            rfl
           refine pure_ (i := 5) (N := some 66) (v := ?_) (a' := ?_) #[true, true, false, false, true, true, false, false, false, false, false, false, false] rfl rfl (any_of HT_.out (by kernel_rfl)) (fun _ _ _ h => h) (Or.inl ⟨by rfl, ?_⟩) ?_ ?_
           rotate_left
           ·intro w'
            go_simp
            with_reducible rfl
           rotate_left
           ·simp only [Act.put, List.setIfInBounds_toArray, List.set_cons_zero, List.set_cons_succ, i64_w, i32_w]
            rfl
           refine pure_ (i := 6) (N := some 67) (v := ?_) (a' := ?_) #[true, true, false, false, true, true, true, false, false, false, false, false, false] rfl rfl (any_of HT_.out (by kernel_rfl)) (fun _ _ _ h => h) (Or.inl ⟨by rfl, ?_⟩) ?_ ?_
           rotate_left
           ·intro w'
            go_simp
            with_reducible rfl
           rotate_left
           ·simp only [Act.put, List.setIfInBounds_toArray, List.set_cons_zero, List.set_cons_succ, i64_w, i32_w]
            rfl
           refine pure_ (i := 7) (N := some 68) (v := ?_) (a' := ?_) #[true, true, false, false, true, true, true, true, false, false, false, false, false] rfl rfl (any_of HT_.out (by kernel_rfl)) (fun _ _ _ h => h) (Or.inl ⟨by rfl, ?_⟩) ?_ ?_
           rotate_left
           ·intro w'
            go_simp
            with_reducible rfl
           rotate_left
           ·simp only [Act.put, List.setIfInBounds_toArray, List.set_cons_zero, List.set_cons_succ, i64_w, i32_w]
            rfl
           refine take_ (i := 8) (N := some 69) (v := ?_) (a' := ?_) #[true, true, false, false, true, true, true, true, true, false, false, false, false] rfl rfl (take_ofW HT_.out HW_.out (by kernel_rfl)) (fun _ _ _ h => h) (Or.inl ⟨by rfl, ?_⟩) hHeld ?_ ?_
           rotate_left
           ·intro w' s0
            go_simp
            with_reducible rfl
           rotate_left
           ·simp only [Act.put, List.setIfInBounds_toArray, List.set_cons_zero, List.set_cons_succ, i64_w, i32_w]
            rfl
           refine join_ (σ := Value × Value × Value) 3 #[true, true, true, true, true, true, true, true, true, true, false, false, false] (fun s_ => [(63, s_.1), (64, s_.2.1), (70, s_.2.2)]) (fun s_ w' => (w'.cell? (ad181.add (x16_1).toNat) = some (.int .i64 (rd l2 x16_1))) ∧ (Kd.R (Kd.int .i64) 3 w' w.heap.size (fun k_ => some k_ ≠ (s_.2.1 : Value).ownBlock ∧ some k_ ≠ (s_.2.2 : Value).ownBlock ∧ some k_ ≠ (.slice Ao29 x9_1.length co29 : Value).ownBlock) s_.1 y195) ∧ (Kd.R (Kd.int .i64) 3 w' w.heap.size (fun k_ => some k_ ≠ (s_.1 : Value).ownBlock ∧ some k_ ≠ (s_.2.2 : Value).ownBlock ∧ some k_ ≠ (.slice Ao29 x9_1.length co29 : Value).ownBlock) s_.2.1 y198) ∧ (Kd.R (Kd.int .i64) 3 w' w.heap.size (fun k_ => some k_ ≠ (s_.1 : Value).ownBlock ∧ some k_ ≠ (s_.2.1 : Value).ownBlock ∧ some k_ ≠ (.slice Ao29 x9_1.length co29 : Value).ownBlock) s_.2.2 y202) ∧ (Kd.R (Kd.int .i64) 3 w' w.heap.size (fun k_ => some k_ ≠ (s_.1 : Value).ownBlock ∧ some k_ ≠ (s_.2.1 : Value).ownBlock ∧ some k_ ≠ (s_.2.2 : Value).ownBlock) (.slice Ao29 x9_1.length co29) x9_1) ∧ (Below w.heap.size w w')) ?_ ?_
           rotate_left
           ·intro hCont
            refine two_ (i := 2) (j := 9) (Ni := some 63) (Nj := some 70) #[true, true, true, false, true, true, true, true, true, false, false, false, false] #[true, true, false, false, true, true, true, true, true, true, false, false, false] rfl rfl rfl rfl (two_of HT_.out (by kernel_rfl)) (by decide) (by decide) (fun K hK => ?_) (fun K hK => ?_)
            ·skip
             refine Kd.R_lit_step (Kd.int .i64) _ 3 ?hg (N := 63) ?hd (xs := ([wrap64 ((rd l1 x16_1) - (rd l2 x16_1))] : List Int)) (inner := [.int .i64 (wrap64 ((rd l1 x16_1) - (rd l2 x16_1)))]) (ok := fun _ => True) (okp := fun _ => True) ?hr ?hp (fun _ hk => hk) trivial (Below.refl _ _) (Nat.le_refl _) (by simp) ?_; (case hd => rfl); (case hg => rfl); (case hr => first | (go_simp; done) | (go_simp; rfl)); (case hp => exact (Reps.one (show Kd.M (Kd.int .i64) _ _ _ (wrap64 ((rd l1 x16_1) - (rd l2 x16_1))) [.int .i64 (wrap64 ((rd l1 x16_1) - (rd l2 x16_1)))] from rfl) (Reps.none _ _)))
             intro v196 w31 ho32 hb hg_ hnew_
             clear hg_ hnew_
             (first | rw [← Ny195.out] at ho32 | (simp only [Int.reduceToNat] at ho32; rw [← Ny195.out] at ho32))
             have n0_ := Aside0.mk (Kd.R_elder' (by (with_reducible repeat (first | apply Kd.R_alloc | apply Kd.R_drewN | apply Kd.R_drew)); exact HO_8.out) (Kd.R_base ho32) hb)
             have n1_ := Aside0.mk (Kd.R_elder' (by (with_reducible repeat (first | apply Kd.R_alloc | apply Kd.R_drewN | apply Kd.R_drew)); exact HO_9.out) (Kd.R_base ho32) hb)
             have n2_ := Aside0.mk (Kd.R_lower (Kd.R_new' (Kd.R_new' ho32 (Kd.R_lt (by (with_reducible repeat (first | apply Kd.R_alloc | apply Kd.R_drewN | apply Kd.R_drew)); exact HO_8.out))) (Kd.R_lt (by (with_reducible repeat (first | apply Kd.R_alloc | apply Kd.R_drewN | apply Kd.R_drew)); exact HO_9.out))) (below_size (by repeat (first | (with_reducible first | exact HB.out | apply below_alloc | apply pw_below_drewN | apply below_drew1) | exact HB.out))))
             have n3_ := Aside0.mk (below_step (by repeat (first | (with_reducible first | exact HB.out | apply below_alloc | apply pw_below_drewN | apply below_drew1) | exact HB.out)) hb)
             clear HO_8
             clear HO_9
             clear HB
             have HO_8 := n0_
             have HO_9 := n1_
             have HO197 := n2_
             have HB := n3_
             clear n0_ n1_ n2_ n3_
             clear hb ho32
             obtain ⟨Ao34, co34, eo34⟩ := Kd.R_slice HO197.out
             (first | subst eo34 | (injection eo34 with f1_ f2_ f3_; have f4_ := f1_.symm; have f5_ := f3_.symm; clear f1_ f2_ f3_; subst f4_; subst f5_))
             refine hK.out _ _ (((HB.out.cell (World.block_lt_of_cell? w _ hw201_0)).trans hw201_0)) (fun hHeld => ?_)
             clear hK K
             refine norm_ (a' := ?_) ?_ ?_
             rotate_left
             ·show Act.put _ (some 63) _ = _
              simp only [Act.put, List.setIfInBounds_toArray, List.set_cons_zero, List.set_cons_succ, i64_w, i32_w]
              rfl
             refine two_ (i := 3) (j := 9) (Ni := some 64) (Nj := some 70) #[true, true, true, true, true, true, true, true, true, false, false, false, false] #[true, true, true, false, true, true, true, true, true, true, false, false, false] rfl rfl rfl rfl (two_of HT_.out (by kernel_rfl)) (by decide) (by decide) (fun K hK => ?_) (fun K hK => ?_)
             ·skip
              refine Kd.R_append_rows_step (Kd.int .i64) (w0 := w) w.heap.size (by rfl) (.tmp 61) (.tmp 63) 44 3 (.int .i64 0) 8 rfl Tryz.underlying44 info3 rfl (by decide) (by omega) (.slice Ao28 x8_1.length co28) x8_1 y195 _ _ _ (fun k_ => some k_ ≠ (.slice Ao29 x9_1.length co29 : Value).ownBlock ∧ some k_ ≠ (.slice Ao34 y195.length co34 : Value).ownBlock) (fun _ => False) rfl rfl ?aO ?aR (fun _ _ h => h) (fun _ h => h.elim) ?aF ?aB ?aS ?aL ?_
              (case aR => repeat (first | exact (Kd.R_reads' HO197.out).2.2 | (with_reducible refine Kd.C_alloc ?_ _) | (with_reducible refine Kd.C_drewN ?_ _) | (with_reducible refine Kd.C_drew ?_)))
              (case aB => exact (by repeat (first | (with_reducible first | exact HB.out | apply below_alloc | apply pw_below_drewN | apply below_drew1) | exact HB.out)))
              (case aF => exact (fun k_ hk => ⟨Kd.fresh' (Kd.R_lt (by (with_reducible repeat (first | apply Kd.R_alloc | apply Kd.R_drewN | apply Kd.R_drew)); exact HO_9.out)) k_ hk, Kd.fresh' (Kd.R_lt (by (with_reducible repeat (first | apply Kd.R_alloc | apply Kd.R_drewN | apply Kd.R_drew)); exact HO197.out)) k_ hk⟩))
              (case aO => exact (by (with_reducible repeat (first | apply Kd.R_alloc | apply Kd.R_drewN | apply Kd.R_drew)); exact HO_8.out))
              (case aS => exact (below_size (by repeat (first | (with_reducible first | exact HB.out | apply below_alloc | apply pw_below_drewN | apply below_drew1) | exact HB.out))))
              (case aL => have := LMc25.out; omega)
              intro v199 w33 ho hb hg hat
              rw [← Ny198.out] at ho
              have n0_ := Aside0.mk (Kd.R_after (ok := (fun k_ => some k_ ≠ (.slice Ao34 y195.length co34 : Value).ownBlock)) (by (with_reducible repeat (first | apply Kd.R_alloc | apply Kd.R_drewN | apply Kd.R_drew)); exact Kd.R_mono HO_9.out (fun _ hk => ⟨hk.2, hk.1⟩)) hg hat)
              have n1_ := Aside0.mk (Kd.R_after (ok := (fun k_ => some k_ ≠ (.slice Ao29 x9_1.length co29 : Value).ownBlock)) (by (with_reducible repeat (first | apply Kd.R_alloc | apply Kd.R_drewN | apply Kd.R_drew)); exact Kd.R_mono HO197.out (fun _ hk => ⟨hk.2, hk.1.2⟩)) hg hat)
              have n2_ := Aside0.mk (hb)
              have n3_ := Aside0.mk (ho)
              clear HO_9
              clear HO197
              clear HB
              clear HO_8
              have HO_9 := n0_
              have HO197 := n1_
              have HB := n2_
              have HO200 := n3_
              clear n0_ n1_ n2_ n3_
              clear ho hb hg hat
              refine hK.out _ _ (((HB.out.cell (World.block_lt_of_cell? w _ hw201_0)).trans hw201_0)) (fun hHeld => ?_)
              clear hK K
              refine norm_ (a' := ?_) ?_ ?_
              rotate_left
              ·show Act.put _ (some 64) _ = _
               simp only [Act.put, List.setIfInBounds_toArray, List.set_cons_zero, List.set_cons_succ, i64_w, i32_w]
               rfl
              refine one_ (i := 9) (N := some 70) #[true, true, true, true, true, true, true, true, true, true, false, false, false] rfl rfl (one_of HT_.out (by kernel_rfl)) (by decide) (fun K hK => ?_)
              refine Kd.R_lit_step (Kd.int .i64) _ 3 ?hg (N := 70) ?hd (xs := ([rd l2 x16_1] : List Int)) (inner := [.int .i64 (rd l2 x16_1)]) (ok := fun _ => True) (okp := fun _ => True) ?hr ?hp (fun _ hk => hk) trivial (Below.refl _ _) (Nat.le_refl _) (by simp) ?_; (case hd => rfl); (case hg => rfl); (case hr => first | (go_simp; done) | (go_simp; rfl)); (case hp => exact (Reps.one (show Kd.M (Kd.int .i64) _ _ _ (rd l2 x16_1) [.int .i64 (rd l2 x16_1)] from rfl) (Reps.none _ _)))
              intro v203 w35 ho36 hb hg_ hnew_
              clear hg_ hnew_
              (first | rw [← Ny202.out] at ho36 | (simp only [Int.reduceToNat] at ho36; rw [← Ny202.out] at ho36))
              have n0_ := Aside0.mk (Kd.R_elder' (by (with_reducible repeat (first | apply Kd.R_alloc | apply Kd.R_drewN | apply Kd.R_drew)); exact HO_9.out) (Kd.R_base ho36) hb)
              have n1_ := Aside0.mk (Kd.R_elder' (by (with_reducible repeat (first | apply Kd.R_alloc | apply Kd.R_drewN | apply Kd.R_drew)); exact HO197.out) (Kd.R_base ho36) hb)
              have n2_ := Aside0.mk (Kd.R_elder' (by (with_reducible repeat (first | apply Kd.R_alloc | apply Kd.R_drewN | apply Kd.R_drew)); exact HO200.out) (Kd.R_base ho36) hb)
              have n3_ := Aside0.mk (Kd.R_lower (Kd.R_new' (Kd.R_new' (Kd.R_new' ho36 (Kd.R_lt (by (with_reducible repeat (first | apply Kd.R_alloc | apply Kd.R_drewN | apply Kd.R_drew)); exact HO_9.out))) (Kd.R_lt (by (with_reducible repeat (first | apply Kd.R_alloc | apply Kd.R_drewN | apply Kd.R_drew)); exact HO197.out))) (Kd.R_lt (by (with_reducible repeat (first | apply Kd.R_alloc | apply Kd.R_drewN | apply Kd.R_drew)); exact HO200.out))) (below_size (by repeat (first | (with_reducible first | exact HB.out | apply below_alloc | apply pw_below_drewN | apply below_drew1) | exact HB.out))))
              have n4_ := Aside0.mk (below_step (by repeat (first | (with_reducible first | exact HB.out | apply below_alloc | apply pw_below_drewN | apply below_drew1) | exact HB.out)) hb)
              clear HO_9
              clear HO197
              clear HO200
              clear HB
              have HO_9 := n0_
              have HO197 := n1_
              have HO200 := n2_
              have HO204 := n3_
              have HB := n4_
              clear n0_ n1_ n2_ n3_ n4_
              clear hb ho36
              refine hK.out _ _ (((HB.out.cell (World.block_lt_of_cell? w _ hw201_0)).trans hw201_0)) (fun hHeld => ?_)
              clear hK K
              refine norm_ (a' := ?_) ?_ ?_
              rotate_left
              ·show Act.put _ (some 70) _ = _
               simp only [Act.put, List.setIfInBounds_toArray, List.set_cons_zero, List.set_cons_succ, i64_w, i32_w]
               rfl
              exact norm_ (by simp only [putAll, Act.put, List.setIfInBounds_toArray, List.set_cons_zero, List.set_cons_succ]) (hCont (.slice Ao34 y195.length co34, v199, v203) _ ⟨hHeld, (by (with_reducible repeat (first | apply Kd.R_alloc | apply Kd.R_drewN | apply Kd.R_drew)); exact Kd.R_mono HO197.out (fun _ hk => ⟨hk.1.2, ⟨hk.2, hk.1.1⟩⟩)), (by (with_reducible repeat (first | apply Kd.R_alloc | apply Kd.R_drewN | apply Kd.R_drew)); exact Kd.R_mono HO200.out (fun _ hk => ⟨hk.1.2, ⟨hk.2, hk.1.1⟩⟩)), (by (with_reducible repeat (first | apply Kd.R_alloc | apply Kd.R_drewN | apply Kd.R_drew)); exact Kd.R_mono HO204.out (fun _ hk => ⟨hk.1.2, ⟨hk.2, hk.1.1.2⟩⟩)), (by (with_reducible repeat (first | apply Kd.R_alloc | apply Kd.R_drewN | apply Kd.R_drew)); exact Kd.R_mono HO_9.out (fun _ hk => ⟨hk.1.1, ⟨hk.1.2, hk.2⟩⟩)), (by repeat (first | (with_reducible first | exact HB.out | apply below_alloc | apply pw_below_drewN | apply below_drew1) | exact HB.out))⟩)
             ·skip
              refine Kd.R_lit_step (Kd.int .i64) _ 3 ?hg (N := 70) ?hd (xs := ([rd l2 x16_1] : List Int)) (inner := [.int .i64 (rd l2 x16_1)]) (ok := fun _ => True) (okp := fun _ => True) ?hr ?hp (fun _ hk => hk) trivial (Below.refl _ _) (Nat.le_refl _) (by simp) ?_; (case hd => rfl); (case hg => rfl); (case hr => first | (go_simp; done) | (go_simp; rfl)); (case hp => exact (Reps.one (show Kd.M (Kd.int .i64) _ _ _ (rd l2 x16_1) [.int .i64 (rd l2 x16_1)] from rfl) (Reps.none _ _)))
              intro v203 w33 ho34 hb hg_ hnew_
              clear hg_ hnew_
              (first | rw [← Ny202.out] at ho34 | (simp only [Int.reduceToNat] at ho34; rw [← Ny202.out] at ho34))
              have n0_ := Aside0.mk (Kd.R_elder' (by (with_reducible repeat (first | apply Kd.R_alloc | apply Kd.R_drewN | apply Kd.R_drew)); exact HO_8.out) (Kd.R_base ho34) hb)
              have n1_ := Aside0.mk (Kd.R_elder' (by (with_reducible repeat (first | apply Kd.R_alloc | apply Kd.R_drewN | apply Kd.R_drew)); exact HO_9.out) (Kd.R_base ho34) hb)
              have n2_ := Aside0.mk (Kd.R_elder' (by (with_reducible repeat (first | apply Kd.R_alloc | apply Kd.R_drewN | apply Kd.R_drew)); exact HO197.out) (Kd.R_base ho34) hb)
              have n3_ := Aside0.mk (Kd.R_lower (Kd.R_new' (Kd.R_new' (Kd.R_new' ho34 (Kd.R_lt (by (with_reducible repeat (first | apply Kd.R_alloc | apply Kd.R_drewN | apply Kd.R_drew)); exact HO_8.out))) (Kd.R_lt (by (with_reducible repeat (first | apply Kd.R_alloc | apply Kd.R_drewN | apply Kd.R_drew)); exact HO_9.out))) (Kd.R_lt (by (with_reducible repeat (first | apply Kd.R_alloc | apply Kd.R_drewN | apply Kd.R_drew)); exact HO197.out))) (below_size (by repeat (first | (with_reducible first | exact HB.out | apply below_alloc | apply pw_below_drewN | apply below_drew1) | exact HB.out))))
              have n4_ := Aside0.mk (below_step (by repeat (first | (with_reducible first | exact HB.out | apply below_alloc | apply pw_below_drewN | apply below_drew1) | exact HB.out)) hb)
              clear HO_8
              clear HO_9
              clear HO197
              clear HB
              have HO_8 := n0_
              have HO_9 := n1_
              have HO197 := n2_
              have HO204 := n3_
              have HB := n4_
              clear n0_ n1_ n2_ n3_ n4_
              clear hb ho34
              obtain ⟨Ao36, co36, eo36⟩ := Kd.R_slice HO197.out
              (first | subst eo36 | (injection eo36 with f1_ f2_ f3_; have f4_ := f1_.symm; have f5_ := f3_.symm; clear f1_ f2_ f3_; subst f4_; subst f5_))
              refine hK.out _ _ (((HB.out.cell (World.block_lt_of_cell? w _ hw201_0)).trans hw201_0)) (fun hHeld => ?_)
              clear hK K
              refine norm_ (a' := ?_) ?_ ?_
              rotate_left
              ·show Act.put _ (some 70) _ = _
               simp only [Act.put, List.setIfInBounds_toArray, List.set_cons_zero, List.set_cons_succ, i64_w, i32_w]
               rfl
              refine one_ (i := 3) (N := some 64) #[true, true, true, true, true, true, true, true, true, true, false, false, false] rfl rfl (one_of HT_.out (by kernel_rfl)) (by decide) (fun K hK => ?_)
              refine Kd.R_append_rows_step (Kd.int .i64) (w0 := w) w.heap.size (by rfl) (.tmp 61) (.tmp 63) 44 3 (.int .i64 0) 8 rfl Tryz.underlying44 info3 rfl (by decide) (by omega) (.slice Ao28 x8_1.length co28) x8_1 y195 _ _ _ (fun k_ => some k_ ≠ (.slice Ao29 x9_1.length co29 : Value).ownBlock ∧ some k_ ≠ (.slice Ao36 y195.length co36 : Value).ownBlock ∧ some k_ ≠ (v203 : Value).ownBlock) (fun _ => False) rfl rfl ?aO ?aR (fun _ _ h => h) (fun _ h => h.elim) ?aF ?aB ?aS ?aL ?_
              (case aR => repeat (first | exact (Kd.R_reads' HO197.out).2.2 | (with_reducible refine Kd.C_alloc ?_ _) | (with_reducible refine Kd.C_drewN ?_ _) | (with_reducible refine Kd.C_drew ?_)))
              (case aB => exact (by repeat (first | (with_reducible first | exact HB.out | apply below_alloc | apply pw_below_drewN | apply below_drew1) | exact HB.out)))
              (case aF => exact (fun k_ hk => ⟨Kd.fresh' (Kd.R_lt (by (with_reducible repeat (first | apply Kd.R_alloc | apply Kd.R_drewN | apply Kd.R_drew)); exact HO_9.out)) k_ hk, Kd.fresh' (Kd.R_lt (by (with_reducible repeat (first | apply Kd.R_alloc | apply Kd.R_drewN | apply Kd.R_drew)); exact HO197.out)) k_ hk, Kd.fresh' (Kd.R_lt (by (with_reducible repeat (first | apply Kd.R_alloc | apply Kd.R_drewN | apply Kd.R_drew)); exact HO204.out)) k_ hk⟩))
              (case aO => exact (by (with_reducible repeat (first | apply Kd.R_alloc | apply Kd.R_drewN | apply Kd.R_drew)); exact Kd.R_mono HO_8.out (fun _ hk => ⟨hk.1.1, ⟨hk.1.2, hk.2⟩⟩)))
              (case aS => exact (below_size (by repeat (first | (with_reducible first | exact HB.out | apply below_alloc | apply pw_below_drewN | apply below_drew1) | exact HB.out))))
              (case aL => have := LMc25.out; omega)
              intro v199 w35 ho hb hg hat
              rw [← Ny198.out] at ho
              have n0_ := Aside0.mk (Kd.R_after (ok := (fun k_ => some k_ ≠ (.slice Ao36 y195.length co36 : Value).ownBlock ∧ some k_ ≠ (v203 : Value).ownBlock)) (by (with_reducible repeat (first | apply Kd.R_alloc | apply Kd.R_drewN | apply Kd.R_drew)); exact Kd.R_mono HO_9.out (fun _ hk => ⟨⟨hk.1.2, hk.2⟩, hk.1.1⟩)) hg hat)
              have n1_ := Aside0.mk (Kd.R_after (ok := (fun k_ => some k_ ≠ (.slice Ao29 x9_1.length co29 : Value).ownBlock ∧ some k_ ≠ (v203 : Value).ownBlock)) (by (with_reducible repeat (first | apply Kd.R_alloc | apply Kd.R_drewN | apply Kd.R_drew)); exact Kd.R_mono HO197.out (fun _ hk => ⟨⟨hk.1.2, hk.2⟩, hk.1.1.2⟩)) hg hat)
              have n2_ := Aside0.mk (Kd.R_after (ok := (fun k_ => some k_ ≠ (.slice Ao29 x9_1.length co29 : Value).ownBlock ∧ some k_ ≠ (.slice Ao36 y195.length co36 : Value).ownBlock)) (by (with_reducible repeat (first | apply Kd.R_alloc | apply Kd.R_drewN | apply Kd.R_drew)); exact Kd.R_mono HO204.out (fun _ hk => ⟨⟨hk.1.2, hk.2⟩, hk.1.1.2⟩)) hg hat)
              have n3_ := Aside0.mk (hb)
              have n4_ := Aside0.mk (ho)
              clear HO_9
              clear HO197
              clear HO204
              clear HB
              clear HO_8
              have HO_9 := n0_
              have HO197 := n1_
              have HO204 := n2_
              have HB := n3_
              have HO200 := n4_
              clear n0_ n1_ n2_ n3_ n4_
              clear ho hb hg hat
              refine hK.out _ _ (((HB.out.cell (World.block_lt_of_cell? w _ hw201_0)).trans hw201_0)) (fun hHeld => ?_)
              clear hK K
              refine norm_ (a' := ?_) ?_ ?_
              rotate_left
              ·show Act.put _ (some 64) _ = _
               simp only [Act.put, List.setIfInBounds_toArray, List.set_cons_zero, List.set_cons_succ, i64_w, i32_w]
               rfl
              exact norm_ (by simp only [putAll, Act.put, List.setIfInBounds_toArray, List.set_cons_zero, List.set_cons_succ]) (hCont (.slice Ao36 y195.length co36, v199, v203) _ ⟨hHeld, (by (with_reducible repeat (first | apply Kd.R_alloc | apply Kd.R_drewN | apply Kd.R_drew)); exact Kd.R_mono HO197.out (fun _ hk => ⟨hk.2, ⟨hk.1.2, hk.1.1⟩⟩)), (by (with_reducible repeat (first | apply Kd.R_alloc | apply Kd.R_drewN | apply Kd.R_drew)); exact Kd.R_mono HO200.out (fun _ hk => ⟨hk.2.1, ⟨hk.2.2, hk.1⟩⟩)), (by (with_reducible repeat (first | apply Kd.R_alloc | apply Kd.R_drewN | apply Kd.R_drew)); exact Kd.R_mono HO204.out (fun _ hk => ⟨hk.1.2, ⟨hk.2, hk.1.1⟩⟩)), (by (with_reducible repeat (first | apply Kd.R_alloc | apply Kd.R_drewN | apply Kd.R_drew)); exact Kd.R_mono HO_9.out (fun _ hk => ⟨hk.1.1, ⟨hk.2, hk.1.2⟩⟩)), (by repeat (first | (with_reducible first | exact HB.out | apply below_alloc | apply pw_below_drewN | apply below_drew1) | exact HB.out))⟩)
            ·skip
             refine Kd.R_lit_step (Kd.int .i64) _ 3 ?hg (N := 70) ?hd (xs := ([rd l2 x16_1] : List Int)) (inner := [.int .i64 (rd l2 x16_1)]) (ok := fun _ => True) (okp := fun _ => True) ?hr ?hp (fun _ hk => hk) trivial (Below.refl _ _) (Nat.le_refl _) (by simp) ?_; (case hd => rfl); (case hg => rfl); (case hr => first | (go_simp; done) | (go_simp; rfl)); (case hp => exact (Reps.one (show Kd.M (Kd.int .i64) _ _ _ (rd l2 x16_1) [.int .i64 (rd l2 x16_1)] from rfl) (Reps.none _ _)))
             intro v203 w31 ho32 hb hg_ hnew_
             clear hg_ hnew_
             (first | rw [← Ny202.out] at ho32 | (simp only [Int.reduceToNat] at ho32; rw [← Ny202.out] at ho32))
             have n0_ := Aside0.mk (Kd.R_elder' (by (with_reducible repeat (first | apply Kd.R_alloc | apply Kd.R_drewN | apply Kd.R_drew)); exact HO_8.out) (Kd.R_base ho32) hb)
             have n1_ := Aside0.mk (Kd.R_elder' (by (with_reducible repeat (first | apply Kd.R_alloc | apply Kd.R_drewN | apply Kd.R_drew)); exact HO_9.out) (Kd.R_base ho32) hb)
             have n2_ := Aside0.mk (Kd.R_lower (Kd.R_new' (Kd.R_new' ho32 (Kd.R_lt (by (with_reducible repeat (first | apply Kd.R_alloc | apply Kd.R_drewN | apply Kd.R_drew)); exact HO_8.out))) (Kd.R_lt (by (with_reducible repeat (first | apply Kd.R_alloc | apply Kd.R_drewN | apply Kd.R_drew)); exact HO_9.out))) (below_size (by repeat (first | (with_reducible first | exact HB.out | apply below_alloc | apply pw_below_drewN | apply below_drew1) | exact HB.out))))
             have n3_ := Aside0.mk (below_step (by repeat (first | (with_reducible first | exact HB.out | apply below_alloc | apply pw_below_drewN | apply below_drew1) | exact HB.out)) hb)
             clear HO_8
             clear HO_9
             clear HB
             have HO_8 := n0_
             have HO_9 := n1_
             have HO204 := n2_
             have HB := n3_
             clear n0_ n1_ n2_ n3_
             clear hb ho32
             refine hK.out _ _ (((HB.out.cell (World.block_lt_of_cell? w _ hw201_0)).trans hw201_0)) (fun hHeld => ?_)
             clear hK K
             refine norm_ (a' := ?_) ?_ ?_
             rotate_left
             ·show Act.put _ (some 70) _ = _
              simp only [Act.put, List.setIfInBounds_toArray, List.set_cons_zero, List.set_cons_succ, i64_w, i32_w]
              rfl
             refine one_ (i := 2) (N := some 63) #[true, true, true, false, true, true, true, true, true, true, false, false, false] rfl rfl (one_of HT_.out (by kernel_rfl)) (by decide) (fun K hK => ?_)
             refine Kd.R_lit_step (Kd.int .i64) _ 3 ?hg (N := 63) ?hd (xs := ([wrap64 ((rd l1 x16_1) - (rd l2 x16_1))] : List Int)) (inner := [.int .i64 (wrap64 ((rd l1 x16_1) - (rd l2 x16_1)))]) (ok := fun _ => True) (okp := fun _ => True) ?hr ?hp (fun _ hk => hk) trivial (Below.refl _ _) (Nat.le_refl _) (by simp) ?_; (case hd => rfl); (case hg => rfl); (case hr => first | (go_simp; done) | (go_simp; rfl)); (case hp => exact (Reps.one (show Kd.M (Kd.int .i64) _ _ _ (wrap64 ((rd l1 x16_1) - (rd l2 x16_1))) [.int .i64 (wrap64 ((rd l1 x16_1) - (rd l2 x16_1)))] from rfl) (Reps.none _ _)))
             intro v196 w33 ho34 hb hg_ hnew_
             clear hg_ hnew_
             (first | rw [← Ny195.out] at ho34 | (simp only [Int.reduceToNat] at ho34; rw [← Ny195.out] at ho34))
             have n0_ := Aside0.mk (Kd.R_elder' (by (with_reducible repeat (first | apply Kd.R_alloc | apply Kd.R_drewN | apply Kd.R_drew)); exact HO_8.out) (Kd.R_base ho34) hb)
             have n1_ := Aside0.mk (Kd.R_elder' (by (with_reducible repeat (first | apply Kd.R_alloc | apply Kd.R_drewN | apply Kd.R_drew)); exact HO_9.out) (Kd.R_base ho34) hb)
             have n2_ := Aside0.mk (Kd.R_elder' (by (with_reducible repeat (first | apply Kd.R_alloc | apply Kd.R_drewN | apply Kd.R_drew)); exact HO204.out) (Kd.R_base ho34) hb)
             have n3_ := Aside0.mk (Kd.R_lower (Kd.R_new' (Kd.R_new' (Kd.R_new' ho34 (Kd.R_lt (by (with_reducible repeat (first | apply Kd.R_alloc | apply Kd.R_drewN | apply Kd.R_drew)); exact HO_8.out))) (Kd.R_lt (by (with_reducible repeat (first | apply Kd.R_alloc | apply Kd.R_drewN | apply Kd.R_drew)); exact HO_9.out))) (Kd.R_lt (by (with_reducible repeat (first | apply Kd.R_alloc | apply Kd.R_drewN | apply Kd.R_drew)); exact HO204.out))) (below_size (by repeat (first | (with_reducible first | exact HB.out | apply below_alloc | apply pw_below_drewN | apply below_drew1) | exact HB.out))))
             have n4_ := Aside0.mk (below_step (by repeat (first | (with_reducible first | exact HB.out | apply below_alloc | apply pw_below_drewN | apply below_drew1) | exact HB.out)) hb)
             clear HO_8
             clear HO_9
             clear HO204
             clear HB
             have HO_8 := n0_
             have HO_9 := n1_
             have HO204 := n2_
             have HO197 := n3_
             have HB := n4_
             clear n0_ n1_ n2_ n3_ n4_
             clear hb ho34
             obtain ⟨Ao36, co36, eo36⟩ := Kd.R_slice HO197.out
             (first | subst eo36 | (injection eo36 with f1_ f2_ f3_; have f4_ := f1_.symm; have f5_ := f3_.symm; clear f1_ f2_ f3_; subst f4_; subst f5_))
             refine hK.out _ _ (((HB.out.cell (World.block_lt_of_cell? w _ hw201_0)).trans hw201_0)) (fun hHeld => ?_)
             clear hK K
             refine norm_ (a' := ?_) ?_ ?_
             rotate_left
             ·show Act.put _ (some 63) _ = _
              simp only [Act.put, List.setIfInBounds_toArray, List.set_cons_zero, List.set_cons_succ, i64_w, i32_w]
              rfl
             refine one_ (i := 3) (N := some 64) #[true, true, true, true, true, true, true, true, true, true, false, false, false] rfl rfl (one_of HT_.out (by kernel_rfl)) (by decide) (fun K hK => ?_)
             refine Kd.R_append_rows_step (Kd.int .i64) (w0 := w) w.heap.size (by rfl) (.tmp 61) (.tmp 63) 44 3 (.int .i64 0) 8 rfl Tryz.underlying44 info3 rfl (by decide) (by omega) (.slice Ao28 x8_1.length co28) x8_1 y195 _ _ _ (fun k_ => some k_ ≠ (.slice Ao29 x9_1.length co29 : Value).ownBlock ∧ some k_ ≠ (v203 : Value).ownBlock ∧ some k_ ≠ (.slice Ao36 y195.length co36 : Value).ownBlock) (fun _ => False) rfl rfl ?aO ?aR (fun _ _ h => h) (fun _ h => h.elim) ?aF ?aB ?aS ?aL ?_
             (case aR => repeat (first | exact (Kd.R_reads' HO197.out).2.2 | (with_reducible refine Kd.C_alloc ?_ _) | (with_reducible refine Kd.C_drewN ?_ _) | (with_reducible refine Kd.C_drew ?_)))
             (case aB => exact (by repeat (first | (with_reducible first | exact HB.out | apply below_alloc | apply pw_below_drewN | apply below_drew1) | exact HB.out)))
             (case aF => exact (fun k_ hk => ⟨Kd.fresh' (Kd.R_lt (by (with_reducible repeat (first | apply Kd.R_alloc | apply Kd.R_drewN | apply Kd.R_drew)); exact HO_9.out)) k_ hk, Kd.fresh' (Kd.R_lt (by (with_reducible repeat (first | apply Kd.R_alloc | apply Kd.R_drewN | apply Kd.R_drew)); exact HO204.out)) k_ hk, Kd.fresh' (Kd.R_lt (by (with_reducible repeat (first | apply Kd.R_alloc | apply Kd.R_drewN | apply Kd.R_drew)); exact HO197.out)) k_ hk⟩))
             (case aO => exact (by (with_reducible repeat (first | apply Kd.R_alloc | apply Kd.R_drewN | apply Kd.R_drew)); exact Kd.R_mono HO_8.out (fun _ hk => ⟨hk.1.1, ⟨hk.1.2, hk.2⟩⟩)))
             (case aS => exact (below_size (by repeat (first | (with_reducible first | exact HB.out | apply below_alloc | apply pw_below_drewN | apply below_drew1) | exact HB.out))))
             (case aL => have := LMc25.out; omega)
             intro v199 w35 ho hb hg hat
             rw [← Ny198.out] at ho
             have n0_ := Aside0.mk (Kd.R_after (ok := (fun k_ => some k_ ≠ (v203 : Value).ownBlock ∧ some k_ ≠ (.slice Ao36 y195.length co36 : Value).ownBlock)) (by (with_reducible repeat (first | apply Kd.R_alloc | apply Kd.R_drewN | apply Kd.R_drew)); exact Kd.R_mono HO_9.out (fun _ hk => ⟨⟨hk.1.2, hk.2⟩, hk.1.1⟩)) hg hat)
             have n1_ := Aside0.mk (Kd.R_after (ok := (fun k_ => some k_ ≠ (.slice Ao29 x9_1.length co29 : Value).ownBlock ∧ some k_ ≠ (.slice Ao36 y195.length co36 : Value).ownBlock)) (by (with_reducible repeat (first | apply Kd.R_alloc | apply Kd.R_drewN | apply Kd.R_drew)); exact Kd.R_mono HO204.out (fun _ hk => ⟨⟨hk.1.2, hk.2⟩, hk.1.1.2⟩)) hg hat)
             have n2_ := Aside0.mk (Kd.R_after (ok := (fun k_ => some k_ ≠ (.slice Ao29 x9_1.length co29 : Value).ownBlock ∧ some k_ ≠ (v203 : Value).ownBlock)) (by (with_reducible repeat (first | apply Kd.R_alloc | apply Kd.R_drewN | apply Kd.R_drew)); exact Kd.R_mono HO197.out (fun _ hk => ⟨⟨hk.1.2, hk.2⟩, hk.1.1.2⟩)) hg hat)
             have n3_ := Aside0.mk (hb)
             have n4_ := Aside0.mk (ho)
             clear HO_9
             clear HO204
             clear HO197
             clear HB
             clear HO_8
             have HO_9 := n0_
             have HO204 := n1_
             have HO197 := n2_
             have HB := n3_
             have HO200 := n4_
             clear n0_ n1_ n2_ n3_ n4_
             clear ho hb hg hat
             refine hK.out _ _ (((HB.out.cell (World.block_lt_of_cell? w _ hw201_0)).trans hw201_0)) (fun hHeld => ?_)
             clear hK K
             refine norm_ (a' := ?_) ?_ ?_
             rotate_left
             ·show Act.put _ (some 64) _ = _
              simp only [Act.put, List.setIfInBounds_toArray, List.set_cons_zero, List.set_cons_succ, i64_w, i32_w]
              rfl
             exact norm_ (by simp only [putAll, Act.put, List.setIfInBounds_toArray, List.set_cons_zero, List.set_cons_succ]) (hCont (.slice Ao36 y195.length co36, v199, v203) _ ⟨hHeld, (by (with_reducible repeat (first | apply Kd.R_alloc | apply Kd.R_drewN | apply Kd.R_drew)); exact Kd.R_mono HO197.out (fun _ hk => ⟨hk.2, ⟨hk.1.2, hk.1.1⟩⟩)), (by (with_reducible repeat (first | apply Kd.R_alloc | apply Kd.R_drewN | apply Kd.R_drew)); exact Kd.R_mono HO200.out (fun _ hk => ⟨hk.2.2, ⟨hk.2.1, hk.1⟩⟩)), (by (with_reducible repeat (first | apply Kd.R_alloc | apply Kd.R_drewN | apply Kd.R_drew)); exact Kd.R_mono HO204.out (fun _ hk => ⟨hk.1.2, ⟨hk.2, hk.1.1⟩⟩)), (by (with_reducible repeat (first | apply Kd.R_alloc | apply Kd.R_drewN | apply Kd.R_drew)); exact Kd.R_mono HO_9.out (fun _ hk => ⟨hk.1.2, ⟨hk.2, hk.1.1⟩⟩)), (by repeat (first | (with_reducible first | exact HB.out | apply below_alloc | apply pw_below_drewN | apply below_drew1) | exact HB.out))⟩)
           rintro ⟨v196, v199, v203⟩ w37 ⟨hS_, h0_, h1_, h2_, h3_, h4_⟩
           have n0_ : Aside0 (Kd.R (Kd.int .i64) 3 w37 w.heap.size (fun k_ => some k_ ≠ (v199 : Value).ownBlock ∧ some k_ ≠ (v203 : Value).ownBlock ∧ some k_ ≠ (.slice Ao29 x9_1.length co29 : Value).ownBlock) v196 y195) := ⟨h0_⟩
           have n1_ : Aside0 (Kd.R (Kd.int .i64) 3 w37 w.heap.size (fun k_ => some k_ ≠ (v196 : Value).ownBlock ∧ some k_ ≠ (v203 : Value).ownBlock ∧ some k_ ≠ (.slice Ao29 x9_1.length co29 : Value).ownBlock) v199 y198) := ⟨h1_⟩
           have n2_ : Aside0 (Kd.R (Kd.int .i64) 3 w37 w.heap.size (fun k_ => some k_ ≠ (v196 : Value).ownBlock ∧ some k_ ≠ (v199 : Value).ownBlock ∧ some k_ ≠ (.slice Ao29 x9_1.length co29 : Value).ownBlock) v203 y202) := ⟨h2_⟩
           have n3_ : Aside0 (Kd.R (Kd.int .i64) 3 w37 w.heap.size (fun k_ => some k_ ≠ (v196 : Value).ownBlock ∧ some k_ ≠ (v199 : Value).ownBlock ∧ some k_ ≠ (v203 : Value).ownBlock) (.slice Ao29 x9_1.length co29) x9_1) := ⟨h3_⟩
           have n4_ : Aside0 (Below w.heap.size w w37) := ⟨h4_⟩
           clear HO_8
           clear HO_9
           clear HB
           clear h0_ h1_ h2_ h3_ h4_
           have HO197 := n0_
           have HO200 := n1_
           have HO204 := n2_
           have HO_9 := n3_
           have HB := n4_
           clear n0_ n1_ n2_ n3_ n4_
           have hHeld : w37.cell? (ad181.add (x16_1).toNat) = some (.int .i64 (rd l2 x16_1)) := hS_
           obtain ⟨Ao39, co39, eo39⟩ := Kd.R_slice HO204.out
           (first | subst eo39 | (injection eo39 with f1_ f2_ f3_; have f4_ := f1_.symm; have f5_ := f3_.symm; clear f1_ f2_ f3_; subst f4_; subst f5_))
           refine norm_ (a' := ?_) ?_ ?_
           rotate_left
           ·simp only [putAll, Act.put, List.setIfInBounds_toArray, List.set_cons_zero, List.set_cons_succ]
            rfl
           refine one_ (i := 10) (N := some 71) #[true, true, true, true, true, true, true, true, true, true, true, false, false] rfl rfl (one_of HT_.out (by kernel_rfl)) (by decide) (fun K hK => ?_)
           refine Kd.R_append_rows_step (Kd.int .i64) (w0 := w) w.heap.size (by rfl) (.tmp 65) (.tmp 70) 44 3 (.int .i64 0) 8 rfl Tryz.underlying44 info3 rfl (by decide) (by omega) (.slice Ao29 x9_1.length co29) x9_1 y202 _ _ _ (fun k_ => some k_ ≠ (v196 : Value).ownBlock ∧ some k_ ≠ (v199 : Value).ownBlock ∧ some k_ ≠ (.slice Ao39 y202.length co39 : Value).ownBlock) (fun _ => False) rfl rfl ?aO ?aR (fun _ _ h => h) (fun _ h => h.elim) ?aF ?aB ?aS ?aL ?_
           (case aR => repeat (first | exact (Kd.R_reads' HO204.out).2.2 | (with_reducible refine Kd.C_alloc ?_ _) | (with_reducible refine Kd.C_drewN ?_ _) | (with_reducible refine Kd.C_drew ?_)))
           (case aB => exact (by repeat (first | (with_reducible first | exact HB.out | apply below_alloc | apply pw_below_drewN | apply below_drew1) | exact HB.out)))
           (case aF => exact (fun k_ hk => ⟨Kd.fresh' (Kd.R_lt (by (with_reducible repeat (first | apply Kd.R_alloc | apply Kd.R_drewN | apply Kd.R_drew)); exact HO197.out)) k_ hk, Kd.fresh' (Kd.R_lt (by (with_reducible repeat (first | apply Kd.R_alloc | apply Kd.R_drewN | apply Kd.R_drew)); exact HO200.out)) k_ hk, Kd.fresh' (Kd.R_lt (by (with_reducible repeat (first | apply Kd.R_alloc | apply Kd.R_drewN | apply Kd.R_drew)); exact HO204.out)) k_ hk⟩))
           (case aO => exact (by (with_reducible repeat (first | apply Kd.R_alloc | apply Kd.R_drewN | apply Kd.R_drew)); exact HO_9.out))
           (case aS => exact (below_size (by repeat (first | (with_reducible first | exact HB.out | apply below_alloc | apply pw_below_drewN | apply below_drew1) | exact HB.out))))
           (case aL => have := LMc26.out; omega)
           intro v206 w38 ho hb hg hat
           rw [← Ny205.out] at ho
           have n0_ := Aside0.mk (Kd.R_after (ok := (fun k_ => some k_ ≠ (v199 : Value).ownBlock ∧ some k_ ≠ (.slice Ao39 y202.length co39 : Value).ownBlock)) (by (with_reducible repeat (first | apply Kd.R_alloc | apply Kd.R_drewN | apply Kd.R_drew)); exact Kd.R_mono HO197.out (fun _ hk => ⟨⟨hk.1, hk.2.1⟩, hk.2.2⟩)) hg hat)
           have n1_ := Aside0.mk (Kd.R_after (ok := (fun k_ => some k_ ≠ (v196 : Value).ownBlock ∧ some k_ ≠ (.slice Ao39 y202.length co39 : Value).ownBlock)) (by (with_reducible repeat (first | apply Kd.R_alloc | apply Kd.R_drewN | apply Kd.R_drew)); exact Kd.R_mono HO200.out (fun _ hk => ⟨⟨hk.1, hk.2.1⟩, hk.2.2⟩)) hg hat)
           have n2_ := Aside0.mk (Kd.R_after (ok := (fun k_ => some k_ ≠ (v196 : Value).ownBlock ∧ some k_ ≠ (v199 : Value).ownBlock)) (by (with_reducible repeat (first | apply Kd.R_alloc | apply Kd.R_drewN | apply Kd.R_drew)); exact Kd.R_mono HO204.out (fun _ hk => ⟨⟨hk.1, hk.2.1⟩, hk.2.2⟩)) hg hat)
           have n3_ := Aside0.mk (hb)
           have n4_ := Aside0.mk (ho)
           clear HO197
           clear HO200
           clear HO204
           clear HB
           clear HO_9
           have HO197 := n0_
           have HO200 := n1_
           have HO204 := n2_
           have HB := n3_
           have HO207 := n4_
           clear n0_ n1_ n2_ n3_ n4_
           clear ho hb hg hat
           refine hK.out _ _ (((HB.out.cell (World.block_lt_of_cell? w _ hw201_0)).trans hw201_0)) (fun hHeld => ?_)
           clear hK K
           refine norm_ (a' := ?_) ?_ ?_
           rotate_left
           ·show Act.put _ (some 71) _ = _
            simp only [Act.put, List.setIfInBounds_toArray, List.set_cons_zero, List.set_cons_succ, i64_w, i32_w]
            rfl
           refine pure_ (i := 11) (N := some 8) (v := ?_) (a' := ?_) #[true, true, true, true, true, true, true, true, true, true, true, true, false] rfl rfl (any_of HT_.out (by kernel_rfl)) (fun _ _ _ h => h) (Or.inl ⟨by rfl, ?_⟩) ?_ ?_
           rotate_left
           ·intro w'
            go_simp
            with_reducible rfl
           rotate_left
           ·simp only [Act.put, List.setIfInBounds_toArray, List.set_cons_zero, List.set_cons_succ, i64_w, i32_w]
            rfl
           refine pure_ (i := 12) (N := some 9) (v := ?_) (a' := ?_) #[true, true, true, true, true, true, true, true, true, true, true, true, true] rfl rfl (any_of HT_.out (by kernel_rfl)) (fun _ _ _ h => h) (Or.inl ⟨by rfl, ?_⟩) ?_ ?_
           rotate_left
           ·intro w'
            go_simp
            with_reducible rfl
           rotate_left
           ·simp only [Act.put, List.setIfInBounds_toArray, List.set_cons_zero, List.set_cons_succ, i64_w, i32_w]
            rfl
           refine done_ (done_of HT_.out (by kernel_rfl)) ?_
           try go_wp2
           go_roundg k1
           case measure => have := HK1.out; omega
           case rel => exact ⟨(y198), (y205), (wrap64 (x16_1 + 1)), (by first | rfl | (simp; done) | (simp [*]; done)), H', ⟨by have := HK1.out; omega⟩, ⟨by (with_reducible repeat (first | apply Kd.R_alloc | apply Kd.R_drewN | apply Kd.R_drew)); exact Kd.R_mono HO200.out (fun _ hk => hk.2)⟩, ⟨by (with_reducible repeat (first | apply Kd.R_alloc | apply Kd.R_drewN | apply Kd.R_drew)); exact Kd.R_mono HO207.out (fun _ hk => hk.2.1)⟩, ⟨by repeat (first | (with_reducible first | exact HB.out | apply below_alloc | apply pw_below_drewN | apply below_drew1) | exact HB.out)⟩⟩
          ·rw [if_neg c26] at H
           exact absurd H (by simp)
         ·rw [if_neg c25] at H
          exact absurd H (by simp)
        ·rw [if_neg c24] at H
         have c24b0 : (a0 == 9) = false := beq_eq_false_iff_ne.mpr c24
         have c24b1 : (a0 != 9) = true := bne_iff_ne.mpr c24
         obtain ⟨y210, hy210⟩ : ∃ y_ : List Int, y_ = (([(wrap64 ((rd l1 x16_1) + (rd l2 x16_1))) / 2] : List Int)) := ⟨_, rfl⟩
         replace H : (if x8_1.length + y210.length < 17592186044416 then ((some (([wrap64 ((rd l1 x16_1) - (rd l2 x16_1))] : List Int) : List Int)).bind fun y216 => (if x9_1.length + y216.length < 17592186044416 then (spec_Apart.l0 k1 a0 l1 l2 (x8_1 ++ y210) (x9_1 ++ y216) (l1.length : Int) (wrap64 (x16_1 + 1))) else (none))) else (none)) = some (r1, r2) := by first | (rw [hy210]; with_reducible exact H) | (have H2_ := (Option.bind_some _ _).symm.trans H; rw [hy210]; with_reducible exact H2_) | (have H2_ := (Option.bind_some _ _).symm.trans H; with_reducible exact H2_) | with_reducible exact H | (rw [hy210]; exact H) | exact H
         have Ny210 := Aside0.mk hy210
         clear hy210
         by_cases c40 : x8_1.length + y210.length < 17592186044416
         ·rw [if_pos c40] at H
          have LMc40 := Aside0.mk c40
          clear c40
          obtain ⟨y213, hy213⟩ : ∃ y_ : List Int, y_ = (x8_1 ++ y210) := ⟨_, rfl⟩
          replace H : ((some (([wrap64 ((rd l1 x16_1) - (rd l2 x16_1))] : List Int) : List Int)).bind fun y216 => (if x9_1.length + y216.length < 17592186044416 then (spec_Apart.l0 k1 a0 l1 l2 y213 (x9_1 ++ y216) (l1.length : Int) (wrap64 (x16_1 + 1))) else (none))) = some (r1, r2) := by first | (rw [hy213]; with_reducible exact H) | (have H2_ := (Option.bind_some _ _).symm.trans H; rw [hy213]; with_reducible exact H2_) | (have H2_ := (Option.bind_some _ _).symm.trans H; with_reducible exact H2_) | with_reducible exact H | (rw [hy213]; exact H) | exact H
          have Ny213 := Aside0.mk hy213
          clear hy213
          obtain ⟨y216, hy216⟩ : ∃ y_ : List Int, y_ = (([wrap64 ((rd l1 x16_1) - (rd l2 x16_1))] : List Int)) := ⟨_, rfl⟩
          replace H : (if x9_1.length + y216.length < 17592186044416 then (spec_Apart.l0 k1 a0 l1 l2 y213 (x9_1 ++ y216) (l1.length : Int) (wrap64 (x16_1 + 1))) else (none)) = some (r1, r2) := by first | (rw [hy216]; with_reducible exact H) | (have H2_ := (Option.bind_some _ _).symm.trans H; rw [hy216]; with_reducible exact H2_) | (have H2_ := (Option.bind_some _ _).symm.trans H; with_reducible exact H2_) | with_reducible exact H | (rw [hy216]; exact H) | exact H
          have Ny216 := Aside0.mk hy216
          clear hy216
          by_cases c41 : x9_1.length + y216.length < 17592186044416
          ·rw [if_pos c41] at H
           have LMc41 := Aside0.mk c41
           clear c41
           obtain ⟨y219, hy219⟩ : ∃ y_ : List Int, y_ = (x9_1 ++ y216) := ⟨_, rfl⟩
           replace H : (spec_Apart.l0 k1 a0 l1 l2 y213 y219 (l1.length : Int) (wrap64 (x16_1 + 1))) = some (r1, r2) := by first | (rw [hy219]; with_reducible exact H) | (have H2_ := (Option.bind_some _ _).symm.trans H; rw [hy219]; with_reducible exact H2_) | (have H2_ := (Option.bind_some _ _).symm.trans H; with_reducible exact H2_) | with_reducible exact H | (rw [hy219]; exact H) | exact H
           have Ny219 := Aside0.mk hy219
           clear hy219
           have H' := Aside0.mk H
           clear H
           try go_wp2
           have n0_ := Aside0.mk (Kd.R_drew HO_8.out)
           have n1_ := Aside0.mk (Kd.R_drew HO_9.out)
           have n2_ := Aside0.mk (below_drew1 HB.out)
           clear HO_8
           clear HO_9
           clear HB
           have HO_8 := n0_
           have HO_9 := n1_
           have HB := n2_
           clear n0_ n1_ n2_
           have p180 : 0 ≤ (x16_1 : Int) := of_decide_eq_true (by first | (with_reducible assumption) | assumption)
           have q180 : x16_1 < (l1.length : Int) := of_decide_eq_true (by first | (with_reducible assumption) | assumption)
           obtain ⟨ad180, e180, hx180_0⟩ := Kd.at_int HR1.out x16_1 p180 q180
           have hw180_0 := hx180_0
           cases e180
           replace hx180_0 := (HB.out.cell (World.block_lt_of_cell? w _ hx180_0)).trans hx180_0
           replace p180 := eq_true p180
           replace q180 := eq_true q180
           have p181 : 0 ≤ (x16_1 : Int) := of_decide_eq_true (by first | (with_reducible assumption) | assumption)
           have q181 : x16_1 < (l2.length : Int) := of_decide_eq_true (by first | (with_reducible assumption) | assumption)
           obtain ⟨ad181, e181, hx181_0⟩ := Kd.at_int HR2.out x16_1 p181 q181
           have hw181_0 := hx181_0
           cases e181
           replace hx181_0 := (HB.out.cell (World.block_lt_of_cell? w _ hx181_0)).trans hx181_0
           replace p181 := eq_true p181
           replace q181 := eq_true q181
           refine start_ (n := 10) (S := fun w' => w'.cell? (ad180.add (x16_1).toNat) = some (.int .i64 (rd l1 x16_1)) ∧ w'.cell? (ad181.add (x16_1).toNat) = some (.int .i64 (rd l2 x16_1))) (ds := []) #[false, false, false, false, false, false, false, false, false, false] (by kernel_rfl) rfl rfl ⟨((HB.out.cell (World.block_lt_of_cell? w _ hw180_0)).trans hw180_0), ((HB.out.cell (World.block_lt_of_cell? w _ hw181_0)).trans hw181_0)⟩ (fun hHeld => ?_); refine with_tabW spec_Apart.tab5 spec_Apart.bits5 (fun HT_ HW_ => ?_)
           generalize wr.drew = w42 at HO_8 HO_9 HB hx180_0 hx181_0 hHeld ⊢
           refine pure_ (i := 0) (N := some 19) (v := ?_) (a' := ?_) #[true, false, false, false, false, false, false, false, false, false] rfl rfl (any_of HT_.out (by kernel_rfl)) (fun _ _ _ h => h) (Or.inl ⟨by rfl, ?_⟩) ?_ ?_
           rotate_left
           ·intro w'
            go_simp
            with_reducible rfl
           rotate_left
           ·simp only [Act.put, List.setIfInBounds_toArray, List.set_cons_zero, List.set_cons_succ, i64_w, i32_w]
            rfl
           refine pure_ (i := 1) (N := some 20) (v := ?_) (a' := ?_) #[true, true, false, false, false, false, false, false, false, false] rfl rfl (any_of HT_.out (by kernel_rfl)) (fun _ _ _ h => h) (Or.inl ⟨by rfl, ?_⟩) ?_ ?_
           rotate_left
           ·intro w'
            go_simp
            with_reducible rfl
           rotate_left
           ·simp only [Act.put, List.setIfInBounds_toArray, List.set_cons_zero, List.set_cons_succ, i64_w, i32_w]
            rfl
           refine pure_ (i := 2) (N := some 21) (v := ?_) (a' := ?_) #[true, true, true, false, false, false, false, false, false, false] rfl rfl (any_of HT_.out (by kernel_rfl)) (fun _ _ _ h => h) (Or.inl ⟨by rfl, ?_⟩) ?_ ?_
           rotate_left
           ·intro w'
            go_simp
            with_reducible rfl
           rotate_left
           ·simp only [Act.put, List.setIfInBounds_toArray, List.set_cons_zero, List.set_cons_succ, i64_w, i32_w]
            rfl
           refine pure_ (i := 4) (N := some 23) (v := ?_) (a' := ?_) #[true, true, true, false, true, false, false, false, false, false] rfl rfl (any_of HT_.out (by kernel_rfl)) (fun _ _ _ h => h) (Or.inl ⟨by rfl, ?_⟩) ?_ ?_
           rotate_left
           ·intro w'
            go_simp
            with_reducible rfl
           rotate_left
           ·simp only [Act.put, List.setIfInBounds_toArray, List.set_cons_zero, List.set_cons_succ, i64_w, i32_w]
            rfl
           refine pure_ (i := 5) (N := some 24) (v := ?_) (a' := ?_) #[true, true, true, false, true, true, false, false, false, false] rfl rfl (any_of HT_.out (by kernel_rfl)) (fun _ _ _ h => h) (Or.inl ⟨by rfl, ?_⟩) ?_ ?_
           rotate_left
           ·intro w'
            go_simp
            with_reducible rfl
           rotate_left
           ·simp only [Act.put, List.setIfInBounds_toArray, List.set_cons_zero, List.set_cons_succ, i64_w, i32_w]
            rfl
           refine pure_ (i := 6) (N := some 25) (v := ?_) (a' := ?_) #[true, true, true, false, true, true, true, false, false, false] rfl rfl (any_of HT_.out (by kernel_rfl)) (fun _ _ _ h => h) (Or.inl ⟨by rfl, ?_⟩) ?_ ?_
           rotate_left
           ·intro w'
            go_simp
            with_reducible rfl
           rotate_left
           ·simp only [Act.put, List.setIfInBounds_toArray, List.set_cons_zero, List.set_cons_succ, i64_w, i32_w]
            rfl
           refine take_ (i := 3) (N := some 22) (v := ?_) (a' := ?_) #[true, true, true, true, true, true, true, false, false, false] rfl rfl (take_ofW HT_.out HW_.out (by kernel_rfl)) (fun _ _ _ h => h) (Or.inl ⟨by rfl, ?_⟩) hHeld ?_ ?_
           rotate_left
           ·rintro w' ⟨s0, s1⟩
            go_simp
            with_reducible rfl
           rotate_left
           ·simp only [Act.put, List.setIfInBounds_toArray, List.set_cons_zero, List.set_cons_succ, i64_w, i32_w]
            rfl
           refine take_ (i := 7) (N := some 26) (v := ?_) (a' := ?_) #[true, true, true, true, true, true, true, true, false, false] rfl rfl (take_ofW HT_.out HW_.out (by kernel_rfl)) (fun _ _ _ h => h) (Or.inl ⟨by rfl, ?_⟩) hHeld ?_ ?_
           rotate_left
           ·rintro w' ⟨s0, s1⟩
            go_simp
            with_reducible rfl
           rotate_left
           ·simp only [Act.put, List.setIfInBounds_toArray, List.set_cons_zero, List.set_cons_succ, i64_w, i32_w]
            rfl
           refine pure_ (i := 8) (N := some 27) (v := ?_) (a' := ?_) #[true, true, true, true, true, true, true, true, true, false] rfl rfl (any_of HT_.out (by kernel_rfl)) (fun _ _ _ h => h) (Or.inl ⟨by rfl, ?_⟩) ?_ ?_
           rotate_left
           ·intro w'
            go_simp
            with_reducible rfl
           rotate_left
           ·simp only [Act.put, List.setIfInBounds_toArray, List.set_cons_zero, List.set_cons_succ, i64_w, i32_w]
            rfl
           refine pure_ (i := 9) (N := some 11) (v := ?_) (a' := ?_) #[true, true, true, true, true, true, true, true, true, true] rfl rfl (any_of HT_.out (by kernel_rfl)) (fun _ _ _ h => h) (Or.inl ⟨by rfl, ?_⟩) ?_ ?_
           rotate_left
           ·intro w'
            go_simp
            with_reducible rfl
           rotate_left
           ·simp only [Act.put, List.setIfInBounds_toArray, List.set_cons_zero, List.set_cons_succ, i64_w, i32_w]
            rfl
           refine done_ (done_of HT_.out (by kernel_rfl)) ?_
           obtain ⟨Ao43, co43, eo43⟩ := Kd.R_slice HO_8.out
           subst eo43
           obtain ⟨Ao44, co44, eo44⟩ := Kd.R_slice HO_9.out
           subst eo44
           try go_wp2
           have n0_ := Aside0.mk (Kd.R_drew HO_8.out)
           have n1_ := Aside0.mk (Kd.R_drew HO_9.out)
           have n2_ := Aside0.mk (below_drew1 HB.out)
           clear HO_8
           clear HO_9
           clear HB
           have HO_8 := n0_
           have HO_9 := n1_
           have HB := n2_
           clear n0_ n1_ n2_
           have p208 : 0 ≤ (x16_1 : Int) := of_decide_eq_true (by first | (with_reducible assumption) | assumption)
           have q208 : x16_1 < (l1.length : Int) := of_decide_eq_true (by first | (with_reducible assumption) | assumption)
           obtain ⟨ad208, e208, hx208_0⟩ := Kd.at_int HR1.out x16_1 p208 q208
           have hw208_0 := hx208_0
           obtain rfl : ad180 = ad208 := (by injection e208)
           replace hx208_0 := (HB.out.cell (World.block_lt_of_cell? w _ hx208_0)).trans hx208_0
           replace p208 := eq_true p208
           replace q208 := eq_true q208
           have p209 : 0 ≤ (x16_1 : Int) := of_decide_eq_true (by first | (with_reducible assumption) | assumption)
           have q209 : x16_1 < (l2.length : Int) := of_decide_eq_true (by first | (with_reducible assumption) | assumption)
           obtain ⟨ad209, e209, hx209_0⟩ := Kd.at_int HR2.out x16_1 p209 q209
           have hw209_0 := hx209_0
           obtain rfl : ad181 = ad209 := (by injection e209)
           replace hx209_0 := (HB.out.cell (World.block_lt_of_cell? w _ hx209_0)).trans hx209_0
           replace p209 := eq_true p209
           replace q209 := eq_true q209
           refine start_ (n := 19) (S := fun w' => w'.cell? (ad180.add (x16_1).toNat) = some (.int .i64 (rd l1 x16_1)) ∧ w'.cell? (ad181.add (x16_1).toNat) = some (.int .i64 (rd l2 x16_1))) (ds := []) #[false, false, false, false, false, false, false, false, false, false, false, false, false, false, false, false, false, false, false] (by kernel_rfl) rfl rfl ⟨((HB.out.cell (World.block_lt_of_cell? w _ hw208_0)).trans hw208_0), ((HB.out.cell (World.block_lt_of_cell? w _ hw209_0)).trans hw209_0)⟩ (fun hHeld => ?_); refine with_tabW spec_Apart.tab7 spec_Apart.bits7 (fun HT_ HW_ => ?_)
           generalize w42.drew = w45 at HO_8 HO_9 HB hx208_0 hx209_0 hHeld ⊢
           refine pure_ (i := 0) (N := some 29) (v := ?_) (a' := ?_) #[true, false, false, false, false, false, false, false, false, false, false, false, false, false, false, false, false, false, false] rfl rfl (any_of HT_.out (by kernel_rfl)) (fun _ _ _ h => h) (Or.inl ⟨by rfl, ?_⟩) ?_ ?_
           rotate_left
           ·intro w'
            go_simp
            with_reducible rfl
           rotate_left
           ·simp only [Act.put, List.setIfInBounds_toArray, List.set_cons_zero, List.set_cons_succ, i64_w, i32_w]
            rfl
           refine pure_ (i := 1) (N := some 30) (v := ?_) (a' := ?_) #[true, true, false, false, false, false, false, false, false, false, false, false, false, false, false, false, false, false, false] rfl rfl (any_of HT_.out (by kernel_rfl)) (fun _ _ _ h => h) (Or.inl ⟨by rfl, ?_⟩) ?_ ?_
           rotate_left
           ·intro w'
            go_simp
            with_reducible rfl
           rotate_left
           ·simp only [Act.put, List.setIfInBounds_toArray, List.set_cons_zero, List.set_cons_succ, i64_w, i32_w]
            rfl
           refine pure_ (i := 2) (N := some 31) (v := ?_) (a' := ?_) #[true, true, true, false, false, false, false, false, false, false, false, false, false, false, false, false, false, false, false] rfl rfl (any_of HT_.out (by kernel_rfl)) (fun _ _ _ h => h) (Or.inl ⟨by rfl, ?_⟩) ?_ ?_
           rotate_left
           ·intro w'
            go_simp
            with_reducible rfl
           rotate_left
           ·simp only [Act.put, List.setIfInBounds_toArray, List.set_cons_zero, List.set_cons_succ, i64_w, i32_w]
            rfl
           refine pure_ (i := 3) (N := some 32) (v := ?_) (a' := ?_) #[true, true, true, true, false, false, false, false, false, false, false, false, false, false, false, false, false, false, false] rfl rfl (any_of HT_.out (by kernel_rfl)) (fun _ _ _ h => h) (Or.inl ⟨by rfl, ?_⟩) ?_ ?_
           rotate_left
           ·intro w'
            go_simp
            with_reducible rfl
           rotate_left
           ·simp only [Act.put, List.setIfInBounds_toArray, List.set_cons_zero, List.set_cons_succ, i64_w, i32_w]
            rfl
           refine pure_ (i := 5) (N := some 34) (v := ?_) (a' := ?_) #[true, true, true, true, false, true, false, false, false, false, false, false, false, false, false, false, false, false, false] rfl rfl (any_of HT_.out (by kernel_rfl)) (fun _ _ _ h => h) (Or.inl ⟨by rfl, ?_⟩) ?_ ?_
           rotate_left
           ·intro w'
            go_simp
            with_reducible rfl
           rotate_left
           ·simp only [Act.put, List.setIfInBounds_toArray, List.set_cons_zero, List.set_cons_succ, i64_w, i32_w]
            rfl
           refine pure_ (i := 6) (N := some 35) (v := ?_) (a' := ?_) #[true, true, true, true, false, true, true, false, false, false, false, false, false, false, false, false, false, false, false] rfl rfl (any_of HT_.out (by kernel_rfl)) (fun _ _ _ h => h) (Or.inl ⟨by rfl, ?_⟩) ?_ ?_
           rotate_left
           ·intro w'
            go_simp
            with_reducible rfl
           rotate_left
           ·simp only [Act.put, List.setIfInBounds_toArray, List.set_cons_zero, List.set_cons_succ, i64_w, i32_w]
            rfl
           refine pure_ (i := 7) (N := some 36) (v := ?_) (a' := ?_) #[true, true, true, true, false, true, true, true, false, false, false, false, false, false, false, false, false, false, false] rfl rfl (any_of HT_.out (by kernel_rfl)) (fun _ _ _ h => h) (Or.inl ⟨by rfl, ?_⟩) ?_ ?_
           rotate_left
           ·intro w'
            go_simp
            with_reducible rfl
           rotate_left
           ·simp only [Act.put, List.setIfInBounds_toArray, List.set_cons_zero, List.set_cons_succ, i64_w, i32_w]
            rfl
           refine pure_ (i := 13) (N := some 42) (v := ?_) (a' := ?_) #[true, true, true, true, false, true, true, true, false, false, false, false, false, true, false, false, false, false, false] rfl rfl (any_of HT_.out (by kernel_rfl)) (fun _ _ _ h => h) (Or.inl ⟨by rfl, ?_⟩) ?_ ?_
           rotate_left
           ·intro w'
            go_simp
            with_reducible rfl
           rotate_left
           ·simp only [Act.put, List.setIfInBounds_toArray, List.set_cons_zero, List.set_cons_succ, i64_w, i32_w]
            rfl
           refine pure_ (i := 14) (N := some 43) (v := ?_) (a' := ?_) #[true, true, true, true, false, true, true, true, false, false, false, false, false, true, true, false, false, false, false] rfl rfl (any_of HT_.out (by kernel_rfl)) (fun _ _ _ h => h) (Or.inl ⟨by rfl, ?_⟩) ?_ ?_
           rotate_left
           ·intro w'
            go_simp
            with_reducible rfl
           rotate_left
           ·simp only [Act.put, List.setIfInBounds_toArray, List.set_cons_zero, List.set_cons_succ, i64_w, i32_w]
            rfl
           refine take_ (i := 4) (N := some 33) (v := ?_) (a' := ?_) #[true, true, true, true, true, true, true, true, false, false, false, false, false, true, true, false, false, false, false] rfl rfl (take_ofW HT_.out HW_.out (by kernel_rfl)) (fun _ _ _ h => h) (Or.inl ⟨by rfl, ?_⟩) hHeld ?_ ?_
           rotate_left
           ·rintro w' ⟨s0, s1⟩
            go_simp
            with_reducible rfl
           rotate_left
           ·simp only [Act.put, List.setIfInBounds_toArray, List.set_cons_zero, List.set_cons_succ, i64_w, i32_w]
            rfl
           refine take_ (i := 8) (N := some 37) (v := ?_) (a' := ?_) #[true, true, true, true, true, true, true, true, true, false, false, false, false, true, true, false, false, false, false] rfl rfl (take_ofW HT_.out HW_.out (by kernel_rfl)) (fun _ _ _ h => h) (Or.inl ⟨by rfl, ?_⟩) hHeld ?_ ?_
           rotate_left
           ·rintro w' ⟨s0, s1⟩
            go_simp
            with_reducible rfl
           rotate_left
           ·simp only [Act.put, List.setIfInBounds_toArray, List.set_cons_zero, List.set_cons_succ, i64_w, i32_w]
            rfl
           refine pure_ (i := 9) (N := some 38) (v := ?_) (a' := ?_) #[true, true, true, true, true, true, true, true, true, true, false, false, false, true, true, false, false, false, false] rfl rfl (any_of HT_.out (by kernel_rfl)) (fun _ _ _ h => h) (Or.inl ⟨by rfl, ?_⟩) ?_ ?_
           rotate_left
           ·intro w'
            go_simp
            with_reducible rfl
           rotate_left
           ·simp only [Act.put, List.setIfInBounds_toArray, List.set_cons_zero, List.set_cons_succ, i64_w, i32_w]
            rfl
           refine pure_ (i := 10) (N := some 39) (v := ?_) (a' := ?_) #[true, true, true, true, true, true, true, true, true, true, true, false, false, true, true, false, false, false, false] rfl rfl (any_of HT_.out (by kernel_rfl)) (fun _ _ _ h => h) (Or.inl ⟨by rfl, ?_⟩) ?_ ?_
           rotate_left
           ·intro w'
            go_simp
            with_reducible rfl
           rotate_left
           ·simp only [Act.put, List.setIfInBounds_toArray, List.set_cons_zero, List.set_cons_succ, i64_w, i32_w]
            rfl
           refine join_ (σ := Value × Value × Value) 3 #[true, true, true, true, true, true, true, true, true, true, true, true, true, true, true, true, false, false, false] (fun s_ => [(40, s_.1), (41, s_.2.1), (44, s_.2.2)]) (fun s_ w' => (w'.cell? (ad180.add (x16_1).toNat) = some (.int .i64 (rd l1 x16_1)) ∧ w'.cell? (ad181.add (x16_1).toNat) = some (.int .i64 (rd l2 x16_1))) ∧ (Kd.R (Kd.int .i64) 3 w' w.heap.size (fun k_ => some k_ ≠ (s_.2.1 : Value).ownBlock ∧ some k_ ≠ (s_.2.2 : Value).ownBlock ∧ some k_ ≠ (.slice Ao44 x9_1.length co44 : Value).ownBlock) s_.1 y210) ∧ (Kd.R (Kd.int .i64) 3 w' w.heap.size (fun k_ => some k_ ≠ (s_.1 : Value).ownBlock ∧ some k_ ≠ (s_.2.2 : Value).ownBlock ∧ some k_ ≠ (.slice Ao44 x9_1.length co44 : Value).ownBlock) s_.2.1 y213) ∧ (Kd.R (Kd.int .i64) 3 w' w.heap.size (fun k_ => some k_ ≠ (s_.1 : Value).ownBlock ∧ some k_ ≠ (s_.2.1 : Value).ownBlock ∧ some k_ ≠ (.slice Ao44 x9_1.length co44 : Value).ownBlock) s_.2.2 y216) ∧ (Kd.R (Kd.int .i64) 3 w' w.heap.size (fun k_ => some k_ ≠ (s_.1 : Value).ownBlock ∧ some k_ ≠ (s_.2.1 : Value).ownBlock ∧ some k_ ≠ (s_.2.2 : Value).ownBlock) (.slice Ao44 x9_1.length co44) x9_1) ∧ (Below w.heap.size w w')) ?_ ?_
           rotate_left
           ·intro hCont
            refine two_ (i := 11) (j := 15) (Ni := some 40) (Nj := some 44) #[true, true, true, true, true, true, true, true, true, true, true, true, false, true, true, false, false, false, false] #[true, true, true, true, true, true, true, true, true, true, true, false, false, true, true, true, false, false, false] rfl rfl rfl rfl (two_of HT_.out (by kernel_rfl)) (by decide) (by decide) (fun K hK => ?_) (fun K hK => ?_)
            ·skip
             refine Kd.R_lit_step (Kd.int .i64) _ 3 ?hg (N := 40) ?hd (xs := ([(wrap64 ((rd l1 x16_1) + (rd l2 x16_1))) / 2] : List Int)) (inner := [.int .i64 ((wrap64 ((rd l1 x16_1) + (rd l2 x16_1))) / 2)]) (ok := fun _ => True) (okp := fun _ => True) ?hr ?hp (fun _ hk => hk) trivial (Below.refl _ _) (Nat.le_refl _) (by simp) ?_; (case hd => rfl); (case hg => rfl); (case hr => first | (go_simp; done) | (go_simp; rfl)); (case hp => exact (Reps.one (show Kd.M (Kd.int .i64) _ _ _ ((wrap64 ((rd l1 x16_1) + (rd l2 x16_1))) / 2) [.int .i64 ((wrap64 ((rd l1 x16_1) + (rd l2 x16_1))) / 2)] from rfl) (Reps.none _ _)))
             intro v211 w46 ho47 hb hg_ hnew_
             clear hg_ hnew_
             (first | rw [← Ny210.out] at ho47 | (simp only [Int.reduceToNat] at ho47; rw [← Ny210.out] at ho47))
             have n0_ := Aside0.mk (Kd.R_elder' (by (with_reducible repeat (first | apply Kd.R_alloc | apply Kd.R_drewN | apply Kd.R_drew)); exact HO_8.out) (Kd.R_base ho47) hb)
             have n1_ := Aside0.mk (Kd.R_elder' (by (with_reducible repeat (first | apply Kd.R_alloc | apply Kd.R_drewN | apply Kd.R_drew)); exact HO_9.out) (Kd.R_base ho47) hb)
             have n2_ := Aside0.mk (Kd.R_lower (Kd.R_new' (Kd.R_new' ho47 (Kd.R_lt (by (with_reducible repeat (first | apply Kd.R_alloc | apply Kd.R_drewN | apply Kd.R_drew)); exact HO_8.out))) (Kd.R_lt (by (with_reducible repeat (first | apply Kd.R_alloc | apply Kd.R_drewN | apply Kd.R_drew)); exact HO_9.out))) (below_size (by repeat (first | (with_reducible first | exact HB.out | apply below_alloc | apply pw_below_drewN | apply below_drew1) | exact HB.out))))
             have n3_ := Aside0.mk (below_step (by repeat (first | (with_reducible first | exact HB.out | apply below_alloc | apply pw_below_drewN | apply below_drew1) | exact HB.out)) hb)
             clear HO_8
             clear HO_9
             clear HB
             have HO_8 := n0_
             have HO_9 := n1_
             have HO212 := n2_
             have HB := n3_
             clear n0_ n1_ n2_ n3_
             clear hb ho47
             obtain ⟨Ao49, co49, eo49⟩ := Kd.R_slice HO212.out
             (first | subst eo49 | (injection eo49 with f1_ f2_ f3_; have f4_ := f1_.symm; have f5_ := f3_.symm; clear f1_ f2_ f3_; subst f4_; subst f5_))
             refine hK.out _ _ ⟨((HB.out.cell (World.block_lt_of_cell? w _ hw208_0)).trans hw208_0), ((HB.out.cell (World.block_lt_of_cell? w _ hw209_0)).trans hw209_0)⟩ (fun hHeld => ?_)
             clear hK K
             refine norm_ (a' := ?_) ?_ ?_
             rotate_left
             ·show Act.put _ (some 40) _ = _
              simp only [Act.put, List.setIfInBounds_toArray, List.set_cons_zero, List.set_cons_succ, i64_w, i32_w]
              rfl
             refine two_ (i := 12) (j := 15) (Ni := some 41) (Nj := some 44) #[true, true, true, true, true, true, true, true, true, true, true, true, true, true, true, false, false, false, false] #[true, true, true, true, true, true, true, true, true, true, true, true, false, true, true, true, false, false, false] rfl rfl rfl rfl (two_of HT_.out (by kernel_rfl)) (by decide) (by decide) (fun K hK => ?_) (fun K hK => ?_)
             ·skip
              refine Kd.R_append_rows_step (Kd.int .i64) (w0 := w) w.heap.size (by rfl) (.tmp 29) (.tmp 40) 44 3 (.int .i64 0) 8 rfl Tryz.underlying44 info3 rfl (by decide) (by omega) (.slice Ao43 x8_1.length co43) x8_1 y210 _ _ _ (fun k_ => some k_ ≠ (.slice Ao44 x9_1.length co44 : Value).ownBlock ∧ some k_ ≠ (.slice Ao49 y210.length co49 : Value).ownBlock) (fun _ => False) rfl rfl ?aO ?aR (fun _ _ h => h) (fun _ h => h.elim) ?aF ?aB ?aS ?aL ?_
              (case aR => repeat (first | exact (Kd.R_reads' HO212.out).2.2 | (with_reducible refine Kd.C_alloc ?_ _) | (with_reducible refine Kd.C_drewN ?_ _) | (with_reducible refine Kd.C_drew ?_)))
              (case aB => exact (by repeat (first | (with_reducible first | exact HB.out | apply below_alloc | apply pw_below_drewN | apply below_drew1) | exact HB.out)))
              (case aF => exact (fun k_ hk => ⟨Kd.fresh' (Kd.R_lt (by (with_reducible repeat (first | apply Kd.R_alloc | apply Kd.R_drewN | apply Kd.R_drew)); exact HO_9.out)) k_ hk, Kd.fresh' (Kd.R_lt (by (with_reducible repeat (first | apply Kd.R_alloc | apply Kd.R_drewN | apply Kd.R_drew)); exact HO212.out)) k_ hk⟩))
              (case aO => exact (by (with_reducible repeat (first | apply Kd.R_alloc | apply Kd.R_drewN | apply Kd.R_drew)); exact HO_8.out))
              (case aS => exact (below_size (by repeat (first | (with_reducible first | exact HB.out | apply below_alloc | apply pw_below_drewN | apply below_drew1) | exact HB.out))))
              (case aL => have := LMc40.out; omega)
              intro v214 w48 ho hb hg hat
              rw [← Ny213.out] at ho
              have n0_ := Aside0.mk (Kd.R_after (ok := (fun k_ => some k_ ≠ (.slice Ao49 y210.length co49 : Value).ownBlock)) (by (with_reducible repeat (first | apply Kd.R_alloc | apply Kd.R_drewN | apply Kd.R_drew)); exact Kd.R_mono HO_9.out (fun _ hk => ⟨hk.2, hk.1⟩)) hg hat)
              have n1_ := Aside0.mk (Kd.R_after (ok := (fun k_ => some k_ ≠ (.slice Ao44 x9_1.length co44 : Value).ownBlock)) (by (with_reducible repeat (first | apply Kd.R_alloc | apply Kd.R_drewN | apply Kd.R_drew)); exact Kd.R_mono HO212.out (fun _ hk => ⟨hk.2, hk.1.2⟩)) hg hat)
              have n2_ := Aside0.mk (hb)
              have n3_ := Aside0.mk (ho)
              clear HO_9
              clear HO212
              clear HB
              clear HO_8
              have HO_9 := n0_
              have HO212 := n1_
              have HB := n2_
              have HO215 := n3_
              clear n0_ n1_ n2_ n3_
              clear ho hb hg hat
              refine hK.out _ _ ⟨((HB.out.cell (World.block_lt_of_cell? w _ hw208_0)).trans hw208_0), ((HB.out.cell (World.block_lt_of_cell? w _ hw209_0)).trans hw209_0)⟩ (fun hHeld => ?_)
              clear hK K
              refine norm_ (a' := ?_) ?_ ?_
              rotate_left
              ·show Act.put _ (some 41) _ = _
               simp only [Act.put, List.setIfInBounds_toArray, List.set_cons_zero, List.set_cons_succ, i64_w, i32_w]
               rfl
              refine one_ (i := 15) (N := some 44) #[true, true, true, true, true, true, true, true, true, true, true, true, true, true, true, true, false, false, false] rfl rfl (one_of HT_.out (by kernel_rfl)) (by decide) (fun K hK => ?_)
              refine Kd.R_lit_step (Kd.int .i64) _ 3 ?hg (N := 44) ?hd (xs := ([wrap64 ((rd l1 x16_1) - (rd l2 x16_1))] : List Int)) (inner := [.int .i64 (wrap64 ((rd l1 x16_1) - (rd l2 x16_1)))]) (ok := fun _ => True) (okp := fun _ => True) ?hr ?hp (fun _ hk => hk) trivial (Below.refl _ _) (Nat.le_refl _) (by simp) ?_; (case hd => rfl); (case hg => rfl); (case hr => first | (go_simp; done) | (go_simp; rfl)); (case hp => exact (Reps.one (show Kd.M (Kd.int .i64) _ _ _ (wrap64 ((rd l1 x16_1) - (rd l2 x16_1))) [.int .i64 (wrap64 ((rd l1 x16_1) - (rd l2 x16_1)))] from rfl) (Reps.none _ _)))
              intro v217 w50 ho51 hb hg_ hnew_
              clear hg_ hnew_
              (first | rw [← Ny216.out] at ho51 | (simp only [Int.reduceToNat] at ho51; rw [← Ny216.out] at ho51))
              have n0_ := Aside0.mk (Kd.R_elder' (by (with_reducible repeat (first | apply Kd.R_alloc | apply Kd.R_drewN | apply Kd.R_drew)); exact HO_9.out) (Kd.R_base ho51) hb)
              have n1_ := Aside0.mk (Kd.R_elder' (by (with_reducible repeat (first | apply Kd.R_alloc | apply Kd.R_drewN | apply Kd.R_drew)); exact HO212.out) (Kd.R_base ho51) hb)
              have n2_ := Aside0.mk (Kd.R_elder' (by (with_reducible repeat (first | apply Kd.R_alloc | apply Kd.R_drewN | apply Kd.R_drew)); exact HO215.out) (Kd.R_base ho51) hb)
              have n3_ := Aside0.mk (Kd.R_lower (Kd.R_new' (Kd.R_new' (Kd.R_new' ho51 (Kd.R_lt (by (with_reducible repeat (first | apply Kd.R_alloc | apply Kd.R_drewN | apply Kd.R_drew)); exact HO_9.out))) (Kd.R_lt (by (with_reducible repeat (first | apply Kd.R_alloc | apply Kd.R_drewN | apply Kd.R_drew)); exact HO212.out))) (Kd.R_lt (by (with_reducible repeat (first | apply Kd.R_alloc | apply Kd.R_drewN | apply Kd.R_drew)); exact HO215.out))) (below_size (by repeat (first | (with_reducible first | exact HB.out | apply below_alloc | apply pw_below_drewN | apply below_drew1) | exact HB.out))))
              have n4_ := Aside0.mk (below_step (by repeat (first | (with_reducible first | exact HB.out | apply below_alloc | apply pw_below_drewN | apply below_drew1) | exact HB.out)) hb)
              clear HO_9
              clear HO212
              clear HO215
              clear HB
              have HO_9 := n0_
              have HO212 := n1_
              have HO215 := n2_
              have HO218 := n3_
              have HB := n4_
              clear n0_ n1_ n2_ n3_ n4_
              clear hb ho51
              refine hK.out _ _ ⟨((HB.out.cell (World.block_lt_of_cell? w _ hw208_0)).trans hw208_0), ((HB.out.cell (World.block_lt_of_cell? w _ hw209_0)).trans hw209_0)⟩ (fun hHeld => ?_)
              clear hK K
              refine norm_ (a' := ?_) ?_ ?_
              rotate_left
              ·show Act.put _ (some 44) _ = _
               simp only [Act.put, List.setIfInBounds_toArray, List.set_cons_zero, List.set_cons_succ, i64_w, i32_w]
               rfl
              exact norm_ (by simp only [putAll, Act.put, List.setIfInBounds_toArray, List.set_cons_zero, List.set_cons_succ]) (hCont (.slice Ao49 y210.length co49, v214, v217) _ ⟨hHeld, (by (with_reducible repeat (first | apply Kd.R_alloc | apply Kd.R_drewN | apply Kd.R_drew)); exact Kd.R_mono HO212.out (fun _ hk => ⟨hk.1.2, ⟨hk.2, hk.1.1⟩⟩)), (by (with_reducible repeat (first | apply Kd.R_alloc | apply Kd.R_drewN | apply Kd.R_drew)); exact Kd.R_mono HO215.out (fun _ hk => ⟨hk.1.2, ⟨hk.2, hk.1.1⟩⟩)), (by (with_reducible repeat (first | apply Kd.R_alloc | apply Kd.R_drewN | apply Kd.R_drew)); exact Kd.R_mono HO218.out (fun _ hk => ⟨hk.1.2, ⟨hk.2, hk.1.1.2⟩⟩)), (by (with_reducible repeat (first | apply Kd.R_alloc | apply Kd.R_drewN | apply Kd.R_drew)); exact Kd.R_mono HO_9.out (fun _ hk => ⟨hk.1.1, ⟨hk.1.2, hk.2⟩⟩)), (by repeat (first | (with_reducible first | exact HB.out | apply below_alloc | apply pw_below_drewN | apply below_drew1) | exact HB.out))⟩)
             ·skip
              refine Kd.R_lit_step (Kd.int .i64) _ 3 ?hg (N := 44) ?hd (xs := ([wrap64 ((rd l1 x16_1) - (rd l2 x16_1))] : List Int)) (inner := [.int .i64 (wrap64 ((rd l1 x16_1) - (rd l2 x16_1)))]) (ok := fun _ => True) (okp := fun _ => True) ?hr ?hp (fun _ hk => hk) trivial (Below.refl _ _) (Nat.le_refl _) (by simp) ?_; (case hd => rfl); (case hg => rfl); (case hr => first | (go_simp; done) | (go_simp; rfl)); (case hp => exact (Reps.one (show Kd.M (Kd.int .i64) _ _ _ (wrap64 ((rd l1 x16_1) - (rd l2 x16_1))) [.int .i64 (wrap64 ((rd l1 x16_1) - (rd l2 x16_1)))] from rfl) (Reps.none _ _)))
              intro v217 w48 ho49 hb hg_ hnew_
              clear hg_ hnew_
              (first | rw [← Ny216.out] at ho49 | (simp only [Int.reduceToNat] at ho49; rw [← Ny216.out] at ho49))
              have n0_ := Aside0.mk (Kd.R_elder' (by (with_reducible repeat (first | apply Kd.R_alloc | apply Kd.R_drewN | apply Kd.R_drew)); exact HO_8.out) (Kd.R_base ho49) hb)
              have n1_ := Aside0.mk (Kd.R_elder' (by (with_reducible repeat (first | apply Kd.R_alloc | apply Kd.R_drewN | apply Kd.R_drew)); exact HO_9.out) (Kd.R_base ho49) hb)
              have n2_ := Aside0.mk (Kd.R_elder' (by (with_reducible repeat (first | apply Kd.R_alloc | apply Kd.R_drewN | apply Kd.R_drew)); exact HO212.out) (Kd.R_base ho49) hb)
              have n3_ := Aside0.mk (Kd.R_lower (Kd.R_new' (Kd.R_new' (Kd.R_new' ho49 (Kd.R_lt (by (with_reducible repeat (first | apply Kd.R_alloc | apply Kd.R_drewN | apply Kd.R_drew)); exact HO_8.out))) (Kd.R_lt (by (with_reducible repeat (first | apply Kd.R_alloc | apply Kd.R_drewN | apply Kd.R_drew)); exact HO_9.out))) (Kd.R_lt (by (with_reducible repeat (first | apply Kd.R_alloc | apply Kd.R_drewN | apply Kd.R_drew)); exact HO212.out))) (below_size (by repeat (first | (with_reducible first | exact HB.out | apply below_alloc | apply pw_below_drewN | apply below_drew1) | exact HB.out))))
              have n4_ := Aside0.mk (below_step (by repeat (first | (with_reducible first | exact HB.out | apply below_alloc | apply pw_below_drewN | apply below_drew1) | exact HB.out)) hb)
              clear HO_8
              clear HO_9
              clear HO212
              clear HB
              have HO_8 := n0_
              have HO_9 := n1_
              have HO212 := n2_
              have HO218 := n3_
              have HB := n4_
              clear n0_ n1_ n2_ n3_ n4_
              clear hb ho49
              obtain ⟨Ao51, co51, eo51⟩ := Kd.R_slice HO212.out
              (first | subst eo51 | (injection eo51 with f1_ f2_ f3_; have f4_ := f1_.symm; have f5_ := f3_.symm; clear f1_ f2_ f3_; subst f4_; subst f5_))
              refine hK.out _ _ ⟨((HB.out.cell (World.block_lt_of_cell? w _ hw208_0)).trans hw208_0), ((HB.out.cell (World.block_lt_of_cell? w _ hw209_0)).trans hw209_0)⟩ (fun hHeld => ?_)
              clear hK K
              refine norm_ (a' := ?_) ?_ ?_
              rotate_left
              ·show Act.put _ (some 44) _ = _
               simp only [Act.put, List.setIfInBounds_toArray, List.set_cons_zero, List.set_cons_succ, i64_w, i32_w]
               rfl
              refine one_ (i := 12) (N := some 41) #[true, true, true, true, true, true, true, true, true, true, true, true, true, true, true, true, false, false, false] rfl rfl (one_of HT_.out (by kernel_rfl)) (by decide) (fun K hK => ?_)
              refine Kd.R_append_rows_step (Kd.int .i64) (w0 := w) w.heap.size (by rfl) (.tmp 29) (.tmp 40) 44 3 (.int .i64 0) 8 rfl Tryz.underlying44 info3 rfl (by decide) (by omega) (.slice Ao43 x8_1.length co43) x8_1 y210 _ _ _ (fun k_ => some k_ ≠ (.slice Ao44 x9_1.length co44 : Value).ownBlock ∧ some k_ ≠ (.slice Ao51 y210.length co51 : Value).ownBlock ∧ some k_ ≠ (v217 : Value).ownBlock) (fun _ => False) rfl rfl ?aO ?aR (fun _ _ h => h) (fun _ h => h.elim) ?aF ?aB ?aS ?aL ?_
              (case aR => repeat (first | exact (Kd.R_reads' HO212.out).2.2 | (with_reducible refine Kd.C_alloc ?_ _) | (with_reducible refine Kd.C_drewN ?_ _) | (with_reducible refine Kd.C_drew ?_)))
              (case aB => exact (by repeat (first | (with_reducible first | exact HB.out | apply below_alloc | apply pw_below_drewN | apply below_drew1) | exact HB.out)))
              (case aF => exact (fun k_ hk => ⟨Kd.fresh' (Kd.R_lt (by (with_reducible repeat (first | apply Kd.R_alloc | apply Kd.R_drewN | apply Kd.R_drew)); exact HO_9.out)) k_ hk, Kd.fresh' (Kd.R_lt (by (with_reducible repeat (first | apply Kd.R_alloc | apply Kd.R_drewN | apply Kd.R_drew)); exact HO212.out)) k_ hk, Kd.fresh' (Kd.R_lt (by (with_reducible repeat (first | apply Kd.R_alloc | apply Kd.R_drewN | apply Kd.R_drew)); exact HO218.out)) k_ hk⟩))
              (case aO => exact (by (with_reducible repeat (first | apply Kd.R_alloc | apply Kd.R_drewN | apply Kd.R_drew)); exact Kd.R_mono HO_8.out (fun _ hk => ⟨hk.1.1, ⟨hk.1.2, hk.2⟩⟩)))
              (case aS => exact (below_size (by repeat (first | (with_reducible first | exact HB.out | apply below_alloc | apply pw_below_drewN | apply below_drew1) | exact HB.out))))
              (case aL => have := LMc40.out; omega)
              intro v214 w50 ho hb hg hat
              rw [← Ny213.out] at ho
              have n0_ := Aside0.mk (Kd.R_after (ok := (fun k_ => some k_ ≠ (.slice Ao51 y210.length co51 : Value).ownBlock ∧ some k_ ≠ (v217 : Value).ownBlock)) (by (with_reducible repeat (first | apply Kd.R_alloc | apply Kd.R_drewN | apply Kd.R_drew)); exact Kd.R_mono HO_9.out (fun _ hk => ⟨⟨hk.1.2, hk.2⟩, hk.1.1⟩)) hg hat)
              have n1_ := Aside0.mk (Kd.R_after (ok := (fun k_ => some k_ ≠ (.slice Ao44 x9_1.length co44 : Value).ownBlock ∧ some k_ ≠ (v217 : Value).ownBlock)) (by (with_reducible repeat (first | apply Kd.R_alloc | apply Kd.R_drewN | apply Kd.R_drew)); exact Kd.R_mono HO212.out (fun _ hk => ⟨⟨hk.1.2, hk.2⟩, hk.1.1.2⟩)) hg hat)
              have n2_ := Aside0.mk (Kd.R_after (ok := (fun k_ => some k_ ≠ (.slice Ao44 x9_1.length co44 : Value).ownBlock ∧ some k_ ≠ (.slice Ao51 y210.length co51 : Value).ownBlock)) (by (with_reducible repeat (first | apply Kd.R_alloc | apply Kd.R_drewN | apply Kd.R_drew)); exact Kd.R_mono HO218.out (fun _ hk => ⟨⟨hk.1.2, hk.2⟩, hk.1.1.2⟩)) hg hat)
              have n3_ := Aside0.mk (hb)
              have n4_ := Aside0.mk (ho)
              clear HO_9
              clear HO212
              clear HO218
              clear HB
              clear HO_8
              have HO_9 := n0_
              have HO212 := n1_
              have HO218 := n2_
              have HB := n3_
              have HO215 := n4_
              clear n0_ n1_ n2_ n3_ n4_
              clear ho hb hg hat
              refine hK.out _ _ ⟨((HB.out.cell (World.block_lt_of_cell? w _ hw208_0)).trans hw208_0), ((HB.out.cell (World.block_lt_of_cell? w _ hw209_0)).trans hw209_0)⟩ (fun hHeld => ?_)
              clear hK K
              refine norm_ (a' := ?_) ?_ ?_
              rotate_left
              ·show Act.put _ (some 41) _ = _
               simp only [Act.put, List.setIfInBounds_toArray, List.set_cons_zero, List.set_cons_succ, i64_w, i32_w]
               rfl
              exact norm_ (by simp only [putAll, Act.put, List.setIfInBounds_toArray, List.set_cons_zero, List.set_cons_succ]) (hCont (.slice Ao51 y210.length co51, v214, v217) _ ⟨hHeld, (by (with_reducible repeat (first | apply Kd.R_alloc | apply Kd.R_drewN | apply Kd.R_drew)); exact Kd.R_mono HO212.out (fun _ hk => ⟨hk.2, ⟨hk.1.2, hk.1.1⟩⟩)), (by (with_reducible repeat (first | apply Kd.R_alloc | apply Kd.R_drewN | apply Kd.R_drew)); exact Kd.R_mono HO215.out (fun _ hk => ⟨hk.2.1, ⟨hk.2.2, hk.1⟩⟩)), (by (with_reducible repeat (first | apply Kd.R_alloc | apply Kd.R_drewN | apply Kd.R_drew)); exact Kd.R_mono HO218.out (fun _ hk => ⟨hk.1.2, ⟨hk.2, hk.1.1⟩⟩)), (by (with_reducible repeat (first | apply Kd.R_alloc | apply Kd.R_drewN | apply Kd.R_drew)); exact Kd.R_mono HO_9.out (fun _ hk => ⟨hk.1.1, ⟨hk.2, hk.1.2⟩⟩)), (by repeat (first | (with_reducible first | exact HB.out | apply below_alloc | apply pw_below_drewN | apply below_drew1) | exact HB.out))⟩)
            ·skip
             refine Kd.R_lit_step (Kd.int .i64) _ 3 ?hg (N := 44) ?hd (xs := ([wrap64 ((rd l1 x16_1) - (rd l2 x16_1))] : List Int)) (inner := [.int .i64 (wrap64 ((rd l1 x16_1) - (rd l2 x16_1)))]) (ok := fun _ => True) (okp := fun _ => True) ?hr ?hp (fun _ hk => hk) trivial (Below.refl _ _) (Nat.le_refl _) (by simp) ?_; (case hd => rfl); (case hg => rfl); (case hr => first | (go_simp; done) | (go_simp; rfl)); (case hp => exact (Reps.one (show Kd.M (Kd.int .i64) _ _ _ (wrap64 ((rd l1 x16_1) - (rd l2 x16_1))) [.int .i64 (wrap64 ((rd l1 x16_1) - (rd l2 x16_1)))] from rfl) (Reps.none _ _)))
             intro v217 w46 ho47 hb hg_ hnew_
             clear hg_ hnew_
             (first | rw [← Ny216.out] at ho47 | (simp only [Int.reduceToNat] at ho47; rw [← Ny216.out] at ho47))
             have n0_ := Aside0.mk (Kd.R_elder' (by (with_reducible repeat (first | apply Kd.R_alloc | apply Kd.R_drewN | apply Kd.R_drew)); exact HO_8.out) (Kd.R_base ho47) hb)
             have n1_ := Aside0.mk (Kd.R_elder' (by (with_reducible repeat (first | apply Kd.R_alloc | apply Kd.R_drewN | apply Kd.R_drew)); exact HO_9.out) (Kd.R_base ho47) hb)
             have n2_ := Aside0.mk (Kd.R_lower (Kd.R_new' (Kd.R_new' ho47 (Kd.R_lt (by (with_reducible repeat (first | apply Kd.R_alloc | apply Kd.R_drewN | apply Kd.R_drew)); exact HO_8.out))) (Kd.R_lt (by (with_reducible repeat (first | apply Kd.R_alloc | apply Kd.R_drewN | apply Kd.R_drew)); exact HO_9.out))) (below_size (by repeat (first | (with_reducible first | exact HB.out | apply below_alloc | apply pw_below_drewN | apply below_drew1) | exact HB.out))))
             have n3_ := Aside0.mk (below_step (by repeat (first | (with_reducible first | exact HB.out | apply below_alloc | apply pw_below_drewN | apply below_drew1) | exact HB.out)) hb)
             clear HO_8
             clear HO_9
             clear HB
             have HO_8 := n0_
             have HO_9 := n1_
             have HO218 := n2_
             have HB := n3_
             clear n0_ n1_ n2_ n3_
             clear hb ho47
             refine hK.out _ _ ⟨((HB.out.cell (World.block_lt_of_cell? w _ hw208_0)).trans hw208_0), ((HB.out.cell (World.block_lt_of_cell? w _ hw209_0)).trans hw209_0)⟩ (fun hHeld => ?_)
             clear hK K
             refine norm_ (a' := ?_) ?_ ?_
             rotate_left
             ·show Act.put _ (some 44) _ = _
              simp only [Act.put, List.setIfInBounds_toArray, List.set_cons_zero, List.set_cons_succ, i64_w, i32_w]
              rfl
             refine one_ (i := 11) (N := some 40) #[true, true, true, true, true, true, true, true, true, true, true, true, false, true, true, true, false, false, false] rfl rfl (one_of HT_.out (by kernel_rfl)) (by decide) (fun K hK => ?_)
             refine Kd.R_lit_step (Kd.int .i64) _ 3 ?hg (N := 40) ?hd (xs := ([(wrap64 ((rd l1 x16_1) + (rd l2 x16_1))) / 2] : List Int)) (inner := [.int .i64 ((wrap64 ((rd l1 x16_1) + (rd l2 x16_1))) / 2)]) (ok := fun _ => True) (okp := fun _ => True) ?hr ?hp (fun _ hk => hk) trivial (Below.refl _ _) (Nat.le_refl _) (by simp) ?_; (case hd => rfl); (case hg => rfl); (case hr => first | (go_simp; done) | (go_simp; rfl)); (case hp => exact (Reps.one (show Kd.M (Kd.int .i64) _ _ _ ((wrap64 ((rd l1 x16_1) + (rd l2 x16_1))) / 2) [.int .i64 ((wrap64 ((rd l1 x16_1) + (rd l2 x16_1))) / 2)] from rfl) (Reps.none _ _)))
             intro v211 w48 ho49 hb hg_ hnew_
             clear hg_ hnew_
             (first | rw [← Ny210.out] at ho49 | (simp only [Int.reduceToNat] at ho49; rw [← Ny210.out] at ho49))
             have n0_ := Aside0.mk (Kd.R_elder' (by (with_reducible repeat (first | apply Kd.R_alloc | apply Kd.R_drewN | apply Kd.R_drew)); exact HO_8.out) (Kd.R_base ho49) hb)
             have n1_ := Aside0.mk (Kd.R_elder' (by (with_reducible repeat (first | apply Kd.R_alloc | apply Kd.R_drewN | apply Kd.R_drew)); exact HO_9.out) (Kd.R_base ho49) hb)
             have n2_ := Aside0.mk (Kd.R_elder' (by (with_reducible repeat (first | apply Kd.R_alloc | apply Kd.R_drewN | apply Kd.R_drew)); exact HO218.out) (Kd.R_base ho49) hb)
             have n3_ := Aside0.mk (Kd.R_lower (Kd.R_new' (Kd.R_new' (Kd.R_new' ho49 (Kd.R_lt (by (with_reducible repeat (first | apply Kd.R_alloc | apply Kd.R_drewN | apply Kd.R_drew)); exact HO_8.out))) (Kd.R_lt (by (with_reducible repeat (first | apply Kd.R_alloc | apply Kd.R_drewN | apply Kd.R_drew)); exact HO_9.out))) (Kd.R_lt (by (with_reducible repeat (first | apply Kd.R_alloc | apply Kd.R_drewN | apply Kd.R_drew)); exact HO218.out))) (below_size (by repeat (first | (with_reducible first | exact HB.out | apply below_alloc | apply pw_below_drewN | apply below_drew1) | exact HB.out))))
             have n4_ := Aside0.mk (below_step (by repeat (first | (with_reducible first | exact HB.out | apply below_alloc | apply pw_below_drewN | apply below_drew1) | exact HB.out)) hb)
             clear HO_8
             clear HO_9
             clear HO218
             clear HB
             have HO_8 := n0_
             have HO_9 := n1_
             have HO218 := n2_
             have HO212 := n3_
             have HB := n4_
             clear n0_ n1_ n2_ n3_ n4_
             clear hb ho49
             obtain ⟨Ao51, co51, eo51⟩ := Kd.R_slice HO212.out
             (first | subst eo51 | (injection eo51 with f1_ f2_ f3_; have f4_ := f1_.symm; have f5_ := f3_.symm; clear f1_ f2_ f3_; subst f4_; subst f5_))
             refine hK.out _ _ ⟨((HB.out.cell (World.block_lt_of_cell? w _ hw208_0)).trans hw208_0), ((HB.out.cell (World.block_lt_of_cell? w _ hw209_0)).trans hw209_0)⟩ (fun hHeld => ?_)
             clear hK K
             refine norm_ (a' := ?_) ?_ ?_
             rotate_left
             ·show Act.put _ (some 40) _ = _
              simp only [Act.put, List.setIfInBounds_toArray, List.set_cons_zero, List.set_cons_succ, i64_w, i32_w]
              rfl
             refine one_ (i := 12) (N := some 41) #[true, true, true, true, true, true, true, true, true, true, true, true, true, true, true, true, false, false, false] rfl rfl (one_of HT_.out (by kernel_rfl)) (by decide) (fun K hK => ?_)
             refine Kd.R_append_rows_step (Kd.int .i64) (w0 := w) w.heap.size (by rfl) (.tmp 29) (.tmp 40) 44 3 (.int .i64 0) 8 rfl Tryz.underlying44 info3 rfl (by decide) (by omega) (.slice Ao43 x8_1.length co43) x8_1 y210 _ _ _ (fun k_ => some k_ ≠ (.slice Ao44 x9_1.length co44 : Value).ownBlock ∧ some k_ ≠ (v217 : Value).ownBlock ∧ some k_ ≠ (.slice Ao51 y210.length co51 : Value).ownBlock) (fun _ => False) rfl rfl ?aO ?aR (fun _ _ h => h) (fun _ h => h.elim) ?aF ?aB ?aS ?aL ?_
             (case aR => repeat (first | exact (Kd.R_reads' HO212.out).2.2 | (with_reducible refine Kd.C_alloc ?_ _) | (with_reducible refine Kd.C_drewN ?_ _) | (with_reducible refine Kd.C_drew ?_)))
             (case aB => exact (by repeat (first | (with_reducible first | exact HB.out | apply below_alloc | apply pw_below_drewN | apply below_drew1) | exact HB.out)))
             (case aF => exact (fun k_ hk => ⟨Kd.fresh' (Kd.R_lt (by (with_reducible repeat (first | apply Kd.R_alloc | apply Kd.R_drewN | apply Kd.R_drew)); exact HO_9.out)) k_ hk, Kd.fresh' (Kd.R_lt (by (with_reducible repeat (first | apply Kd.R_alloc | apply Kd.R_drewN | apply Kd.R_drew)); exact HO218.out)) k_ hk, Kd.fresh' (Kd.R_lt (by (with_reducible repeat (first | apply Kd.R_alloc | apply Kd.R_drewN | apply Kd.R_drew)); exact HO212.out)) k_ hk⟩))
             (case aO => exact (by (with_reducible repeat (first | apply Kd.R_alloc | apply Kd.R_drewN | apply Kd.R_drew)); exact Kd.R_mono HO_8.out (fun _ hk => ⟨hk.1.1, ⟨hk.1.2, hk.2⟩⟩)))
             (case aS => exact (below_size (by repeat (first | (with_reducible first | exact HB.out | apply below_alloc | apply pw_below_drewN | apply below_drew1) | exact HB.out))))
             (case aL => have := LMc40.out; omega)
             intro v214 w50 ho hb hg hat
             rw [← Ny213.out] at ho
             have n0_ := Aside0.mk (Kd.R_after (ok := (fun k_ => some k_ ≠ (v217 : Value).ownBlock ∧ some k_ ≠ (.slice Ao51 y210.length co51 : Value).ownBlock)) (by (with_reducible repeat (first | apply Kd.R_alloc | apply Kd.R_drewN | apply Kd.R_drew)); exact Kd.R_mono HO_9.out (fun _ hk => ⟨⟨hk.1.2, hk.2⟩, hk.1.1⟩)) hg hat)
             have n1_ := Aside0.mk (Kd.R_after (ok := (fun k_ => some k_ ≠ (.slice Ao44 x9_1.length co44 : Value).ownBlock ∧ some k_ ≠ (.slice Ao51 y210.length co51 : Value).ownBlock)) (by (with_reducible repeat (first | apply Kd.R_alloc | apply Kd.R_drewN | apply Kd.R_drew)); exact Kd.R_mono HO218.out (fun _ hk => ⟨⟨hk.1.2, hk.2⟩, hk.1.1.2⟩)) hg hat)
             have n2_ := Aside0.mk (Kd.R_after (ok := (fun k_ => some k_ ≠ (.slice Ao44 x9_1.length co44 : Value).ownBlock ∧ some k_ ≠ (v217 : Value).ownBlock)) (by (with_reducible repeat (first | apply Kd.R_alloc | apply Kd.R_drewN | apply Kd.R_drew)); exact Kd.R_mono HO212.out (fun _ hk => ⟨⟨hk.1.2, hk.2⟩, hk.1.1.2⟩)) hg hat)
             have n3_ := Aside0.mk (hb)
             have n4_ := Aside0.mk (ho)
             clear HO_9
             clear HO218
             clear HO212
             clear HB
             clear HO_8
             have HO_9 := n0_
             have HO218 := n1_
             have HO212 := n2_
             have HB := n3_
             have HO215 := n4_
             clear n0_ n1_ n2_ n3_ n4_
             clear ho hb hg hat
             refine hK.out _ _ ⟨((HB.out.cell (World.block_lt_of_cell? w _ hw208_0)).trans hw208_0), ((HB.out.cell (World.block_lt_of_cell? w _ hw209_0)).trans hw209_0)⟩ (fun hHeld => ?_)
             clear hK K
             refine norm_ (a' := ?_) ?_ ?_
             rotate_left
             ·show Act.put _ (some 41) _ = _
              simp only [Act.put, List.setIfInBounds_toArray, List.set_cons_zero, List.set_cons_succ, i64_w, i32_w]
              rfl
             exact norm_ (by simp only [putAll, Act.put, List.setIfInBounds_toArray, List.set_cons_zero, List.set_cons_succ]) (hCont (.slice Ao51 y210.length co51, v214, v217) _ ⟨hHeld, (by (with_reducible repeat (first | apply Kd.R_alloc | apply Kd.R_drewN | apply Kd.R_drew)); exact Kd.R_mono HO212.out (fun _ hk => ⟨hk.2, ⟨hk.1.2, hk.1.1⟩⟩)), (by (with_reducible repeat (first | apply Kd.R_alloc | apply Kd.R_drewN | apply Kd.R_drew)); exact Kd.R_mono HO215.out (fun _ hk => ⟨hk.2.2, ⟨hk.2.1, hk.1⟩⟩)), (by (with_reducible repeat (first | apply Kd.R_alloc | apply Kd.R_drewN | apply Kd.R_drew)); exact Kd.R_mono HO218.out (fun _ hk => ⟨hk.1.2, ⟨hk.2, hk.1.1⟩⟩)), (by (with_reducible repeat (first | apply Kd.R_alloc | apply Kd.R_drewN | apply Kd.R_drew)); exact Kd.R_mono HO_9.out (fun _ hk => ⟨hk.1.2, ⟨hk.2, hk.1.1⟩⟩)), (by repeat (first | (with_reducible first | exact HB.out | apply below_alloc | apply pw_below_drewN | apply below_drew1) | exact HB.out))⟩)
           rintro ⟨v211, v214, v217⟩ w52 ⟨hS_, h0_, h1_, h2_, h3_, h4_⟩
           have n0_ : Aside0 (Kd.R (Kd.int .i64) 3 w52 w.heap.size (fun k_ => some k_ ≠ (v214 : Value).ownBlock ∧ some k_ ≠ (v217 : Value).ownBlock ∧ some k_ ≠ (.slice Ao44 x9_1.length co44 : Value).ownBlock) v211 y210) := ⟨h0_⟩
           have n1_ : Aside0 (Kd.R (Kd.int .i64) 3 w52 w.heap.size (fun k_ => some k_ ≠ (v211 : Value).ownBlock ∧ some k_ ≠ (v217 : Value).ownBlock ∧ some k_ ≠ (.slice Ao44 x9_1.length co44 : Value).ownBlock) v214 y213) := ⟨h1_⟩
           have n2_ : Aside0 (Kd.R (Kd.int .i64) 3 w52 w.heap.size (fun k_ => some k_ ≠ (v211 : Value).ownBlock ∧ some k_ ≠ (v214 : Value).ownBlock ∧ some k_ ≠ (.slice Ao44 x9_1.length co44 : Value).ownBlock) v217 y216) := ⟨h2_⟩
           have n3_ : Aside0 (Kd.R (Kd.int .i64) 3 w52 w.heap.size (fun k_ => some k_ ≠ (v211 : Value).ownBlock ∧ some k_ ≠ (v214 : Value).ownBlock ∧ some k_ ≠ (v217 : Value).ownBlock) (.slice Ao44 x9_1.length co44) x9_1) := ⟨h3_⟩
           have n4_ : Aside0 (Below w.heap.size w w52) := ⟨h4_⟩
           clear HO_8
           clear HO_9
           clear HB
           clear h0_ h1_ h2_ h3_ h4_
           have HO212 := n0_
           have HO215 := n1_
           have HO218 := n2_
           have HO_9 := n3_
           have HB := n4_
           clear n0_ n1_ n2_ n3_ n4_
           have hHeld : w52.cell? (ad180.add (x16_1).toNat) = some (.int .i64 (rd l1 x16_1)) ∧ w52.cell? (ad181.add (x16_1).toNat) = some (.int .i64 (rd l2 x16_1)) := hS_
           obtain ⟨Ao54, co54, eo54⟩ := Kd.R_slice HO218.out
           (first | subst eo54 | (injection eo54 with f1_ f2_ f3_; have f4_ := f1_.symm; have f5_ := f3_.symm; clear f1_ f2_ f3_; subst f4_; subst f5_))
           refine norm_ (a' := ?_) ?_ ?_
           rotate_left
           ·simp only [putAll, Act.put, List.setIfInBounds_toArray, List.set_cons_zero, List.set_cons_succ]
            rfl
           refine one_ (i := 16) (N := some 45) #[true, true, true, true, true, true, true, true, true, true, true, true, true, true, true, true, true, false, false] rfl rfl (one_of HT_.out (by kernel_rfl)) (by decide) (fun K hK => ?_)
           refine Kd.R_append_rows_step (Kd.int .i64) (w0 := w) w.heap.size (by rfl) (.tmp 42) (.tmp 44) 44 3 (.int .i64 0) 8 rfl Tryz.underlying44 info3 rfl (by decide) (by omega) (.slice Ao44 x9_1.length co44) x9_1 y216 _ _ _ (fun k_ => some k_ ≠ (v211 : Value).ownBlock ∧ some k_ ≠ (v214 : Value).ownBlock ∧ some k_ ≠ (.slice Ao54 y216.length co54 : Value).ownBlock) (fun _ => False) rfl rfl ?aO ?aR (fun _ _ h => h) (fun _ h => h.elim) ?aF ?aB ?aS ?aL ?_
           (case aR => repeat (first | exact (Kd.R_reads' HO218.out).2.2 | (with_reducible refine Kd.C_alloc ?_ _) | (with_reducible refine Kd.C_drewN ?_ _) | (with_reducible refine Kd.C_drew ?_)))
           (case aB => exact (by repeat (first | (with_reducible first | exact HB.out | apply below_alloc | apply pw_below_drewN | apply below_drew1) | exact HB.out)))
           (case aF => exact (fun k_ hk => ⟨Kd.fresh' (Kd.R_lt (by (with_reducible repeat (first | apply Kd.R_alloc | apply Kd.R_drewN | apply Kd.R_drew)); exact HO212.out)) k_ hk, Kd.fresh' (Kd.R_lt (by (with_reducible repeat (first | apply Kd.R_alloc | apply Kd.R_drewN | apply Kd.R_drew)); exact HO215.out)) k_ hk, Kd.fresh' (Kd.R_lt (by (with_reducible repeat (first | apply Kd.R_alloc | apply Kd.R_drewN | apply Kd.R_drew)); exact HO218.out)) k_ hk⟩))
           (case aO => exact (by (with_reducible repeat (first | apply Kd.R_alloc | apply Kd.R_drewN | apply Kd.R_drew)); exact HO_9.out))
           (case aS => exact (below_size (by repeat (first | (with_reducible first | exact HB.out | apply below_alloc | apply pw_below_drewN | apply below_drew1) | exact HB.out))))
           (case aL => have := LMc41.out; omega)
           intro v220 w53 ho hb hg hat
           rw [← Ny219.out] at ho
           have n0_ := Aside0.mk (Kd.R_after (ok := (fun k_ => some k_ ≠ (v214 : Value).ownBlock ∧ some k_ ≠ (.slice Ao54 y216.length co54 : Value).ownBlock)) (by (with_reducible repeat (first | apply Kd.R_alloc | apply Kd.R_drewN | apply Kd.R_drew)); exact Kd.R_mono HO212.out (fun _ hk => ⟨⟨hk.1, hk.2.1⟩, hk.2.2⟩)) hg hat)
           have n1_ := Aside0.mk (Kd.R_after (ok := (fun k_ => some k_ ≠ (v211 : Value).ownBlock ∧ some k_ ≠ (.slice Ao54 y216.length co54 : Value).ownBlock)) (by (with_reducible repeat (first | apply Kd.R_alloc | apply Kd.R_drewN | apply Kd.R_drew)); exact Kd.R_mono HO215.out (fun _ hk => ⟨⟨hk.1, hk.2.1⟩, hk.2.2⟩)) hg hat)
           have n2_ := Aside0.mk (Kd.R_after (ok := (fun k_ => some k_ ≠ (v211 : Value).ownBlock ∧ some k_ ≠ (v214 : Value).ownBlock)) (by (with_reducible repeat (first | apply Kd.R_alloc | apply Kd.R_drewN | apply Kd.R_drew)); exact Kd.R_mono HO218.out (fun _ hk => ⟨⟨hk.1, hk.2.1⟩, hk.2.2⟩)) hg hat)
           have n3_ := Aside0.mk (hb)
           have n4_ := Aside0.mk (ho)
           clear HO212
           clear HO215
           clear HO218
           clear HB
           clear HO_9
           have HO212 := n0_
           have HO215 := n1_
           have HO218 := n2_
           have HB := n3_
           have HO221 := n4_
           clear n0_ n1_ n2_ n3_ n4_
           clear ho hb hg hat
           refine hK.out _ _ ⟨((HB.out.cell (World.block_lt_of_cell? w _ hw208_0)).trans hw208_0), ((HB.out.cell (World.block_lt_of_cell? w _ hw209_0)).trans hw209_0)⟩ (fun hHeld => ?_)
           clear hK K
           refine norm_ (a' := ?_) ?_ ?_
           rotate_left
           ·show Act.put _ (some 45) _ = _
            simp only [Act.put, List.setIfInBounds_toArray, List.set_cons_zero, List.set_cons_succ, i64_w, i32_w]
            rfl
           refine pure_ (i := 17) (N := some 8) (v := ?_) (a' := ?_) #[true, true, true, true, true, true, true, true, true, true, true, true, true, true, true, true, true, true, false] rfl rfl (any_of HT_.out (by kernel_rfl)) (fun _ _ _ h => h) (Or.inl ⟨by rfl, ?_⟩) ?_ ?_
           rotate_left
           ·intro w'
            go_simp
            with_reducible rfl
           rotate_left
           ·simp only [Act.put, List.setIfInBounds_toArray, List.set_cons_zero, List.set_cons_succ, i64_w, i32_w]
            rfl
           refine pure_ (i := 18) (N := some 9) (v := ?_) (a' := ?_) #[true, true, true, true, true, true, true, true, true, true, true, true, true, true, true, true, true, true, true] rfl rfl (any_of HT_.out (by kernel_rfl)) (fun _ _ _ h => h) (Or.inl ⟨by rfl, ?_⟩) ?_ ?_
           rotate_left
           ·intro w'
            go_simp
            with_reducible rfl
           rotate_left
           ·simp only [Act.put, List.setIfInBounds_toArray, List.set_cons_zero, List.set_cons_succ, i64_w, i32_w]
            rfl
           refine done_ (done_of HT_.out (by kernel_rfl)) ?_
           try go_wp2
           go_roundg k1
           case measure => have := HK1.out; omega
           case rel => exact ⟨(y213), (y219), (wrap64 (x16_1 + 1)), (by first | rfl | (simp; done) | (simp [*]; done)), H', ⟨by have := HK1.out; omega⟩, ⟨by (with_reducible repeat (first | apply Kd.R_alloc | apply Kd.R_drewN | apply Kd.R_drew)); exact Kd.R_mono HO215.out (fun _ hk => hk.2)⟩, ⟨by (with_reducible repeat (first | apply Kd.R_alloc | apply Kd.R_drewN | apply Kd.R_drew)); exact Kd.R_mono HO221.out (fun _ hk => hk.2.1)⟩, ⟨by repeat (first | (with_reducible first | exact HB.out | apply below_alloc | apply pw_below_drewN | apply below_drew1) | exact HB.out)⟩⟩
          ·rw [if_neg c41] at H
           exact absurd H (by simp)
         ·rw [if_neg c40] at H
          exact absurd H (by simp)
      ·rw [if_neg c11] at H
       exact absurd H (by simp)
     ·rw [if_neg c10] at H
      exact absurd H (by simp)
    ·rw [if_neg c9] at H
     exact absurd H (by simp)
   ·rw [if_neg c8] at H
    have c8b0 : decide (x16_1 < (l1.length : Int)) = false := decide_eq_false c8
    clear c8
    simp only [Option.some.injEq, Prod.mk.injEq] at H
    obtain ⟨rfl, rfl⟩ := H
    go_wp2
    go_ret2
    exact ⟨_, _, by first | rfl | (simp [errW_none, errW_some] <;> rfl) | (simp [*, errW_none, errW_some] <;> rfl), by (with_reducible repeat (first | apply Kd.R_alloc | apply Kd.R_drewN | apply Kd.R_drew)); exact HO_8.out, by (with_reducible repeat (first | apply Kd.R_alloc | apply Kd.R_drewN | apply Kd.R_drew)); exact HO_9.out, by repeat (first | (with_reducible first | exact HB.out | apply below_alloc | apply pw_below_drewN | apply below_drew1) | exact HB.out)⟩
end Go.Proofs.YtmcllndnjdemaaaGreatDoor.PFnEncode
