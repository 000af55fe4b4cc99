/- spec.Way.Fit and (*spec.writer).channel, of the way 'verbatim'. -/
import Derived.Test.YtmcllndnjdemaaaGreatDoorSq
namespace Go.Proofs.YtmcllndnjdemaaaGreatDoor.Walk
set_option linter.unusedVariables false
set_option linter.unusedSimpArgs false
open Go Go.RowKit Go.Proofs.YtmcllndnjdemaaaGreatDoorW.PrintWords Go.Proofs.YtmcllndnjdemaaaGreatDoorW.PrintLast Go.Proofs.YtmcllndnjdemaaaGreatDoorW.PrintMore Go.Proofs.YtmcllndnjdemaaaGreatDoor.Num Go.Proofs.YtmcllndnjdemaaaGreatDoor.Crc Go.Proofs.YtmcllndnjdemaaaGreatDoor.PFnEncode
set_option maxHeartbeats 4000000 in
theorem st_way {w : World} {g : Nat} (h : w.heap[g]? = some (.cells #[.int .i64 0, .int .i64 0, .int .i64 0, .slice none 0 0, .int .i64 0, .int .i64 0, .int .i64 0, .int .i64 0, .bool false, .int .i64 0] 51 (0, 0))) :
  ∃ wz, ((((((((((w.setCell ⟨g, 0, none⟩ (.int .i64 1)).setCell ⟨g, 1, none⟩ (.int .i64 0)).setCell ⟨g, 2, none⟩ (.int .i64 0)).setCell ⟨g, 3, none⟩ (.slice none 0 0)).setCell ⟨g, 4, none⟩ (.int .i64 0)).setCell ⟨g, 5, none⟩ (.int .i64 0)).setCell ⟨g, 6, none⟩ (.int .i64 0)).setCell ⟨g, 7, none⟩ (.int .i64 0)).setCell ⟨g, 8, none⟩ (.bool false)).setCell ⟨g, 9, none⟩ (.int .i64 0)) = wz ∧ Touch [g] w wz ∧ wz.heap[g]? = some (.cells #[.int .i64 1, .int .i64 0, .int .i64 0, .slice none 0 0, .int .i64 0, .int .i64 0, .int .i64 0, .int .i64 0, .bool false, .int .i64 0] 51 (0, 0)) := by
 have z0 := blk_set h 0 (.int .i64 1)
 have z1 := blk_set z0 1 (.int .i64 0)
 have z2 := blk_set z1 2 (.int .i64 0)
 have z3 := blk_set z2 3 (.slice none 0 0)
 have z4 := blk_set z3 4 (.int .i64 0)
 have z5 := blk_set z4 5 (.int .i64 0)
 have z6 := blk_set z5 6 (.int .i64 0)
 have z7 := blk_set z6 7 (.int .i64 0)
 have z8 := blk_set z7 8 (.bool false)
 have z9 := blk_set z8 9 (.int .i64 0)
 obtain ⟨wz, hwz⟩ : ∃ wz, ((((((((((w.setCell ⟨g, 0, none⟩ (.int .i64 1)).setCell ⟨g, 1, none⟩ (.int .i64 0)).setCell ⟨g, 2, none⟩ (.int .i64 0)).setCell ⟨g, 3, none⟩ (.slice none 0 0)).setCell ⟨g, 4, none⟩ (.int .i64 0)).setCell ⟨g, 5, none⟩ (.int .i64 0)).setCell ⟨g, 6, none⟩ (.int .i64 0)).setCell ⟨g, 7, none⟩ (.int .i64 0)).setCell ⟨g, 8, none⟩ (.bool false)).setCell ⟨g, 9, none⟩ (.int .i64 0)) = wz := ⟨_, rfl⟩
 have hb := (((((((((((Touch.refl [g] w).setCell (p := ⟨g, 0, none⟩) (.inl (by simp)) (.int .i64 1)).setCell (p := ⟨g, 1, none⟩) (.inl (by simp)) (.int .i64 0)).setCell (p := ⟨g, 2, none⟩) (.inl (by simp)) (.int .i64 0)).setCell (p := ⟨g, 3, none⟩) (.inl (by simp)) (.slice none 0 0)).setCell (p := ⟨g, 4, none⟩) (.inl (by simp)) (.int .i64 0)).setCell (p := ⟨g, 5, none⟩) (.inl (by simp)) (.int .i64 0)).setCell (p := ⟨g, 6, none⟩) (.inl (by simp)) (.int .i64 0)).setCell (p := ⟨g, 7, none⟩) (.inl (by simp)) (.int .i64 0)).setCell (p := ⟨g, 8, none⟩) (.inl (by simp)) (.bool false)).setCell (p := ⟨g, 9, none⟩) (.inl (by simp)) (.int .i64 0))
 rw [hwz] at z9 hb
 exact ⟨wz, hwz, hb, by rw [z9]; simp only [List.setIfInBounds_toArray, List.set_cons_zero, List.set_cons_succ]⟩
set_option maxHeartbeats 16000000 in
set_option maxRecDepth 100000 in
theorem fit_1 {A : Option Addr} {n c : Nat} {xs : List Int} {bits : Nat} {w : World} (hs : ReadsInt w .i64 A n xs) (hn0 : 0 < n) (hn : n ≤ 100000) :
  Calls Tryz.prog 29 #[.agg #[.int .i64 1, .int .i64 0, .int .i64 0, .slice none 0 0, .int .i64 0, .int .i64 0, .int .i64 0, .int .i64 0, .bool false, .int .i64 0], .slice A n c, .int .i64 bits] w fun e w' => Below w.heap.size w w' ∧ e = .returned (.agg #[.int .i64 1, .int .i64 0, .int .i64 0, .slice none 0 0, .int .i64 0, .int .i64 0, .int .i64 0, .int .i64 0, .bool false, .int .i64 0]) := by
 obtain ⟨N, hN⟩ : ∃ N, w.heap.size = N := ⟨_, rfl⟩
 rw [hN]
 obtain ⟨ad, rfl, hcell⟩ := hs.2.2 hn0
 have HC := Lib.hid hcell
 clear hs hcell
 go_enter Tryz.func29, Tryz.ntmps29
 go_wp2_with fail
 obtain ⟨wa, hwa⟩ : ∃ wa, (w.alloc (.cells #[.int .i64 1, .int .i64 0, .int .i64 0, .slice none 0 0, .int .i64 0, .int .i64 0, .int .i64 0, .int .i64 0, .bool false, .int .i64 0] 51)).alloc (.cells #[.int .i64 0, .int .i64 0, .int .i64 0, .slice none 0 0, .int .i64 0, .int .i64 0, .int .i64 0, .int .i64 0, .bool false, .int .i64 0] 51) = wa := ⟨_, rfl⟩
 have hba : Below N w wa := by rw [← hwa, ← hN]; exact below_alloc (below_alloc (Below.refl _ _) _) _
 have hsa : (w.alloc (.cells #[.int .i64 1, .int .i64 0, .int .i64 0, .slice none 0 0, .int .i64 0, .int .i64 0, .int .i64 0, .int .i64 0, .bool false, .int .i64 0] 51)).heap.size = N + 1 := by rw [World.size_alloc, hN]
 have hw1 : wa.heap[N]? = some (.cells #[.int .i64 1, .int .i64 0, .int .i64 0, .slice none 0 0, .int .i64 0, .int .i64 0, .int .i64 0, .int .i64 0, .bool false, .int .i64 0] 51 (0, 0)) := by rw [← hwa, Below.heap_alloc _ _ _ (by rw [hsa]; omega), ← hN]; exact heap_alloc_new _ _
 have hr1 : wa.heap[N + 1]? = some (.cells #[.int .i64 0, .int .i64 0, .int .i64 0, .slice none 0 0, .int .i64 0, .int .i64 0, .int .i64 0, .int .i64 0, .bool false, .int .i64 0] 51 (0, 0)) := by rw [← hwa, ← hsa]; exact heap_alloc_new _ _
 rw [hwa]
 have HX := Lib.hid (fun i (hi : i < n) => show wa.cell? (ad.add i) = some (.int .i64 (xs.getD i 0)) from (hba.cell (by rw [← hN]; exact World.block_lt_of_cell? w _ (HC.out i hi))).trans (HC.out i hi))
 have X := Lib.hid (And.intro hba (And.intro hw1 hr1))
 clear hwa hba hsa HC
 have c0 : wa.cell? ⟨N, 0, none⟩ = some (.int .i64 1) := by rw [cell_of_row wa N 0 _ _ _ hw1]; rfl
 have f0 : wa.frozen? ⟨N, 0, none⟩ = false := by simp [World.frozen?, hw1]
 have c1 : wa.cell? ⟨N, 1, none⟩ = some (.int .i64 0) := by rw [cell_of_row wa N 1 _ _ _ hw1]; rfl
 have f1 : wa.frozen? ⟨N, 1, none⟩ = false := by simp [World.frozen?, hw1]
 have c2 : wa.cell? ⟨N, 2, none⟩ = some (.int .i64 0) := by rw [cell_of_row wa N 2 _ _ _ hw1]; rfl
 have f2 : wa.frozen? ⟨N, 2, none⟩ = false := by simp [World.frozen?, hw1]
 have c3 : wa.cell? ⟨N, 3, none⟩ = some (.slice none 0 0) := by rw [cell_of_row wa N 3 _ _ _ hw1]; rfl
 have f3 : wa.frozen? ⟨N, 3, none⟩ = false := by simp [World.frozen?, hw1]
 have c4 : wa.cell? ⟨N, 4, none⟩ = some (.int .i64 0) := by rw [cell_of_row wa N 4 _ _ _ hw1]; rfl
 have f4 : wa.frozen? ⟨N, 4, none⟩ = false := by simp [World.frozen?, hw1]
 have c5 : wa.cell? ⟨N, 5, none⟩ = some (.int .i64 0) := by rw [cell_of_row wa N 5 _ _ _ hw1]; rfl
 have f5 : wa.frozen? ⟨N, 5, none⟩ = false := by simp [World.frozen?, hw1]
 have c6 : wa.cell? ⟨N, 6, none⟩ = some (.int .i64 0) := by rw [cell_of_row wa N 6 _ _ _ hw1]; rfl
 have f6 : wa.frozen? ⟨N, 6, none⟩ = false := by simp [World.frozen?, hw1]
 have c7 : wa.cell? ⟨N, 7, none⟩ = some (.int .i64 0) := by rw [cell_of_row wa N 7 _ _ _ hw1]; rfl
 have f7 : wa.frozen? ⟨N, 7, none⟩ = false := by simp [World.frozen?, hw1]
 have c8 : wa.cell? ⟨N, 8, none⟩ = some (.bool false) := by rw [cell_of_row wa N 8 _ _ _ hw1]; rfl
 have f8 : wa.frozen? ⟨N, 8, none⟩ = false := by simp [World.frozen?, hw1]
 have c9 : wa.cell? ⟨N, 9, none⟩ = some (.int .i64 0) := by rw [cell_of_row wa N 9 _ _ _ hw1]; rfl
 have f9 : wa.frozen? ⟨N, 9, none⟩ = false := by simp [World.frozen?, hw1]
 go_loopw [7, 16] (fun lv iv wx => ∃ (x : Int) (i : Nat), lv = .int .i64 x ∧ iv = .int .i64 i ∧ i ≤ n ∧ wx = wa) (fun _ iv _ => n - (intOf iv).toNat)
 case atStart => exact ⟨0, 0, rfl, rfl, by omega, rfl⟩
 case round =>
  obtain ⟨x, i, rfl, rfl, hi, rfl⟩ := hrel
  by_cases hlt : i < n
  ·have e1 := HX.out i hlt
   clear hw1 hr1
   go_wp2_with fail
   go_roundw
   case rel => exact ⟨_, i + 1, rfl, by go_num, by omega, by trivial⟩
   case measure => simp [intOf]; omega
  ·obtain rfl : i = n := by omega
   clear hw1 hr1
   go_wp2_with fail
   refine wp_loop_rounds 1 ?_
   rw [rounds_succ]
   go_wp2_with fail
   go_loopw [48] (fun iv wx => ∃ j : Nat, iv = .int .i64 j ∧ j ≤ i ∧ wx = wr) (fun iv _ => i - (intOf iv).toNat)
   case atStart => exact ⟨0, rfl, by omega, rfl⟩
   case round =>
    rename_i wold _
    obtain ⟨j, rfl, hj, rfl⟩ := hrel
    by_cases hlt2 : j < i
    ·have e1 := HX.out j hlt2
     go_wp2_with fail
     go_roundw
     case rel => exact ⟨j + 1, by go_num, by omega, by trivial⟩
     case measure => simp [intOf]; omega
    ·obtain rfl : j = i := by omega
     have hmin : min (0 : Int) ((j : Int) - 1) = 0 := by omega
     go_upto_region 15 with fail
     go_wp2_with fail
     have z1 := blk_set X.out.2.1 1 (.int .i64 0)
     have z2 := blk_set z1 3 (.slice none 0 0)
     have t2 := (((Touch.refl [N] wr).setCell (p := ⟨N, 1, none⟩) (.inl (by simp)) (.int .i64 0)).setCell (p := ⟨N, 3, none⟩) (.inl (by simp)) (.slice none 0 0))
     obtain ⟨w2, hw2⟩ : ∃ w2, (wr.setCell ⟨N, 1, none⟩ (.int .i64 0)).setCell ⟨N, 3, none⟩ (.slice none 0 0) = w2 := ⟨_, rfl⟩
     rw [hw2] at z2 t2 ⊢
     simp only [List.setIfInBounds_toArray, List.set_cons_zero, List.set_cons_succ] at z2
     have hr2 := t2.heap X.out.2.2 (by simp)
     have X2 := Lib.hid (And.intro z2 (And.intro t2 hr2))
     clear hw2 z1 t2 hr2 c0 f0 c1 f1 c2 f2 c3 f3 c4 f4 c5 f5 c6 f6 c7 f7 c8 f8 c9 f9
     have cp0 : w2.cell? ⟨N, 0, none⟩ = some (.int .i64 1) := by rw [cell_of_row w2 N 0 _ _ _ z2]; rfl
     have fp0 : w2.frozen? ⟨N, 0, none⟩ = false := by simp [World.frozen?, z2]
     have cp1 : w2.cell? ⟨N, 1, none⟩ = some (.int .i64 0) := by rw [cell_of_row w2 N 1 _ _ _ z2]; rfl
     have fp1 : w2.frozen? ⟨N, 1, none⟩ = false := by simp [World.frozen?, z2]
     have cp2 : w2.cell? ⟨N, 2, none⟩ = some (.int .i64 0) := by rw [cell_of_row w2 N 2 _ _ _ z2]; rfl
     have fp2 : w2.frozen? ⟨N, 2, none⟩ = false := by simp [World.frozen?, z2]
     have cp3 : w2.cell? ⟨N, 3, none⟩ = some (.slice none 0 0) := by rw [cell_of_row w2 N 3 _ _ _ z2]; rfl
     have fp3 : w2.frozen? ⟨N, 3, none⟩ = false := by simp [World.frozen?, z2]
     have cp4 : w2.cell? ⟨N, 4, none⟩ = some (.int .i64 0) := by rw [cell_of_row w2 N 4 _ _ _ z2]; rfl
     have fp4 : w2.frozen? ⟨N, 4, none⟩ = false := by simp [World.frozen?, z2]
     have cp5 : w2.cell? ⟨N, 5, none⟩ = some (.int .i64 0) := by rw [cell_of_row w2 N 5 _ _ _ z2]; rfl
     have fp5 : w2.frozen? ⟨N, 5, none⟩ = false := by simp [World.frozen?, z2]
     have cp6 : w2.cell? ⟨N, 6, none⟩ = some (.int .i64 0) := by rw [cell_of_row w2 N 6 _ _ _ z2]; rfl
     have fp6 : w2.frozen? ⟨N, 6, none⟩ = false := by simp [World.frozen?, z2]
     have cp7 : w2.cell? ⟨N, 7, none⟩ = some (.int .i64 0) := by rw [cell_of_row w2 N 7 _ _ _ z2]; rfl
     have fp7 : w2.frozen? ⟨N, 7, none⟩ = false := by simp [World.frozen?, z2]
     have cp8 : w2.cell? ⟨N, 8, none⟩ = some (.bool false) := by rw [cell_of_row w2 N 8 _ _ _ z2]; rfl
     have fp8 : w2.frozen? ⟨N, 8, none⟩ = false := by simp [World.frozen?, z2]
     have cp9 : w2.cell? ⟨N, 9, none⟩ = some (.int .i64 0) := by rw [cell_of_row w2 N 9 _ _ _ z2]; rfl
     have fp9 : w2.frozen? ⟨N, 9, none⟩ = false := by simp [World.frozen?, z2]
     clear z2
     refine wp_loop_rounds 1 ?_
     rw [rounds_succ]
     go_wp2_with fail
     go_quiet (fail)
     have r0 : w2.cell? ⟨N + 1, 0, none⟩ = some (.int .i64 0) := by rw [cell_of_row w2 (N + 1) 0 _ _ _ X2.out.2.2]; rfl
     have s0 : w2.frozen? ⟨N + 1, 0, none⟩ = false := by simp [World.frozen?, X2.out.2.2]
     have r1 : w2.cell? ⟨N + 1, 1, none⟩ = some (.int .i64 0) := by rw [cell_of_row w2 (N + 1) 1 _ _ _ X2.out.2.2]; rfl
     have s1 : w2.frozen? ⟨N + 1, 1, none⟩ = false := by simp [World.frozen?, X2.out.2.2]
     have r2 : w2.cell? ⟨N + 1, 2, none⟩ = some (.int .i64 0) := by rw [cell_of_row w2 (N + 1) 2 _ _ _ X2.out.2.2]; rfl
     have s2 : w2.frozen? ⟨N + 1, 2, none⟩ = false := by simp [World.frozen?, X2.out.2.2]
     have r3 : w2.cell? ⟨N + 1, 3, none⟩ = some (.slice none 0 0) := by rw [cell_of_row w2 (N + 1) 3 _ _ _ X2.out.2.2]; rfl
     have s3 : w2.frozen? ⟨N + 1, 3, none⟩ = false := by simp [World.frozen?, X2.out.2.2]
     have r4 : w2.cell? ⟨N + 1, 4, none⟩ = some (.int .i64 0) := by rw [cell_of_row w2 (N + 1) 4 _ _ _ X2.out.2.2]; rfl
     have s4 : w2.frozen? ⟨N + 1, 4, none⟩ = false := by simp [World.frozen?, X2.out.2.2]
     have r5 : w2.cell? ⟨N + 1, 5, none⟩ = some (.int .i64 0) := by rw [cell_of_row w2 (N + 1) 5 _ _ _ X2.out.2.2]; rfl
     have s5 : w2.frozen? ⟨N + 1, 5, none⟩ = false := by simp [World.frozen?, X2.out.2.2]
     have r6 : w2.cell? ⟨N + 1, 6, none⟩ = some (.int .i64 0) := by rw [cell_of_row w2 (N + 1) 6 _ _ _ X2.out.2.2]; rfl
     have s6 : w2.frozen? ⟨N + 1, 6, none⟩ = false := by simp [World.frozen?, X2.out.2.2]
     have r7 : w2.cell? ⟨N + 1, 7, none⟩ = some (.int .i64 0) := by rw [cell_of_row w2 (N + 1) 7 _ _ _ X2.out.2.2]; rfl
     have s7 : w2.frozen? ⟨N + 1, 7, none⟩ = false := by simp [World.frozen?, X2.out.2.2]
     have r8 : w2.cell? ⟨N + 1, 8, none⟩ = some (.bool false) := by rw [cell_of_row w2 (N + 1) 8 _ _ _ X2.out.2.2]; rfl
     have s8 : w2.frozen? ⟨N + 1, 8, none⟩ = false := by simp [World.frozen?, X2.out.2.2]
     have r9 : w2.cell? ⟨N + 1, 9, none⟩ = some (.int .i64 0) := by rw [cell_of_row w2 (N + 1) 9 _ _ _ X2.out.2.2]; rfl
     have s9 : w2.frozen? ⟨N + 1, 9, none⟩ = false := by simp [World.frozen?, X2.out.2.2]
     go_wp2_with fail
     obtain ⟨wz, hwz, tz, hz⟩ := st_way (w := w2.drewN nq) (g := N + 1) X2.out.2.2
     rw [hwz]
     have hbz : Below N w wz := by
      have h1 := X2.out.2.1.below (w0 := w) (by rw [hN]; exact X.out.1) (fun k hk => by
       obtain rfl : k = N := by simpa using hk
       rw [hN]; exact Nat.le_refl _)
      have h2 := tz.below (w0 := w) (below_drewN h1 nq) (fun k hk => by
       obtain rfl : k = N + 1 := by simpa using hk
       rw [hN]; omega)
      rw [hN] at h2; exact h2
     have t0 : wz.cell? ⟨N + 1, 0, none⟩ = some (.int .i64 1) := by rw [cell_of_row wz (N + 1) 0 _ _ _ hz]; rfl
     have t1 : wz.cell? ⟨N + 1, 1, none⟩ = some (.int .i64 0) := by rw [cell_of_row wz (N + 1) 1 _ _ _ hz]; rfl
     have t2 : wz.cell? ⟨N + 1, 2, none⟩ = some (.int .i64 0) := by rw [cell_of_row wz (N + 1) 2 _ _ _ hz]; rfl
     have t3 : wz.cell? ⟨N + 1, 3, none⟩ = some (.slice none 0 0) := by rw [cell_of_row wz (N + 1) 3 _ _ _ hz]; rfl
     have t4 : wz.cell? ⟨N + 1, 4, none⟩ = some (.int .i64 0) := by rw [cell_of_row wz (N + 1) 4 _ _ _ hz]; rfl
     have t5 : wz.cell? ⟨N + 1, 5, none⟩ = some (.int .i64 0) := by rw [cell_of_row wz (N + 1) 5 _ _ _ hz]; rfl
     have t6 : wz.cell? ⟨N + 1, 6, none⟩ = some (.int .i64 0) := by rw [cell_of_row wz (N + 1) 6 _ _ _ hz]; rfl
     have t7 : wz.cell? ⟨N + 1, 7, none⟩ = some (.int .i64 0) := by rw [cell_of_row wz (N + 1) 7 _ _ _ hz]; rfl
     have t8 : wz.cell? ⟨N + 1, 8, none⟩ = some (.bool false) := by rw [cell_of_row wz (N + 1) 8 _ _ _ hz]; rfl
     have t9 : wz.cell? ⟨N + 1, 9, none⟩ = some (.int .i64 0) := by rw [cell_of_row wz (N + 1) 9 _ _ _ hz]; rfl
     exact bodyPost_ret (v := .agg #[.int .i64 1, .int .i64 0, .int .i64 0, .slice none 0 0, .int .i64 0, .int .i64 0, .int .i64 0, .int .i64 0, .bool false, .int .i64 0]) (by simp [results, Tryz.results29, go_sem, t0, t1, t2, t3, t4, t5, t6, t7, t8, t9]) rfl ⟨hbz, rfl⟩
end Go.Proofs.YtmcllndnjdemaaaGreatDoor.Walk
