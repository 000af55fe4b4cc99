/- numbers.Write into any sink. -/
import Derived.Test.YtmcllndnjdemaaaGreatDoorSnkAll
import Derived.Test.YtmcllndnjdemaaaGreatDoorCrcAll
namespace Go.Proofs.YtmcllndnjdemaaaGreatDoor.Walk
set_option linter.unusedVariables false
set_option linter.unusedSimpArgs false
open Go Go.RowKit Go.Proofs.YtmcllndnjdemaaaGreatDoorW.PrintWords Go.Proofs.YtmcllndnjdemaaaGreatDoor.Num
variable {ty fn g B : Nat} {S : List Nat} {St : World → List Int → Prop}
set_option maxHeartbeats 1000000 in
set_option maxRecDepth 100000 in
theorem size16 (w : World) : Calls Tryz.prog 90 #[] w fun e w' => e = .returned (.int .i64 2) ∧ w' = w := by
 have hx : Go.bits .xor .u16 IntKind.u16.max 0 = 65535 := by decide
 go_enter Tryz.func90, Tryz.ntmps90
 go_wp2_with fail
 refine wp_loop_rounds 3 ?_
 rw [rounds_succ]
 go_wp2_with fail
 rw [rounds_succ]
 go_wp2_with fail
 rw [rounds_succ]
 go_wp2_with fail
 go_ret
 exact ⟨rfl, rfl⟩
theorem make1 : ∀ W : World, (Instr.makeSlice 23 (.int .i64 1) (.int .i64 1)).run Tryz.prog W = .ok (.slice (some ⟨W.heap.size, 0, none⟩) 1 1) (W.alloc (.cells #[.int .u8 0] 5)) := fun W => by kernel_rfl
theorem make2 : ∀ W : World, (Instr.makeSlice 23 (.int .i64 2) (.int .i64 2)).run Tryz.prog W = .ok (.slice (some ⟨W.heap.size, 0, none⟩) 2 2) (W.alloc (.cells #[.int .u8 0, .int .u8 0] 5)) := fun W => by kernel_rfl
set_option maxHeartbeats 1000000 in
set_option maxRecDepth 100000 in
theorem num_write8 (R : Snk ty fn g B S St) (x : Nat) (xs : List Int) (w : World) (h : St w xs) (hB : B ≤ w.heap.size) (hx : x < 256) (hlim : xs.length ≤ 70000000000000) :
  Calls Tryz.prog 80 #[.iface ty (.pointer (some ⟨g, 0, none⟩)), .int .u8 x] w fun e w' =>
   e = .returned .nilIface ∧ St w' (xs ++ [(x : Int)]) ∧ Kp B S w w' := by
 have h1 := R.nilA
 have h2 := R.meth
 have h4 := R.call
 have hmk := make1
 have hS : w.heap.size ∉ S := fun hm => by have := (R.lt w _ h _ hm).1; omega
 have HH := Lib.hid h
 have HS := Lib.hid hS
 have hm0 : (x : Int) % 256 = (x : Int) := by omega
 clear h hS
 go_enter Tryz.func80, Tryz.ntmps80
 go_wp2_with fail
 refine (size8 w).mono ?_
 rintro e w0 ⟨rfl, rfl⟩
 go_wp2_with fail
 have t0 := (Touch.refl [] w0).alloc (.cells #[.int .u8 0] 5)
 have hk0 : Kp B S w0 (w0.alloc (.cells #[.int .u8 0] 5)) := (Kp.refl B S w0).alloc hB _
 have hb0 := heap_alloc_new w0 (.cells #[.int .u8 0] 5)
 obtain ⟨g1, hg⟩ : ∃ g1, w0.heap.size = g1 := ⟨_, rfl⟩
 obtain ⟨w1, hw1⟩ : ∃ w1, w0.alloc (.cells #[.int .u8 0] 5) = w1 := ⟨_, rfl⟩
 rw [hw1] at t0 hk0 hb0
 rw [hw1]
 rw [hg] at HS hb0
 rw [hg]
 have f0 : w1.frozen? ⟨g1, 0, none⟩ = false := by simp [World.frozen?, hb0]
 have c0 : w1.cell? ⟨g1, 0, none⟩ = some (.int .u8 0) := by rw [cell_of_row w1 g1 0 _ _ _ hb0]; rfl
 have P1 := Lib.hid (And.intro t0 (And.intro hk0 hb0))
 have HG := Lib.hid hg
 clear t0 hk0 hb0 hw1 hg
 refine wp_loop_rounds 2 ?_
 rw [rounds_succ]
 go_wp2_with fail
 rw [rounds_succ]
 go_wp2_with fail
 have t1 := P1.out.1.setCell (p := ⟨g1, 0, none⟩) (.inr (by rw [HG.out]; exact Nat.le_refl _)) (.int .u8 x)
 have hb1 := blk_set (w := w1) P1.out.2.2 0 (.int .u8 x)
 have hst := R.move [] w0 _ xs HH.out t1 (by simp)
 have hk1 : Kp B S w0 (w1.setCell ⟨g1, 0, none⟩ (.int .u8 x)) := (Kp.of_touch t1 (by simp) hB).mono (by simp)
 refine (R.write _ xs [(x : Int)] ⟨g1, 0, none⟩ 1 1 hst (Nat.le_trans hB hk1.bel.size) ⟨rfl, by decide, fun _ => ⟨_, rfl, fun i hi => by
   obtain rfl : i = 0 := by omega
   show World.cell? _ ⟨g1, 0, none⟩ = _
   rw [cell_of_row _ g1 0 _ _ _ hb1]; rfl⟩⟩ (by decide) HS.out (by simp; omega) (by omega)).mono ?_
 rintro e w2 ⟨rfl, hb2, hbe⟩
 have X := Lib.hid (And.intro hb2 (hk1.trans hbe))
 clear hb2 hbe hk1 hst hb1 t1
 go_wp2_with fail
 go_ret
 exact ⟨rfl, X.out⟩
set_option maxHeartbeats 1000000 in
set_option maxRecDepth 100000 in
theorem num_write16 (R : Snk ty fn g B S St) (x : Nat) (xs : List Int) (w : World) (h : St w xs) (hB : B ≤ w.heap.size) (hx : x < 65536) (hlim : xs.length ≤ 70000000000000) :
  Calls Tryz.prog 47 #[.iface ty (.pointer (some ⟨g, 0, none⟩)), .int .u16 x] w fun e w' =>
   e = .returned .nilIface ∧ St w' (xs ++ [((x / 256 : Nat) : Int), ((x % 256 : Nat) : Int)]) ∧ Kp B S w w' := by
 have h1 := R.nilA
 have h2 := R.meth
 have h4 := R.call
 have hmk := make2
 have hS : w.heap.size ∉ S := fun hm => by have := (R.lt w _ h _ hm).1; omega
 have HH := Lib.hid h
 have HS := Lib.hid hS
 obtain ⟨q, hq⟩ : ∃ q, x / 256 = q := ⟨_, rfl⟩
 obtain ⟨r, hr⟩ : ∃ r, x % 256 = r := ⟨_, rfl⟩
 have hq1 : (x : Int) / 256 = (q : Int) := by omega
 have hq2 : (q : Int) % 256 = (q : Int) := by omega
 have hr1 : (x : Int) % 256 = (r : Int) := by omega
 have hqb : q < 256 := by omega
 have hrb : r < 256 := by omega
 rw [hq, hr]
 clear hq hr
 clear h hS
 go_enter Tryz.func47, Tryz.ntmps47
 go_wp2_with fail
 refine (size16 w).mono ?_
 rintro e w0 ⟨rfl, rfl⟩
 go_wp2_with fail
 have t0 := (Touch.refl [] w0).alloc (.cells #[.int .u8 0, .int .u8 0] 5)
 have hk0 : Kp B S w0 (w0.alloc (.cells #[.int .u8 0, .int .u8 0] 5)) := (Kp.refl B S w0).alloc hB _
 have hb0 := heap_alloc_new w0 (.cells #[.int .u8 0, .int .u8 0] 5)
 obtain ⟨g1, hg⟩ : ∃ g1, w0.heap.size = g1 := ⟨_, rfl⟩
 obtain ⟨w1, hw1⟩ : ∃ w1, w0.alloc (.cells #[.int .u8 0, .int .u8 0] 5) = w1 := ⟨_, rfl⟩
 rw [hw1] at t0 hk0 hb0
 rw [hw1]
 rw [hg] at HS hb0
 rw [hg]
 have f0 : w1.frozen? ⟨g1, 0, none⟩ = false := by simp [World.frozen?, hb0]
 have f1 : w1.frozen? ⟨g1, 1, none⟩ = false := by simp [World.frozen?, hb0]
 have c1 : w1.cell? ⟨g1, 1, none⟩ = some (.int .u8 0) := by rw [cell_of_row w1 g1 1 _ _ _ hb0]; rfl
 have c0 : w1.cell? ⟨g1, 0, none⟩ = some (.int .u8 0) := by rw [cell_of_row w1 g1 0 _ _ _ hb0]; rfl
 have P1 := Lib.hid (And.intro t0 (And.intro hk0 hb0))
 have HG := Lib.hid hg
 clear t0 hk0 hb0 hw1 hg
 refine wp_loop_rounds 3 ?_
 rw [rounds_succ]
 go_wp2_with fail
 rw [rounds_succ]
 go_wp2_with fail
 rw [rounds_succ]
 go_wp2_with fail
 have t1 := (P1.out.1.setCell (p := ⟨g1, 0, none⟩) (.inr (by rw [HG.out]; exact Nat.le_refl _)) (.int .u8 q)).setCell (p := ⟨g1, 1, none⟩) (.inr (by rw [HG.out]; exact Nat.le_refl _)) (.int .u8 r)
 have hb1 := blk_set (blk_set (w := w1) P1.out.2.2 0 (.int .u8 q)) 1 (.int .u8 r)
 have hst := R.move [] w0 _ xs HH.out t1 (by simp)
 have hk1 : Kp B S w0 ((w1.setCell ⟨g1, 0, none⟩ (.int .u8 q)).setCell ⟨g1, 1, none⟩ (.int .u8 r)) := (Kp.of_touch t1 (by simp) hB).mono (by simp)
 refine (R.write _ xs [(q : Int), (r : Int)] ⟨g1, 0, none⟩ 2 2 hst (Nat.le_trans hB hk1.bel.size) ⟨rfl, by decide, fun _ => ⟨_, rfl, fun i hi => by
   rcases i with _ | _ | i
   ·show World.cell? _ ⟨g1, 0, none⟩ = _
    rw [cell_of_row _ g1 0 _ _ _ hb1]; rfl
   ·show World.cell? _ ⟨g1, 1, none⟩ = _
    rw [cell_of_row _ g1 1 _ _ _ hb1]; rfl
   ·omega⟩⟩ (by decide) HS.out (by simp; omega) (by omega)).mono ?_
 rintro e w2 ⟨rfl, hb2, hbe⟩
 have X := Lib.hid (And.intro hb2 (hk1.trans hbe))
 clear hb2 hbe hk1 hst hb1 t1
 go_wp2_with fail
 go_ret
 exact ⟨rfl, X.out⟩
end Go.Proofs.YtmcllndnjdemaaaGreatDoor.Walk
