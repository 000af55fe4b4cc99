/- impl.subframe: a subframe for the package. -/
import Derived.Test.YtmcllndnjdemaaaGreatDoorEl
import Derived.Deep.AppendLies
import Derived.Deep.RegionLaw
import Derived.Test.YtmcllndnjdemaaaGreatDoorHk
import Derived.BigRegion
import Derived.Laws.AppendOwnNone
namespace Go.Proofs.YtmcllndnjdemaaaGreatDoor.Walk
set_option linter.unusedVariables false
set_option linter.unusedSimpArgs false
open Go Go.RowKit Go.Proofs.YtmcllndnjdemaaaGreatDoorW.PrintWords Go.Proofs.YtmcllndnjdemaaaGreatDoorW.PrintLast Go.Proofs.YtmcllndnjdemaaaGreatDoorW.PrintMore Go.Proofs.YtmcllndnjdemaaaGreatDoor.Num
set_option maxHeartbeats 1000000 in
set_option maxRecDepth 100000 in
theorem prec_nil (w : World) : Calls Tryz.prog 37 #[.slice none 0 0] w fun e w' => e = .returned (.int .u64 1) ∧ w = w' := by
 go_enter Tryz.func37, Tryz.ntmps37
 go_wp2_with fail
 refine wp_loop_rounds 1 ?_
 rw [rounds_succ]
 go_wp2_with fail
 go_ret
 exact ⟨rfl, rfl⟩
theorem info_i32 : ∃ i, Tryz.prog.info? 21 = some i ∧ i.zero = some (.int .i32 0) ∧ i.size = 1 ∧ i.bytes = 4 := by
 have h := infoI32
 rcases hi : Tryz.prog.info? 21 with _ | i
 ·rw [hi] at h; cases h
 ·rw [hi] at h
  simp only [Option.map_some, Option.some.injEq, Prod.mk.injEq] at h
  exact ⟨i, rfl, h⟩
theorem info_part : ∃ i, Tryz.prog.info? 141 = some i ∧ i.zero = some (.agg #[.int .u64 0, .int .u64 0]) ∧ i.size = 2 ∧ i.bytes = 16 := by
 have h : (Tryz.prog.info? 141).map (fun i => (i.zero, i.size, i.bytes)) = some (some (.agg #[.int .u64 0, .int .u64 0]), 2, 16) := by kernel_rfl
 rcases hi : Tryz.prog.info? 141 with _ | i
 ·rw [hi] at h; cases h
 ·rw [hi] at h
  simp only [Option.map_some, Option.some.injEq, Prod.mk.injEq] at h
  exact ⟨i, rfl, h⟩
theorem own_nil32 (w : World) : (w.alloc (.cells #[] 21)).ownsRow 0 21 1 (.slice (some ⟨w.heap.size, 0, none⟩) 0 0) 0 [] :=
 World.ownsRow_made w #[] 0 (Nat.zero_le _) (by decide) rfl
theorem grown_below {wa w2 : World} {o : Obj} (hG : (wa.alloc o).grownBy w2 (some wa.heap.size)) : Below wa.heap.size wa w2 :=
 ⟨hG.os, hG.tape, hG.output, Nat.le_trans (by rw [World.size_alloc]; omega) hG.size, fun k hk => (hG.block k (by rw [World.size_alloc]; omega) (by simp; omega)).trans (Below.heap_alloc wa o k hk)⟩
theorem own_row32 {w : World} {B n ca ga : Nat} {xs : List Int} (h : w.ownsRow B 21 1 (.slice (some ⟨ga, 0, none⟩) n ca) n (nums .i32 xs)) (hn : 0 < n) (hx : xs.length = n) : Row32 w ga xs ∧ n ≤ ca := by
 refine ⟨?_, own_cap h⟩
 obtain ⟨g, cap, cs, hv, _, hg, hcs⟩ := own_cells h hn
 injection hv with hv _ _
 injection hv with hv
 injection hv with hv _ _
 subst hv
 refine ⟨cs, hg, fun i hi => ?_⟩
 rw [hcs i (by omega)]
 simp [nums, hi]
set_option maxHeartbeats 4000000 in
set_option maxRecDepth 100000 in
theorem impl_sub {gx cx gq cq K o : Nat} {xs : List Int} {w : World} (hK : K ≤ 2) (ho : o ≤ 4) (hx0 : 0 < xs.length) (hx : xs.length ≤ 65536) (hr : Row32 w gx xs) (hq : w.cell? ⟨gq, 0, none⟩ = some (.int .i64 12)) :
  Calls Tryz.prog 17 #[.agg #[.int .i64 K, .int .i64 o, .int .i64 0, .slice (some ⟨gx, 0, none⟩) xs.length cx, .slice none 0 0, .int .i64 0, .int .i64 0, .int .i64 0, .slice (some ⟨gq, 0, none⟩) 1 cq]] w fun e w' =>
   Below w.heap.size w w' ∧ ∃ gs ga gr gp, e = .returned (.pointer (some ⟨gs, 0, none⟩)) ∧ w.heap.size ≤ gs ∧ SubMem w' gs ga gr gp K o xs := by
 obtain ⟨n, hn⟩ : ∃ n, xs.length = n := ⟨_, rfl⟩
 have HNX := Lib.hid hn
 rw [hn] at hx0 hx ⊢
 obtain ⟨wa, hwa⟩ : ∃ wa, w.alloc (.cells #[.int .i64 K, .int .i64 o, .int .i64 0, .slice (some ⟨gx, 0, none⟩) n cx, .slice none 0 0, .int .i64 0, .int .i64 0, .int .i64 0, .slice (some ⟨gq, 0, none⟩) 1 cq] 59) = wa := ⟨_, rfl⟩
 have ba : Below w.heap.size w wa := by rw [← hwa]; exact below_alloc (Below.refl _ _) _
 obtain ⟨gh, hgh⟩ : ∃ gh, w.heap.size = gh := ⟨_, rfl⟩
 have hbl : wa.heap[gh]? = some (.cells #[.int .i64 K, .int .i64 o, .int .i64 0, .slice (some ⟨gx, 0, none⟩) n cx, .slice none 0 0, .int .i64 0, .int .i64 0, .int .i64 0, .slice (some ⟨gq, 0, none⟩) 1 cq] 59 (0, 0)) := by rw [← hwa, ← hgh]; exact heap_alloc_new _ _
 have c3 : wa.cell? ⟨gh, 3, none⟩ = some (.slice (some ⟨gx, 0, none⟩) n cx) := by rw [cell_of_row wa gh 3 _ _ _ hbl]; rfl
 have HW := Lib.hid (And.intro ba (And.intro hbl hgh))
 have HR := Lib.hid (hr.below ba)
 have HQ := Lib.hid hq
 obtain ⟨i0, hi0, hz0, hz1, hz2⟩ := info_i32
 have HI := Lib.hid (And.intro hi0 (And.intro hz0 (And.intro hz1 hz2)))
 clear hn hr hq ba hbl hi0 hz0 hz1 hz2
 go_enter Tryz.func17, Tryz.ntmps17
 go_wp2_with fail
 have hghl : gh < wa.heap.size := (Array.getElem?_eq_some_iff.1 HW.out.2.1).1
 have c3a : (wa.alloc (.cells #[] 21)).cell? ⟨gh, 3, none⟩ = some (.slice (some ⟨gx, 0, none⟩) n cx) := (((Below.refl wa.heap.size wa).alloc (Nat.le_refl _) _).cell (p := ⟨gh, 3, none⟩) hghl).trans c3
 have HO := Lib.hid (own_nil32 wa)
 have HN := Lib.hid (show (nums .i32 xs).length = n * 1 by rw [nums_len, HNX.out, Nat.mul_one])
 have HG := Lib.hid (show ∀ j u, (nums .i32 xs)[j]? = some u → (wa.alloc (.cells #[] 21)).cell? ((⟨gx, 0, none⟩ : Addr).add j) = some u from fun j u hu => by
  have hj : j < xs.length := by
   have := (List.getElem?_eq_some_iff.1 hu).1
   simpa [nums] using this
  have h1 := (HR.out.below (below_alloc (Below.refl _ wa) (.cells #[] 21))).cell j hj
  have h2 : (⟨gx, 0, none⟩ : Addr).add j = ⟨gx, j, none⟩ := by unfold Addr.add; split <;> simp_all
  rw [h2, h1]
  simp [nums, hj] at hu
  rw [← hu, List.getD_eq_getElem?_getD, List.getElem?_eq_getElem hj]; rfl)
 have H1 := Lib.hid (show ∀ u ∈ nums .i32 xs, u.oneCell' = true from fun u hu => by
  obtain ⟨x, _, rfl⟩ := List.mem_map.1 hu; rfl)
 have HNE := Lib.hid (show gh ≠ wa.heap.size by omega)
 go_cut [3] (fun y wx => ∃ gs ga ca, y = .pointer (some ⟨gs, 0, none⟩) ∧ Below wa.heap.size wa wx ∧ wa.heap.size ≤ gs ∧ Row32 wx ga xs ∧ n ≤ ca ∧ wx.heap[gs]? = some (.cells #[.int .u8 0, .int .i64 0, .int .u64 0, .int .u8 0, .int .u64 0, .int .i32 0, .slice none 0 0, .pointer none, .slice (some ⟨ga, 0, none⟩) n ca, .int .i64 n] 135 (0, 0)))
 case first =>
  go_region_law (refine step_append_lies _ rfl (.tmp 6) (.tmp 8) 57 rfl 0 21 i0 (.int .i32 0) 1 4 Tryz.underlying57 HI.out.1 HI.out.2.1 HI.out.2.2.1 HI.out.2.2.2 rfl (by decide) (.slice (some ⟨wa.heap.size, 0, none⟩) 0 0) 0 [] (by simp [Act.eval, Act.put]) HO.out ⟨gx, 0, none⟩ n cx (nums .i32 xs) (by simp [Act.eval, Act.put]) HN.out HG.out H1.out hx0 (by unfold maxLen; omega) (by omega) (Nat.zero_le _) _ rfl ?_; intro ga ca w2 hO2 hG2 hA2 hL2; have c3b : w2.cell? ⟨gh, 3, none⟩ = some (.slice (some ⟨gx, 0, none⟩) n cx) := hG2.cell c3a (by simp [Value.ownBlock]; exact HNE.out))
  all_goals
   go_wp2_with fail
   go_meet
   have hG2' : (wa.alloc (.cells #[] 21)).grownBy w2 (some wa.heap.size) := ⟨hG2.os, hG2.tape, hG2.output, hG2.size, hG2.block⟩
   have hb2 := grown_below hG2'
   rw [Nat.zero_add, List.nil_append] at hO2
   obtain ⟨hrow, hcap⟩ := own_row32 hO2 hx0 HNX.out
   exact ⟨w2.heap.size, ga, ca, rfl, below_alloc hb2 _, hb2.size, hrow.below (below_alloc (Below.refl _ _) _), hcap, heap_alloc_new _ _⟩
 case rest =>
  obtain ⟨gs, ga, ca, rfl, hb2, hgs, hrow, hcap, hblk⟩ := hcut
  have hh := (hb2.block gh hghl).trans HW.out.2.1
  have hne : ¬ gh = gs := by omega
  have k0 : wc.cell? ⟨gh, 0, none⟩ = some (.int .i64 K) := by rw [cell_of_row wc gh 0 _ _ _ hh]; rfl
  have k1 : wc.cell? ⟨gh, 1, none⟩ = some (.int .i64 o) := by rw [cell_of_row wc gh 1 _ _ _ hh]; rfl
  have k2 : wc.cell? ⟨gh, 2, none⟩ = some (.int .i64 0) := by rw [cell_of_row wc gh 2 _ _ _ hh]; rfl
  have k4 : wc.cell? ⟨gh, 4, none⟩ = some (.slice none 0 0) := by rw [cell_of_row wc gh 4 _ _ _ hh]; rfl
  have k5 : wc.cell? ⟨gh, 5, none⟩ = some (.int .i64 0) := by rw [cell_of_row wc gh 5 _ _ _ hh]; rfl
  have k6 : wc.cell? ⟨gh, 6, none⟩ = some (.int .i64 0) := by rw [cell_of_row wc gh 6 _ _ _ hh]; rfl
  have k7 : wc.cell? ⟨gh, 7, none⟩ = some (.int .i64 0) := by rw [cell_of_row wc gh 7 _ _ _ hh]; rfl
  have k8 : wc.cell? ⟨gh, 8, none⟩ = some (.slice (some ⟨gq, 0, none⟩) 1 cq) := by rw [cell_of_row wc gh 8 _ _ _ hh]; rfl
  have s0 : wc.cell? ⟨gs, 0, none⟩ = some (.int .u8 0) := by rw [cell_of_row wc gs 0 _ _ _ hblk]; rfl
  have s1 : wc.cell? ⟨gs, 1, none⟩ = some (.int .i64 0) := by rw [cell_of_row wc gs 1 _ _ _ hblk]; rfl
  have s2 : wc.cell? ⟨gs, 2, none⟩ = some (.int .u64 0) := by rw [cell_of_row wc gs 2 _ _ _ hblk]; rfl
  have s3 : wc.cell? ⟨gs, 3, none⟩ = some (.int .u8 0) := by rw [cell_of_row wc gs 3 _ _ _ hblk]; rfl
  have s4 : wc.cell? ⟨gs, 4, none⟩ = some (.int .u64 0) := by rw [cell_of_row wc gs 4 _ _ _ hblk]; rfl
  have s5 : wc.cell? ⟨gs, 5, none⟩ = some (.int .i32 0) := by rw [cell_of_row wc gs 5 _ _ _ hblk]; rfl
  have s6 : wc.cell? ⟨gs, 6, none⟩ = some (.slice none 0 0) := by rw [cell_of_row wc gs 6 _ _ _ hblk]; rfl
  have s7 : wc.cell? ⟨gs, 7, none⟩ = some (.pointer none) := by rw [cell_of_row wc gs 7 _ _ _ hblk]; rfl
  have f0 : ∀ i, wc.frozen? ⟨gs, i, none⟩ = false := fun i => by simp [World.frozen?, hblk]
  have X1 := Lib.hid (And.intro hb2 (And.intro hgs (And.intro hrow (And.intro hcap (And.intro hblk hh)))))
  clear hb2 hgs hrow hcap hblk hh HO HN HG H1 HNE c3a c3
  go_wp2_with fail
  refine (prec_nil _).mono ?_
  rintro e w2 ⟨rfl, rfl⟩
  go_wp2_with (with_reducible refine stop_dst (N := 58) rfl ?_)
  refine unstop ?_
  obtain ⟨w5, hw5⟩ : ∃ w5, (((((wc.setCell ⟨gs, 0, none⟩ (.int .u8 K)).setCell ⟨gs, 1, none⟩ (.int .i64 o)).setCell ⟨gs, 2, none⟩ (.int .u64 0)).setCell ⟨gs, 3, none⟩ (.int .u8 0)).setCell ⟨gs, 4, none⟩ (.int .u64 1)).setCell ⟨gs, 5, none⟩ (.int .i32 0) = w5 := ⟨_, rfl⟩
  have b5 := blk_set (blk_set (blk_set (blk_set (blk_set (blk_set X1.out.2.2.2.2.1 0 (.int .u8 K)) 1 (.int .i64 o)) 2 (.int .u64 0)) 3 (.int .u8 0)) 4 (.int .u64 1)) 5 (.int .i32 0)
  have t5 := ((((((Touch.refl [gs] wc).setCell (p := ⟨gs, 0, none⟩) (.inl (by simp)) (.int .u8 K)).setCell (p := ⟨gs, 1, none⟩) (.inl (by simp)) (.int .i64 o)).setCell (p := ⟨gs, 2, none⟩) (.inl (by simp)) (.int .u64 0)).setCell (p := ⟨gs, 3, none⟩) (.inl (by simp)) (.int .u8 0)).setCell (p := ⟨gs, 4, none⟩) (.inl (by simp)) (.int .u64 1)).setCell (p := ⟨gs, 5, none⟩) (.inl (by simp)) (.int .i32 0)
  rw [hw5] at b5 t5
  rw [hw5]
  obtain ⟨w6, hw6⟩ : ∃ w6, w5.alloc (.cells #[] 21) = w6 := ⟨_, rfl⟩
  have t6 := t5.alloc (.cells #[] 21)
  have b6 : w6.heap[gs]? = some (.cells #[.int .u8 K, .int .i64 o, .int .u64 0, .int .u8 0, .int .u64 1, .int .i32 0, .slice none 0 0, .pointer none, .slice (some ⟨ga, 0, none⟩) n ca, .int .i64 n] 135 (0, 0)) := by
   rw [← hw6, Below.heap_alloc _ _ _ (Array.getElem?_eq_some_iff.1 b5).1, b5]; rfl
  rw [hw6] at t6
  have h6 := t6.heap X1.out.2.2.2.2.2 (by simpa using hne)
  have k4 : w6.cell? ⟨gh, 4, none⟩ = some (.slice none 0 0) := by rw [cell_of_row w6 gh 4 _ _ _ h6]; rfl
  have k7 : w6.cell? ⟨gh, 7, none⟩ = some (.int .i64 0) := by rw [cell_of_row w6 gh 7 _ _ _ h6]; rfl
  have k8 : w6.cell? ⟨gh, 8, none⟩ = some (.slice (some ⟨gq, 0, none⟩) 1 cq) := by rw [cell_of_row w6 gh 8 _ _ _ h6]; rfl
  have s6 : w6.cell? ⟨gs, 6, none⟩ = some (.slice none 0 0) := by rw [cell_of_row w6 gs 6 _ _ _ b6]; rfl
  have s7 : w6.cell? ⟨gs, 7, none⟩ = some (.pointer none) := by rw [cell_of_row w6 gs 7 _ _ _ b6]; rfl
  have f6 : ∀ i, w6.frozen? ⟨gs, i, none⟩ = false := fun i => by simp [World.frozen?, b6]
  have HO6 : Hid (w6.ownsRow 0 21 1 (.slice (some ⟨w5.heap.size, 0, none⟩) 0 0) 0 []) := by rw [← hw6]; exact Lib.hid (own_nil32 w5)
  have X6 := Lib.hid (And.intro t6 (And.intro b6 h6))
  clear b5 t5 t6 b6 h6 hw5 s0 s1 s2 s3 s4 s5 f0 k0 k1 k2 k5 k6
  go_wp2_with (with_reducible refine stop_dst (N := 61) rfl ?_)
  refine unstop ?_
  refine wpList_append_own_none rfl (.tmp 58) (.tmp 60) 57 rfl 0 21 i0 1 Tryz.underlying57 HI.out.1 _ 0 [] rfl HO6.out rfl ?_
  go_wp2_with (with_reducible refine stop_dst (N := 69) rfl ?_)
  refine unstop ?_
  obtain ⟨w7, hw7⟩ : ∃ w7, w6.setCell ⟨gs, 6, none⟩ (.slice (some ⟨w5.heap.size, 0, none⟩) 0 0) = w7 := ⟨_, rfl⟩
  have b7 := blk_set X6.out.2.1 6 (.slice (some ⟨w5.heap.size, 0, none⟩) 0 0)
  have t7 := X6.out.1.setCell (p := ⟨gs, 6, none⟩) (.inl (by simp)) (.slice (some ⟨w5.heap.size, 0, none⟩) 0 0)
  have hw7w := Lib.hid hw7
  rw [hw7] at b7 t7
  rw [hw7]
  obtain ⟨gr, hgr⟩ : ∃ gr, w7.heap.size = gr := ⟨_, rfl⟩
  obtain ⟨w8, hw8⟩ : ∃ w8, w7.alloc (.cells #[.int .i64 0, .slice none 0 0] 139) = w8 := ⟨_, rfl⟩
  have t8 := t7.alloc (.cells #[.int .i64 0, .slice none 0 0] 139)
  have hgl : gs < w7.heap.size := (Array.getElem?_eq_some_iff.1 b7).1
  have b8 : w8.heap[gs]? = some (.cells #[.int .u8 K, .int .i64 o, .int .u64 0, .int .u8 0, .int .u64 1, .int .i32 0, .slice (some ⟨w5.heap.size, 0, none⟩) 0 0, .pointer none, .slice (some ⟨ga, 0, none⟩) n ca, .int .i64 n] 135 (0, 0)) := by
   rw [← hw8, Below.heap_alloc _ _ _ hgl, b7]; rfl
  have r8 : w8.heap[gr]? = some (.cells #[.int .i64 0, .slice none 0 0] 139 (0, 0)) := by rw [← hw8, ← hgr]; exact heap_alloc_new _ _
  rw [hw8] at t8
  have h8 := t8.heap X1.out.2.2.2.2.2 (by simpa using hne)
  have k8 : w8.cell? ⟨gh, 8, none⟩ = some (.slice (some ⟨gq, 0, none⟩) 1 cq) := by rw [cell_of_row w8 gh 8 _ _ _ h8]; rfl
  have s7 : w8.cell? ⟨gs, 7, none⟩ = some (.pointer none) := by rw [cell_of_row w8 gs 7 _ _ _ b8]; rfl
  have f8 : ∀ i, w8.frozen? ⟨gs, i, none⟩ = false := fun i => by simp [World.frozen?, b8]
  have X8 := Lib.hid (And.intro t8 (And.intro b8 (And.intro r8 (And.intro h8 (show gs ≠ gr by omega)))))
  clear b7 t7 hw7 t8 hgl b8 r8 h8 s6 f6 k4 k7
  go_wp2_with fail
  obtain ⟨w9, hw9⟩ : ∃ w9, w8.setCell ⟨gs, 7, none⟩ (.pointer (some ⟨gr, 0, none⟩)) = w9 := ⟨_, rfl⟩
  have b9 := blk_set X8.out.2.1 7 (.pointer (some ⟨gr, 0, none⟩))
  have r9 := blk_far (p := ⟨gs, 7, none⟩) X8.out.2.2.1 (Ne.symm X8.out.2.2.2.2) (.pointer (some ⟨gr, 0, none⟩))
  have t9 := X8.out.1.setCell (p := ⟨gs, 7, none⟩) (.inl (by simp)) (.pointer (some ⟨gr, 0, none⟩))
  rw [hw9] at b9 r9 t9
  rw [hw9]
  have q9 : w9.cell? ⟨gq, 0, none⟩ = some (.int .i64 12) := by
   have hgq := World.block_lt_of_cell? w ⟨gq, 0, none⟩ HQ.out
   have h1 := (HW.out.1.cell (p := ⟨gq, 0, none⟩) hgq).trans HQ.out
   have hgq2 := World.block_lt_of_cell? wa ⟨gq, 0, none⟩ h1
   have h2 := (X1.out.1.cell (p := ⟨gq, 0, none⟩) hgq2).trans h1
   have h3 := X1.out.2.1
   have h4 : gq < wa.heap.size := hgq2
   exact t9.cell h2 (by simp; omega)
  have s7 : w9.cell? ⟨gs, 7, none⟩ = some (.pointer (some ⟨gr, 0, none⟩)) := by rw [cell_of_row w9 gs 7 _ _ _ b9]; rfl
  have r1 : w9.cell? ⟨gr, 1, none⟩ = some (.slice none 0 0) := by rw [cell_of_row w9 gr 1 _ _ _ r9]; rfl
  have fr : ∀ i, w9.frozen? ⟨gr, i, none⟩ = false := fun i => by simp [World.frozen?, r9]
  have X9 := Lib.hid (And.intro t9 (And.intro b9 r9))
  clear hw9 b9 r9 t9 k8 f8
  refine wp_loop_rounds 2 ?_
  rw [rounds_succ]
  go_upto_region 13 with fail
  have hrl : gr < w9.heap.size := (Array.getElem?_eq_some_iff.1 X9.out.2.2).1
  have hsl : gs < w9.heap.size := (Array.getElem?_eq_some_iff.1 X9.out.2.1).1
  obtain ⟨wb, hwb⟩ : ∃ wb, w9.alloc (.cells #[.int .u64 12, .int .u64 0] 141) = wb := ⟨_, rfl⟩
  have bb : Below w9.heap.size w9 wb := by rw [← hwb]; exact below_alloc (Below.refl _ _) _
  have sb7 : wb.cell? ⟨gs, 7, none⟩ = some (.pointer (some ⟨gr, 0, none⟩)) := (bb.cell (p := ⟨gs, 7, none⟩) hsl).trans s7
  have rb1 : wb.cell? ⟨gr, 1, none⟩ = some (.slice none 0 0) := (bb.cell (p := ⟨gr, 1, none⟩) hrl).trans r1
  have fb : wb.frozen? ⟨gr, 1, none⟩ = false := (bb.frozen (p := ⟨gr, 1, none⟩) hrl).trans (fr 1)
  have fr1 := fr 1
  have nb : wb.heap[w9.heap.size]? = some (.cells #[.int .u64 12, .int .u64 0] 141 (0, 0)) := by rw [← hwb]; exact heap_alloc_new _ _
  obtain ⟨ip, hp0, hp1, hp2, hp3⟩ := info_part
  have HP := Lib.hid (And.intro hp0 (And.intro hp1 (And.intro hp2 hp3)))
  have HN := Lib.hid (World.news_of_block nb)
  have HNW := Lib.hid (show World.ownsRow wb 0 141 2 (.slice none 0 0) 0 [] from World.ownsRow_nil _ _ _ _)
  have HBB := Lib.hid (And.intro bb (And.intro hrl hsl))
  clear hp0 hp1 hp2 hp3 bb nb fr hrl hsl
  have hgrs : gr ≠ gs := Ne.symm X8.out.2.2.2.2
  have hmx : IntKind.u64.wrap (max (0 : Int) 12) = 12 := by decide
  refine wp_region_K 21 (fun w' => w'.cell? ⟨gs, 7, none⟩ = some (.pointer (some ⟨gr, 0, none⟩)) ∧ w'.cell? ⟨gr, 1, none⟩ = some (.slice none 0 0)) (by kernel_rfl) (⟨s7, r1⟩) (fun HS0 => ?_)
  refine wpAnyK_take (i := 0) (oi := ⟨some 80, .move (.tmp 3), 86, "flac.go:141", #[], none⟩) (v := ?va1) rfl (by kernel_rfl) (by kernel_rfl) (by kernel_rfl) (by kernel_rfl) (fun _ _ _ h => h) (Or.inl ⟨by rfl, ?ya1⟩) HS0 ?ra1
  case ya1 =>
   intro w' hSw
   (try dsimp only at hSw)
   obtain ⟨k4, k5⟩ := hSw
   go_simp
   all_goals (with_reducible rfl)
  (try simp only [Act.put, List.setIfInBounds_toArray, List.set_cons_zero, List.set_cons_succ])
  refine wpAnyK_take (i := 1) (oi := ⟨some 81, .nilCheck (.tmp 80), 0, "flac.go:141", #[⟨0, .data⟩], none⟩) (v := ?va2) rfl (by kernel_rfl) (by kernel_rfl) (by kernel_rfl) (by kernel_rfl) (fun _ _ _ h => h) (Or.inl ⟨by rfl, ?ya2⟩) HS0 ?ra2
  case ya2 =>
   intro w' hSw
   (try dsimp only at hSw)
   obtain ⟨k4, k5⟩ := hSw
   go_simp
   all_goals (with_reducible rfl)
  (try simp only [Act.put, List.setIfInBounds_toArray, List.set_cons_zero, List.set_cons_succ])
  refine wpAnyK_take (i := 2) (oi := ⟨some 82, .fieldAddr 135 (.tmp 81) 0, 0, "flac.go:141", #[⟨1, .data⟩], none⟩) (v := ?va3) rfl (by kernel_rfl) (by kernel_rfl) (by kernel_rfl) (by kernel_rfl) (fun _ _ _ h => h) (Or.inl ⟨by rfl, ?ya3⟩) HS0 ?ra3
  case ya3 =>
   intro w' hSw
   (try dsimp only at hSw)
   obtain ⟨k4, k5⟩ := hSw
   go_simp
   all_goals (with_reducible rfl)
  (try simp only [Act.put, List.setIfInBounds_toArray, List.set_cons_zero, List.set_cons_succ])
  refine wpAnyK_take (i := 3) (oi := ⟨some 83, .fieldAddr 133 (.tmp 82) 7, 0, "flac.go:141", #[⟨2, .data⟩], none⟩) (v := ?va4) rfl (by kernel_rfl) (by kernel_rfl) (by kernel_rfl) (by kernel_rfl) (fun _ _ _ h => h) (Or.inl ⟨by rfl, ?ya4⟩) HS0 ?ra4
  case ya4 =>
   intro w' hSw
   (try dsimp only at hSw)
   obtain ⟨k4, k5⟩ := hSw
   go_simp
   all_goals (with_reducible rfl)
  (try simp only [Act.put, List.setIfInBounds_toArray, List.set_cons_zero, List.set_cons_succ])
  refine wpAnyK_take (i := 4) (oi := ⟨some 84, .load 131 (.tmp 83), 131, "flac.go:141", #[⟨3, .data⟩], none⟩) (v := ?va5) rfl (by kernel_rfl) (by kernel_rfl) (by kernel_rfl) (by kernel_rfl) (fun _ _ _ h => h) (Or.inl ⟨by rfl, ?ya5⟩) HS0 ?ra5
  case ya5 =>
   intro w' hSw
   (try dsimp only at hSw)
   obtain ⟨k4, k5⟩ := hSw
   go_simp
   all_goals (with_reducible rfl)
  (try simp only [Act.put, List.setIfInBounds_toArray, List.set_cons_zero, List.set_cons_succ])
  refine wpAnyK_take (i := 5) (oi := ⟨some 85, .move (.tmp 3), 86, "flac.go:141", #[], none⟩) (v := ?va6) rfl (by kernel_rfl) (by kernel_rfl) (by kernel_rfl) (by kernel_rfl) (fun _ _ _ h => h) (Or.inl ⟨by rfl, ?ya6⟩) HS0 ?ra6
  case ya6 =>
   intro w' hSw
   (try dsimp only at hSw)
   obtain ⟨k4, k5⟩ := hSw
   go_simp
   all_goals (with_reducible rfl)
  (try simp only [Act.put, List.setIfInBounds_toArray, List.set_cons_zero, List.set_cons_succ])
  refine wpAnyK_take (i := 6) (oi := ⟨some 86, .nilCheck (.tmp 85), 0, "flac.go:141", #[⟨5, .data⟩], none⟩) (v := ?va7) rfl (by kernel_rfl) (by kernel_rfl) (by kernel_rfl) (by kernel_rfl) (fun _ _ _ h => h) (Or.inl ⟨by rfl, ?ya7⟩) HS0 ?ra7
  case ya7 =>
   intro w' hSw
   (try dsimp only at hSw)
   obtain ⟨k4, k5⟩ := hSw
   go_simp
   all_goals (with_reducible rfl)
  (try simp only [Act.put, List.setIfInBounds_toArray, List.set_cons_zero, List.set_cons_succ])
  refine wpAnyK_take (i := 7) (oi := ⟨some 87, .fieldAddr 135 (.tmp 86) 0, 0, "flac.go:141", #[⟨6, .data⟩], none⟩) (v := ?va8) rfl (by kernel_rfl) (by kernel_rfl) (by kernel_rfl) (by kernel_rfl) (fun _ _ _ h => h) (Or.inl ⟨by rfl, ?ya8⟩) HS0 ?ra8
  case ya8 =>
   intro w' hSw
   (try dsimp only at hSw)
   obtain ⟨k4, k5⟩ := hSw
   go_simp
   all_goals (with_reducible rfl)
  (try simp only [Act.put, List.setIfInBounds_toArray, List.set_cons_zero, List.set_cons_succ])
  refine wpAnyK_take (i := 8) (oi := ⟨some 88, .fieldAddr 133 (.tmp 87) 7, 0, "flac.go:141", #[⟨7, .data⟩], none⟩) (v := ?va9) rfl (by kernel_rfl) (by kernel_rfl) (by kernel_rfl) (by kernel_rfl) (fun _ _ _ h => h) (Or.inl ⟨by rfl, ?ya9⟩) HS0 ?ra9
  case ya9 =>
   intro w' hSw
   (try dsimp only at hSw)
   obtain ⟨k4, k5⟩ := hSw
   go_simp
   all_goals (with_reducible rfl)
  (try simp only [Act.put, List.setIfInBounds_toArray, List.set_cons_zero, List.set_cons_succ])
  refine wpAnyK_take (i := 9) (oi := ⟨some 89, .load 131 (.tmp 88), 131, "flac.go:141", #[⟨8, .data⟩], none⟩) (v := ?va10) rfl (by kernel_rfl) (by kernel_rfl) (by kernel_rfl) (by kernel_rfl) (fun _ _ _ h => h) (Or.inl ⟨by rfl, ?ya10⟩) HS0 ?ra10
  case ya10 =>
   intro w' hSw
   (try dsimp only at hSw)
   obtain ⟨k4, k5⟩ := hSw
   go_simp
   all_goals (with_reducible rfl)
  (try simp only [Act.put, List.setIfInBounds_toArray, List.set_cons_zero, List.set_cons_succ])
  refine wpAnyK_take (i := 10) (oi := ⟨some 90, .nilCheck (.tmp 89), 0, "flac.go:141", #[⟨9, .data⟩], none⟩) (v := ?va11) rfl (by kernel_rfl) (by kernel_rfl) (by kernel_rfl) (by kernel_rfl) (fun _ _ _ h => h) (Or.inl ⟨by rfl, ?ya11⟩) HS0 ?ra11
  case ya11 =>
   intro w' hSw
   (try dsimp only at hSw)
   obtain ⟨k4, k5⟩ := hSw
   go_simp
   all_goals (with_reducible rfl)
  (try simp only [Act.put, List.setIfInBounds_toArray, List.set_cons_zero, List.set_cons_succ])
  refine wpAnyK_take (i := 11) (oi := ⟨some 91, .fieldAddr 139 (.tmp 90) 1, 0, "flac.go:141", #[⟨10, .data⟩], none⟩) (v := ?va12) rfl (by kernel_rfl) (by kernel_rfl) (by kernel_rfl) (by kernel_rfl) (fun _ _ _ h => h) (Or.inl ⟨by rfl, ?ya12⟩) HS0 ?ra12
  case ya12 =>
   intro w' hSw
   (try dsimp only at hSw)
   obtain ⟨k4, k5⟩ := hSw
   go_simp
   all_goals (with_reducible rfl)
  (try simp only [Act.put, List.setIfInBounds_toArray, List.set_cons_zero, List.set_cons_succ])
  refine wpAnyK_take (i := 12) (oi := ⟨some 92, .load 137 (.tmp 91), 137, "flac.go:141", #[⟨11, .data⟩], none⟩) (v := ?va13) rfl (by kernel_rfl) (by kernel_rfl) (by kernel_rfl) (by kernel_rfl) (fun _ _ _ h => h) (Or.inl ⟨by rfl, ?ya13⟩) HS0 ?ra13
  case ya13 =>
   intro w' hSw
   (try dsimp only at hSw)
   obtain ⟨k4, k5⟩ := hSw
   go_simp
   all_goals (with_reducible rfl)
  (try simp only [Act.put, List.setIfInBounds_toArray, List.set_cons_zero, List.set_cons_succ])
  refine wpAnyK_take (i := 13) (oi := ⟨some 93, .move (.tmp 5), 3, "flac.go:141", #[], none⟩) (v := ?va14) rfl (by kernel_rfl) (by kernel_rfl) (by kernel_rfl) (by kernel_rfl) (fun _ _ _ h => h) (Or.inl ⟨by rfl, ?ya14⟩) HS0 ?ra14
  case ya14 =>
   intro w' hSw
   (try dsimp only at hSw)
   obtain ⟨k4, k5⟩ := hSw
   go_simp
   all_goals (with_reducible rfl)
  (try simp only [Act.put, List.setIfInBounds_toArray, List.set_cons_zero, List.set_cons_succ])
  refine wpAnyK_take (i := 14) (oi := ⟨some 94, .call ⟨.builtin .max, #[.const (.int .i64 0), .tmp 93], #[3, 3]⟩, 3, "flac.go:141", #[⟨13, .data⟩], none⟩) (v := ?va15) rfl (by kernel_rfl) (by kernel_rfl) (by kernel_rfl) (by kernel_rfl) (fun _ _ _ h => h) (Or.inl ⟨by rfl, ?ya15⟩) HS0 ?ra15
  case ya15 =>
   intro w' hSw
   (try dsimp only at hSw)
   go_simp
   all_goals (with_reducible rfl)
  (try simp only [Act.put, List.setIfInBounds_toArray, List.set_cons_zero, List.set_cons_succ])
  refine wpAnyK_take (i := 15) (oi := ⟨some 95, .convert 3 47 (.tmp 94), 47, "flac.go:141", #[⟨14, .data⟩], none⟩) (v := ?va16) rfl (by kernel_rfl) (by kernel_rfl) (by kernel_rfl) (by kernel_rfl) (fun _ _ _ h => h) (Or.inl ⟨by rfl, ?ya16⟩) HS0 ?ra16
  case ya16 =>
   intro w' hSw
   (try dsimp only at hSw)
   go_simp
   all_goals (with_reducible rfl)
  (try simp only [Act.put, List.setIfInBounds_toArray, List.set_cons_zero, List.set_cons_succ])
  refine wpAnyK_take (i := 16) (oi := ⟨some 96, .build 141 #[(0, .tmp 95)], 141, "flac.go:141", #[⟨15, .data⟩], none⟩) (v := ?va17) rfl (by kernel_rfl) (by kernel_rfl) (by kernel_rfl) (by kernel_rfl) (fun _ _ _ h => h) (Or.inl ⟨by rfl, ?ya17⟩) HS0 ?ra17
  case ya17 =>
   intro w' hSw
   (try dsimp only at hSw)
   go_simp
   all_goals (with_reducible rfl)
  (try simp only [Act.put, List.setIfInBounds_toArray, List.set_cons_zero, List.set_cons_succ])
  refine wpAnyK_one (i := 17) (o := ⟨some 97, .buildSlice 137 1 #[(0, .tmp 96)], 137, "flac.go:141", #[⟨16, .data⟩], none⟩) (by kernel_rfl) rfl (fun KK hKK => ?_)
  go_simp
  refine hKK.out _ _ (⟨sb7, rb1⟩) (fun HS1 => ?_)
  clear hKK KK
  (try simp only [Act.put, List.setIfInBounds_toArray, List.set_cons_zero, List.set_cons_succ])
  refine wpAnyK_one (i := 18) (o := ⟨some 98, .call ⟨.builtin .append, #[.tmp 92, .tmp 97], #[137, 137]⟩, 137, "flac.go:141", #[⟨12, .data⟩, ⟨17, .data⟩], none⟩) (by kernel_rfl) rfl (fun KK hKK => ?_)
  refine step_append_lies _ rfl (.tmp 92) (.tmp 97) 137 rfl 0 141 ip (.agg #[.int .u64 0, .int .u64 0]) 2 16 Tryz.underlying137 HP.out.1 HP.out.2.1 HP.out.2.2.1 HP.out.2.2.2 rfl (by decide) (.slice none 0 0) 0 [] rfl HNW.out ⟨w9.heap.size, 0, none⟩ 1 1 [.int .u64 12, .int .u64 0] rfl rfl HN.out (by simp [Value.oneCell']) (by decide) (by decide) (by decide) (Nat.zero_le _) _ rfl ?_
  intro gp cp w2 hO2 hG2 hA2 hL2
  have c1 : w2.cell? ⟨gs, 7, none⟩ = some (.pointer (some ⟨gr, 0, none⟩)) := hG2.cell sb7 (by simp [Value.ownBlock])
  have c2 : w2.cell? ⟨gr, 1, none⟩ = some (.slice none 0 0) := hG2.cell rb1 (by simp [Value.ownBlock])
  have c3 : w2.frozen? ⟨gr, 1, none⟩ = false := (hG2.frozen_far ⟨gr, 1, none⟩ (Nat.lt_of_lt_of_le HBB.out.2.1 HBB.out.1.size) (by simp [Value.ownBlock])).trans fb
  refine hKK.out _ _ (⟨c1, c2⟩) (fun HS2 => ?_)
  clear hKK KK
  (try simp only [Act.put, List.setIfInBounds_toArray, List.set_cons_zero, List.set_cons_succ])
  refine wpAnyK_one (i := 19) (o := ⟨some 99, .nilCheck (.tmp 84), 0, "flac.go:141", #[⟨4, .data⟩, ⟨0, .phase⟩, ⟨1, .phase⟩, ⟨2, .phase⟩, ⟨3, .phase⟩, ⟨4, .phase⟩, ⟨5, .phase⟩, ⟨6, .phase⟩, ⟨7, .phase⟩, ⟨8, .phase⟩, ⟨9, .phase⟩, ⟨10, .phase⟩, ⟨11, .phase⟩, ⟨12, .phase⟩, ⟨13, .phase⟩, ⟨14, .phase⟩, ⟨15, .phase⟩, ⟨16, .phase⟩, ⟨17, .phase⟩, ⟨18, .phase⟩], none⟩) (by kernel_rfl) rfl (fun KK hKK => ?_)
  go_simp
  refine hKK.out _ _ (⟨c1, c2⟩) (fun HS3 => ?_)
  clear hKK KK
  (try simp only [Act.put, List.setIfInBounds_toArray, List.set_cons_zero, List.set_cons_succ])
  refine wpAnyK_one (i := 20) (o := ⟨some 100, .fieldAddr 139 (.tmp 99) 1, 0, "flac.go:141", #[⟨19, .data⟩, ⟨0, .phase⟩, ⟨1, .phase⟩, ⟨2, .phase⟩, ⟨3, .phase⟩, ⟨4, .phase⟩, ⟨5, .phase⟩, ⟨6, .phase⟩, ⟨7, .phase⟩, ⟨8, .phase⟩, ⟨9, .phase⟩, ⟨10, .phase⟩, ⟨11, .phase⟩, ⟨12, .phase⟩, ⟨13, .phase⟩, ⟨14, .phase⟩, ⟨15, .phase⟩, ⟨16, .phase⟩, ⟨17, .phase⟩, ⟨18, .phase⟩], none⟩) (by kernel_rfl) rfl (fun KK hKK => ?_)
  go_simp
  refine hKK.out _ _ (⟨c1, c2⟩) (fun HS4 => ?_)
  clear hKK KK
  (try simp only [Act.put, List.setIfInBounds_toArray, List.set_cons_zero, List.set_cons_succ])
  refine wpAnyK_last (o := ⟨none, .store 137 (.tmp 100) (.tmp 98), 0, "flac.go:141", #[⟨20, .data⟩, ⟨18, .data⟩, ⟨18, .chain⟩, ⟨0, .phase⟩, ⟨1, .phase⟩, ⟨2, .phase⟩, ⟨3, .phase⟩, ⟨4, .phase⟩, ⟨5, .phase⟩, ⟨6, .phase⟩, ⟨7, .phase⟩, ⟨8, .phase⟩, ⟨9, .phase⟩, ⟨10, .phase⟩, ⟨11, .phase⟩, ⟨12, .phase⟩, ⟨13, .phase⟩, ⟨14, .phase⟩, ⟨15, .phase⟩, ⟨16, .phase⟩, ⟨17, .phase⟩, ⟨18, .phase⟩], none⟩) (by kernel_rfl) rfl (fun KK hKK => ?_)
  go_simp
  refine hKK.out _ _ ?_
  clear hKK KK
  (try simp only [Act.put, List.setIfInBounds_toArray, List.set_cons_zero, List.set_cons_succ])
  refine wpAnyK_done (by kernel_rfl) ?_ _
  go_wp2_with fail
  rw [rounds_succ]
  go_wp2_with fail
  go_ret
  have hgrow : wb.grownBy w2 none := ⟨hG2.os, hG2.tape, hG2.output, hG2.size, hG2.block⟩
  have hb12 : Below w9.heap.size w9 w2 := HBB.out.1.trans ⟨hgrow.os, hgrow.tape, hgrow.output, hgrow.size, fun k hk => hgrow.block k (Nat.lt_of_lt_of_le hk HBB.out.1.size) (by simp)⟩
  have e2 := (hb12.block gs HBB.out.2.2).trans X9.out.2.1
  have r2 := (hb12.block gr HBB.out.2.1).trans X9.out.2.2
  have t2 : Touch [] w9 w2 := Touch.of_below hb12
  have hgs := X1.out.2.1
  have hwa := HW.out.1.size
  have bwc : Below w.heap.size w wc := HW.out.1.trans ⟨X1.out.1.os, X1.out.1.tape, X1.out.1.output, X1.out.1.size, fun k hk => X1.out.1.block k (Nat.lt_of_lt_of_le hk hwa)⟩
  have bw9 := X9.out.1.below bwc (fun k hk => by
   obtain rfl : k = gs := by simpa using hk
   omega)
  have bw2 : Below w.heap.size w w2 := bw9.trans ⟨hb12.os, hb12.tape, hb12.output, hb12.size, fun k hk => hb12.block k (Nat.lt_of_lt_of_le hk bw9.size)⟩
  have hgrw : w.heap.size ≤ gr := by
   have h1 := X6.out.1.size
   have h2 : w7.heap.size = w6.heap.size := by rw [← hw7w.out]; simp [World.setCell]
   have := bwc.size
   omega
  obtain ⟨csx, hx1, hx2⟩ := X1.out.2.2.1
  have n1 : ga ≠ gs := blk_ne hx1 X1.out.2.2.2.2.1 (by decide)
  have hx3 := t2.heap (X9.out.1.heap hx1 (by simpa using n1)) (by simp)
  have n2 : ga ≠ gr := blk_ne hx3 r2 (by decide)
  rw [Nat.zero_add, List.nil_append] at hO2
  obtain ⟨g', cap', cur, hv, _, hp1, _, _, _, hp2⟩ := hO2.2.resolve_left (by rintro ⟨h, _⟩; cases h)
  injection hv with hv _ _
  injection hv with hv
  injection hv with hv _ _
  subst hv
  have n3 : gp ≠ gr := blk_ne hp1 r2 (by decide)
  refine ⟨bw2.setCell (p := ⟨gr, 1, none⟩) hgrw _, gs, ga, gr, gp, rfl, by omega, .slice (some ⟨w5.heap.size, 0, none⟩) 0 0, ca, cp, csx, cur, ?_, ?_, ?_, ?_, ?_, ?_, ?_⟩
  ·rw [HNX.out]; exact (blk_far (p := ⟨gr, 1, none⟩) e2 X8.out.2.2.2.2 _)
  ·exact blk_far (p := ⟨gr, 1, none⟩) hx3 n2 _
  ·exact hx2
  ·rw [HNX.out]; exact X1.out.2.2.2.1
  ·rw [blk_set r2 1]; rfl
  ·exact blk_far (p := ⟨gr, 1, none⟩) hp1 n3 _
  ·have h0 := congrArg (fun l => l[0]?) hp2
   simp at h0
   simpa using h0
end Go.Proofs.YtmcllndnjdemaaaGreatDoor.Walk
