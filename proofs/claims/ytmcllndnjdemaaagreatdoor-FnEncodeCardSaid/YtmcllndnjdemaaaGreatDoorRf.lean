/- spec.ReadFrame at a frame that the package wrote. -/
import Derived.Test.YtmcllndnjdemaaaGreatDoorRfp
import Derived.Test.YtmcllndnjdemaaaGreatDoorSubAll
import Derived.Test.YtmcllndnjdemaaaGreatDoorEn
namespace Go.Proofs.YtmcllndnjdemaaaGreatDoor.Walk
set_option linter.unusedVariables false
set_option linter.unusedSimpArgs false
open Go Go.RowKit Go.Proofs.YtmcllndnjdemaaaGreatDoorW.PrintWords Go.Proofs.YtmcllndnjdemaaaGreatDoorW.PrintLast Go.Proofs.YtmcllndnjdemaaaGreatDoorW.PrintMore Go.Proofs.YtmcllndnjdemaaaGreatDoor.Num Go.Proofs.YtmcllndnjdemaaaGreatDoor.Crc Go.Proofs.YtmcllndnjdemaaaGreatDoor.PFnEncode
def Chans (w : World) (B : Nat) (v : Value) (subs : List Sb) : Prop := ∃ vs : List Value, w.ownsRow B 44 1 v subs.length vs ∧ ∀ c, c < subs.length → ∃ u, vs[c]? = some u ∧ w.ownsRow B 3 1 u (subs.getD c ⟨0, 0, []⟩).xs.length (nums .i64 (subs.getD c ⟨0, 0, []⟩).xs)
def RowsAre (w : World) (B : Nat) (vs : List Value) (subs : List Sb) (j : Nat) : Prop := ∀ c, c < j → ∃ u, vs[c]? = some u ∧ w.ownsRow B 3 1 u (subs.getD c ⟨0, 0, []⟩).xs.length (nums .i64 (subs.getD c ⟨0, 0, []⟩).xs)
theorem allBits_at {l : List Int} {at_ bp j : Nat} {subs : List Sb} (h : BitsAt l at_ (allBits bp subs)) (hj : j < subs.length) : BitsAt l (at_ + (allBits bp (subs.take j)).length) (subBits bp (subs.getD j ⟨0, 0, []⟩).K (subs.getD j ⟨0, 0, []⟩).o (subs.getD j ⟨0, 0, []⟩).xs) ∧ allBits bp (subs.take (j + 1)) = allBits bp (subs.take j) ++ subBits bp (subs.getD j ⟨0, 0, []⟩).K (subs.getD j ⟨0, 0, []⟩).o (subs.getD j ⟨0, 0, []⟩).xs := by
 have e : subs.getD j ⟨0, 0, []⟩ = subs[j] := by rw [List.getD_eq_getElem?_getD, List.getElem?_eq_getElem hj]; rfl
 have e1 : allBits bp (subs.take (j + 1)) = allBits bp (subs.take j) ++ subBits bp subs[j].K subs[j].o subs[j].xs := by rw [List.take_succ_eq_append_getElem hj, allBits_snoc]
 rw [e]
 refine ⟨?_, e1⟩
 have e2 : allBits bp subs = allBits bp (subs.take (j + 1)) ++ allBits bp (subs.drop (j + 1)) := by
  conv => lhs; rw [← List.take_append_drop (j + 1) subs]
  unfold allBits; rw [List.flatMap_append]
 rw [e2, e1] at h
 exact h.left.right
theorem own_notin {w : World} {B k : Nat} {e t : TypeId} {size n : Nat} {v : Value} {xs : List Value} {cs : Array Value} {fz : Nat × Nat} (h : w.ownsRow B e size v n xs) (hk : w.heap[k]? = some (.cells cs t fz)) (hne : t ≠ e) : ∀ q, v.ownBlock = some q → q ∉ [k] := fun q hq hm => by
 obtain rfl : q = k := by simpa using hm
 exact own_ne h hk hne hq.symm
theorem own_far2 {w : World} {B B' : Nat} {e e' : TypeId} {size size' n n' : Nat} {v v' : Value} {xs xs' : List Value} (h : w.ownsRow B e size v n xs) (h' : w.ownsRow B' e' size' v' n' xs') (hne : e ≠ e') : ∀ q, v.ownBlock = some q → q ∉ v'.ownBlock.toList := fun q hq hm => by
 obtain ⟨_, cs, h1⟩ := own_ty h q (by rw [hq]; simp)
 obtain ⟨_, cs', h2⟩ := own_ty h' q hm
 exact blk_ne h1 h2 hne rfl
theorem own_weak {w : World} {B B' : Nat} {e : TypeId} {size n : Nat} {v : Value} {xs : List Value} (h : w.ownsRow B e size v n xs) (hB : B' ≤ B) : w.ownsRow B' e size v n xs :=
 ⟨h.1, h.2.imp id (fun ⟨g, cap, cur, k1, k2, k3⟩ => ⟨g, cap, cur, k1, Nat.le_trans hB k2, k3⟩)⟩
theorem RowsAre.touch {w w' : World} {B : Nat} {vs : List Value} {subs : List Sb} {j : Nat} (h : RowsAre w B vs subs j) {U : List Nat} (t : Touch U w w') (hU : ∀ k ∈ U, ∃ cs ty fz, w.heap[k]? = some (.cells cs ty fz) ∧ ty ≠ 3) : RowsAre w' B vs subs j := fun c hc => by
 obtain ⟨u, h1, h2⟩ := h c hc
 refine ⟨u, h1, own_touch h2 t (fun k hk hm => ?_)⟩
 obtain ⟨cs, ty, fz, h3, h4⟩ := hU k hm
 exact own_ne h2 h3 h4 hk.symm
theorem RowsAre.snoc {w : World} {B : Nat} {vs : List Value} {subs : List Sb} {u : Value} (h : RowsAre w B vs subs vs.length) (hu : w.ownsRow B 3 1 u (subs.getD vs.length ⟨0, 0, []⟩).xs.length (nums .i64 (subs.getD vs.length ⟨0, 0, []⟩).xs)) : RowsAre w B (vs ++ [u]) subs (vs.length + 1) := fun c hc => by
 by_cases hl : c < vs.length
 ·obtain ⟨x, h1, h2⟩ := h c hl
  exact ⟨x, by rw [List.getElem?_append_left hl]; exact h1, h2⟩
 ·obtain rfl : c = vs.length := by omega
  exact ⟨u, by simp, hu⟩
theorem Rd.touch {w0 w w' : World} {g at_ : Nat} {l : List Int} {U : List Nat} (h : Rd w0 g l at_ w) (t : Touch U w w') (hg : g ∉ U) (hB : Below w0.heap.size w0 w') : Rd w0 g l at_ w' := by
 obtain ⟨A0, c0, k1, k2, k3⟩ := h.is
 exact ⟨⟨A0, c0, t.heap k1 hg, k2, k3⟩, hB⟩
theorem Rd.blk {w0 w : World} {g at_ : Nat} {l : List Int} (h : Rd w0 g l at_ w) : ∃ cs, w.heap[g]? = some (.cells cs 156 (0, 0)) := by
 obtain ⟨A0, c0, k1, k2, k3⟩ := h.is
 exact ⟨_, k1⟩
theorem pad_bit {l : List Int} {a n k : Nat} (h : BitsAt l a (List.replicate n 0)) (hk : k < n) : BitsAt l (a + k) (bts 0 1) := by
 have h1 := h.1
 rw [List.length_replicate] at h1
 refine ⟨by rw [bts_len]; omega, fun i hi => ?_⟩
 rw [bts_len] at hi
 obtain rfl : i = 0 := by omega
 rw [Nat.add_zero, h.2 k (by rw [List.length_replicate]; exact hk)]
 simp [bts, List.getD_eq_getElem?_getD, hk]
theorem rf_ret {w : World} {g : Nat} {b0 : Bool} {i1 i2 i3 i4 i5 : Int} (h : w.heap[g]? = some (.cells #[.bool false, .int .i64 0, .int .i64 0, .int .i64 0, .int .i64 0, .int .u64 0] 32 (0, 0))) :
  ∃ wz, ((((((w.setCell ⟨g, 0, none⟩ (.bool b0)).setCell ⟨g, 1, none⟩ (.int .i64 i1)).setCell ⟨g, 2, none⟩ (.int .i64 i2)).setCell ⟨g, 3, none⟩ (.int .i64 i3)).setCell ⟨g, 4, none⟩ (.int .i64 i4)).setCell ⟨g, 5, none⟩ (.int .u64 i5)) = wz ∧ Touch [g] w wz ∧ wz.cell? ⟨g, 0, none⟩ = some (.bool b0) ∧ wz.cell? ⟨g, 1, none⟩ = some (.int .i64 i1) ∧ wz.cell? ⟨g, 2, none⟩ = some (.int .i64 i2) ∧ wz.cell? ⟨g, 3, none⟩ = some (.int .i64 i3) ∧ wz.cell? ⟨g, 4, none⟩ = some (.int .i64 i4) ∧ wz.cell? ⟨g, 5, none⟩ = some (.int .u64 i5) := by
 have z0 := blk_set h 0 (.bool b0)
 have z1 := blk_set z0 1 (.int .i64 i1)
 have z2 := blk_set z1 2 (.int .i64 i2)
 have z3 := blk_set z2 3 (.int .i64 i3)
 have z4 := blk_set z3 4 (.int .i64 i4)
 have z5 := blk_set z4 5 (.int .u64 i5)
 obtain ⟨wz, hwz⟩ : ∃ wz, ((((((w.setCell ⟨g, 0, none⟩ (.bool b0)).setCell ⟨g, 1, none⟩ (.int .i64 i1)).setCell ⟨g, 2, none⟩ (.int .i64 i2)).setCell ⟨g, 3, none⟩ (.int .i64 i3)).setCell ⟨g, 4, none⟩ (.int .i64 i4)).setCell ⟨g, 5, none⟩ (.int .u64 i5)) = wz := ⟨_, rfl⟩
 have hb := (((((((Touch.refl [g] w).setCell (p := ⟨g, 0, none⟩) (.inl (by simp)) (.bool b0)).setCell (p := ⟨g, 1, none⟩) (.inl (by simp)) (.int .i64 i1)).setCell (p := ⟨g, 2, none⟩) (.inl (by simp)) (.int .i64 i2)).setCell (p := ⟨g, 3, none⟩) (.inl (by simp)) (.int .i64 i3)).setCell (p := ⟨g, 4, none⟩) (.inl (by simp)) (.int .i64 i4)).setCell (p := ⟨g, 5, none⟩) (.inl (by simp)) (.int .u64 i5))
 rw [hwz] at z5 hb
 have hz : wz.heap[g]? = some (.cells #[.bool b0, .int .i64 i1, .int .i64 i2, .int .i64 i3, .int .i64 i4, .int .u64 i5] 32 (0, 0)) := by rw [z5]; rfl
 exact ⟨wz, hwz, hb, by rw [cell_of_row wz g 0 _ _ _ hz]; rfl, by rw [cell_of_row wz g 1 _ _ _ hz]; rfl, by rw [cell_of_row wz g 2 _ _ _ hz]; rfl, by rw [cell_of_row wz g 3 _ _ _ hz]; rfl, by rw [cell_of_row wz g 4 _ _ _ hz]; rfl, by rw [cell_of_row wz g 5 _ _ _ hz]; rfl⟩
theorem chan_call (ch : Nat) (hch : ch ≤ 7) (w : World) : Calls Tryz.prog 8 #[.int .i64 ch] w fun e w' => e = .returned (.int .i64 (ch + 1 : Nat)) ∧ ∃ n, w' = w.drewN n := by
 have key : ∀ k : Fin 8, spec_Channels.f (k.val : Int) = some ((k.val + 1 : Nat) : Int) := by decide +kernel
 exact (spec_Channels.calls (ch : Int) _ w (key ⟨ch, by omega⟩)).mono fun e w' h => ⟨h.1, h.2.out⟩
theorem side_call (ch c : Nat) (hch : ch ≤ 7) (hc : c ≤ 7) (w : World) : Calls Tryz.prog 27 #[.int .i64 ch, .int .i64 c] w fun e w' => e = .returned (.bool false) ∧ ∃ n, w' = w.drewN n := by
 have key : ∀ k c : Fin 8, spec_sideOf.f (k.val : Int) (c.val : Int) = some false := by decide +kernel
 exact (spec_sideOf.calls (ch : Int) (c : Int) _ w (key ⟨ch, by omega⟩ ⟨c, by omega⟩)).mono fun e w' h => ⟨h.1, h.2.out⟩
theorem info_ints : ∃ i, Tryz.prog.info? 44 = some i ∧ i.zero = some (.slice none 0 0) ∧ i.size = 1 ∧ i.bytes = 24 := by
 have h : (Tryz.prog.info? 44).map (fun i => (i.zero, i.size, i.bytes)) = some (some (.slice none 0 0), 1, 24) := by kernel_rfl
 rcases hi : Tryz.prog.info? 44 with _ | i
 ·rw [hi] at h; cases h
 ·rw [hi] at h
  simp only [Option.map_some, Option.some.injEq, Prod.mk.injEq] at h
  exact ⟨i, rfl, h⟩
set_option maxHeartbeats 16000000 in
set_option maxRecDepth 100000 in
theorem read_frame {ad : Addr} {n c : Nat} {F rest l : List Int} {vr : Bool} {sz rt ch bp nm ns : Nat} {subs : List Sb} {sum : Value} {w : World} (hl : ReadsInt w .u8 (some ad) n l) (hc : n ≤ c) (hn : n ≤ 100000000000000) (hc2 : c ≤ 9223372036854775807) (hbytes : ∀ x ∈ l, 0 ≤ x ∧ x ≤ 255) (he : l = F ++ rest)
  (hF : FrameIs F vr sz rt ch bp nm subs) (hsz0 : 0 < sz) (hsz : sz ≤ 256) (hrt : RtOk rt) (hch : ch ≤ 7) (hbp : BpOk bp) (hnm : nm < 2147483648) (hns : subs.length = ch + 1) (hok : ∀ s ∈ subs, SubOk bp sz s.K s.o s.xs) :
  Calls Tryz.prog 24 #[.slice (some ad) n c, .agg #[.int .i64 16, .int .i64 4096, .int .i64 0, .int .i64 0, .int .i64 rt, .int .i64 (ch + 1 : Nat), .int .i64 bp, .int .u64 ns, sum]] w fun e w' => Below w.heap.size w w' ∧
   ∃ v, e = .returned (.tuple #[.agg #[.bool vr, .int .i64 sz, .int .i64 rt, .int .i64 ch, .int .i64 bp, .int .u64 nm], v, .int .i64 F.length, .int .i64 0]) ∧ Chans w' w.heap.size v subs := by
 obtain ⟨hb, p, q, z, hbits, hA, hFl⟩ := frame_at (rest := rest) hF
 rw [← he] at hA
 obtain ⟨r1, he1⟩ := hA.he
 rw [hFl]
 obtain ⟨nc, hnc⟩ : ∃ nc, ch + 1 = nc := ⟨_, rfl⟩
 rw [hnc] at hns ⊢
 have hnc8 : nc ≤ 8 := by omega
 have hbpl : bp ≤ 24 ∧ 8 ≤ bp := by rcases hbp with h | h | h | h | h <;> omega
 have hbp1 := hbpl.1
 have hbp2 := hbpl.2
 have hrtb : 0 < rt ∧ rt ≤ 655350 := by rcases hrt with h | h | h | h | h | h | h <;> omega
 have hrt1 := hrtb.1
 have hrt2 := hrtb.2
 obtain ⟨wa, hwa⟩ : ∃ wa, (w.alloc (.cells #[.int .i64 16, .int .i64 4096, .int .i64 0, .int .i64 0, .int .i64 rt, .int .i64 nc, .int .i64 bp, .int .u64 ns, sum] 26)).alloc (.cells #[.bool false, .int .i64 0, .int .i64 0, .int .i64 0, .int .i64 0, .int .u64 0] 32) = wa := ⟨_, rfl⟩
 obtain ⟨N, hN⟩ : ∃ N, w.heap.size = N := ⟨_, rfl⟩
 have ba : Below N w wa := by rw [← hwa, ← hN]; exact below_alloc (below_alloc (Below.refl _ _) _) _
 have hla := hl.below (by rw [hN]; exact ba)
 have hpl : hb.length + 1 = p := hA.hp
 have HRH := Lib.hid (read_good hla hc hn hc2 hbytes he1 hbits hsz0 hsz hrt hch hbp hnm)
 rw [hpl] at HRH
 have HH := Lib.hid (And.intro hl (And.intro hbytes (And.intro hA (And.intro hok hns))))
 have HNC := Lib.hid hnc
 have X0 := Lib.hid (And.intro hN (And.intro hwa ba))
 clear hl hbytes hA hok hns hnc hwa ba hla hpl he he1 hbits hF hFl hrt hbp hbpl hrtb
 rw [hN]
 clear hN
 go_enter Tryz.func24, Tryz.ntmps24
 go_wp2_with fail
 have hN := X0.out.1
 rw [X0.out.2.1, hN]
 clear hN
 refine HRH.out.mono ?_
 rintro e w1 ⟨hb1, rfl⟩
 have X1 := Lib.hid hb1
 clear hb1 HRH
 go_upto_region 5 with fail
 obtain ⟨G, hG⟩ : ∃ G, w1.heap.size = G := ⟨_, rfl⟩
 obtain ⟨w2, hw2⟩ : ∃ w2, w1.alloc (.cells #[.bool vr, .int .i64 sz, .int .i64 rt, .int .i64 ch, .int .i64 bp, .int .u64 nm] 32) = w2 := ⟨_, rfl⟩
 have hhd : w2.heap[G]? = some (.cells #[.bool vr, .int .i64 sz, .int .i64 rt, .int .i64 ch, .int .i64 bp, .int .u64 nm] 32 (0, 0)) := by rw [← hw2, ← hG]; exact heap_alloc_new _ _
 have hzs : N + 2 ≤ G := by
  have h1 := X1.out.size
  have h2 : wa.heap.size = N + 2 := by rw [← X0.out.2.1, World.size_alloc, World.size_alloc, X0.out.1]
  omega
 have hwaz : wa.heap.size = N + 2 := by rw [← X0.out.2.1, World.size_alloc, World.size_alloc, X0.out.1]
 have hif0 : wa.heap[N]? = some (.cells #[.int .i64 16, .int .i64 4096, .int .i64 0, .int .i64 0, .int .i64 rt, .int .i64 nc, .int .i64 bp, .int .u64 ns, sum] 26 (0, 0)) := by
  rw [← X0.out.2.1, Below.heap_alloc _ _ _ (by rw [World.size_alloc, X0.out.1]; omega), ← X0.out.1]; exact heap_alloc_new _ _
 have hrs0 : wa.heap[N + 1]? = some (.cells #[.bool false, .int .i64 0, .int .i64 0, .int .i64 0, .int .i64 0, .int .u64 0] 32 (0, 0)) := by
  have h := heap_alloc_new (w.alloc (.cells #[.int .i64 16, .int .i64 4096, .int .i64 0, .int .i64 0, .int .i64 rt, .int .i64 nc, .int .i64 bp, .int .u64 ns, sum] 26)) (.cells #[.bool false, .int .i64 0, .int .i64 0, .int .i64 0, .int .i64 0, .int .u64 0] 32)
  rw [World.size_alloc, X0.out.1, X0.out.2.1] at h; exact h
 have hb2 : Below wa.heap.size wa w2 := by rw [← hw2]; exact X1.out.alloc X1.out.size _
 have hif := (hb2.block N (by omega)).trans hif0
 have hrs := (hb2.block (N + 1) (by omega)).trans hrs0
 have hbw : Below N w w2 := X0.out.2.2.trans ⟨hb2.os, hb2.tape, hb2.output, hb2.size, fun k hk => hb2.block k (by omega)⟩
 have h0 : w2.cell? ⟨G, 2, none⟩ = some (.int .i64 rt) := by rw [cell_of_row w2 G 2 _ _ _ hhd]; rfl
 have h1 : w2.cell? ⟨G, 3, none⟩ = some (.int .i64 ch) := by rw [cell_of_row w2 G 3 _ _ _ hhd]; rfl
 have h2 : w2.cell? ⟨N, 4, none⟩ = some (.int .i64 rt) := by rw [cell_of_row w2 N 4 _ _ _ hif]; rfl
 have h3 : w2.cell? ⟨N, 5, none⟩ = some (.int .i64 nc) := by rw [cell_of_row w2 N 5 _ _ _ hif]; rfl
 have h4 : w2.cell? ⟨N, 6, none⟩ = some (.int .i64 bp) := by rw [cell_of_row w2 N 6 _ _ _ hif]; rfl
 rw [hw2, hG]
 have X2 := Lib.hid (And.intro hhd (And.intro hif (And.intro hrs hbw)))
 have HW2 := Lib.hid (show w2.heap.size = G + 1 by rw [← hw2, World.size_alloc, hG])
 clear hw2 hG hhd hif hrs hbw hif0 hrs0 hb2 hwaz
 have HCH := Lib.hid (fun w => chan_call ch hch w)
 rw [HNC.out] at HCH
 have g1 : decide ((bp : Int) < 4) = false := by simp; omega
 have g2 : decide ((24 : Int) < (bp : Int)) = false := by simp; omega
 have g3 : ((nc : Int) != (nc : Int)) = false := by simp
 have g4 : ((bp : Int) != (bp : Int)) = false := by simp
 have g5 : ((rt : Int) != (rt : Int)) = false := by simp
 have g6 : ((rt : Int) != 0) = true := by simp; omega
 go_cut [68] (fun y wx => y = .bool false ∧ ∃ q, wx = w2.drewN q)
 case first =>
  go_region_held3 (fun w' => w'.cell? ⟨G, 2, none⟩ = some (.int .i64 rt) ∧ w'.cell? ⟨G, 3, none⟩ = some (.int .i64 ch) ∧ w'.cell? ⟨N, 4, none⟩ = some (.int .i64 rt) ∧ w'.cell? ⟨N, 5, none⟩ = some (.int .i64 nc) ∧ w'.cell? ⟨N, 6, none⟩ = some (.int .i64 bp)) (exact ⟨h0, h1, h2, h3, h4⟩) (first
   | (go_at_call 8; refine (HCH.out _).mono ?_; rintro e w5 ⟨rfl, q5, rfl⟩))
  go_wp2_with fail
  go_meet
  exact ⟨rfl, _, rfl⟩
 case rest =>
  obtain ⟨rfl, q5, hwc⟩ := hcut
  have x1 : wc.heap[G]? = some (.cells #[.bool vr, .int .i64 sz, .int .i64 rt, .int .i64 ch, .int .i64 bp, .int .u64 nm] 32 (0, 0)) := by rw [hwc]; exact X2.out.1
  have x2 : wc.heap[N + 1]? = some (.cells #[.bool false, .int .i64 0, .int .i64 0, .int .i64 0, .int .i64 0, .int .u64 0] 32 (0, 0)) := by rw [hwc]; exact X2.out.2.2.1
  have x3 : Below N w wc := by rw [hwc]; exact below_drewN X2.out.2.2.2 q5
  have x4 : wc.heap.size = G + 1 := by rw [hwc]; exact HW2.out
  have X3 := Lib.hid (And.intro x1 (And.intro x2 (And.intro x3 x4)))
  clear x1 x2 x3 x4
  clear hwc h0 h1 h2 h3 h4 g1 g2 g3 g4 g5 g6 HW2
  have hpn : p ≤ 100000000000000 := by
   have h1 := HH.out.2.2.1.hl
   have h2 := HH.out.2.2.1.hq
   have h3 := HH.out.1.1
   omega
  go_upto_region 9 with fail
  obtain ⟨w4, hw4⟩ : ∃ w4, (wc.alloc (.cells #[.slice (some ad) n c, .int .i64 (8 * (p : Int)), .bool false] 156)).alloc (.cells #[] 44) = w4 := ⟨_, rfl⟩
  have hz3 := X3.out.2.2.2
  have hza : (wc.alloc (.cells #[.slice (some ad) n c, .int .i64 (8 * (p : Int)), .bool false] 156)).heap.size = G + 2 := by rw [World.size_alloc, hz3]
  have hb4 : Below wc.heap.size wc w4 := by rw [← hw4]; exact below_alloc (below_alloc (Below.refl _ _) _) _
  have hd4 := (hb4.block G (by omega)).trans X3.out.1
  have hr4 := (hb4.block (N + 1) (by omega)).trans X3.out.2.1
  have hbw4 : Below N w w4 := X3.out.2.2.1.trans ⟨hb4.os, hb4.tape, hb4.output, hb4.size, fun k hk => hb4.block k (by omega)⟩
  have hrd : Rd w (G + 1) l (8 * p) w4 := by
   refine ⟨⟨some ad, c, ?_, by rw [X0.out.1]; omega, Kd.C_of_reads (h1 := fun _ => rfl) (readsInt_of.1 (by rw [HH.out.1.1]; exact HH.out.1))⟩, by rw [X0.out.1]; exact hbw4⟩
   rw [← hw4, Below.heap_alloc _ _ _ (by rw [hza]; omega), ← hz3, HH.out.1.1, show ((8 * p : Nat) : Int) = 8 * (p : Int) by omega]; exact heap_alloc_new _ _
  have hown : w4.ownsRow N 44 1 (.slice (some ⟨G + 2, 0, none⟩) 0 0) 0 [] := by
   rw [← hw4, ← hza]; exact World.ownsRow_made _ #[] 0 (by rw [hza]; omega) (by decide) rfl
  rw [hz3]
  rw [hw4]
  have X4 := Lib.hid (And.intro hd4 (And.intro hr4 (And.intro hbw4 (And.intro hrd hown))))
  have k3 : w4.cell? ⟨G, 3, none⟩ = some (.int .i64 ch) := by rw [cell_of_row w4 G 3 _ _ _ hd4]; rfl
  clear hw4 hz3 hza hb4 hd4 hr4 hbw4 hrd hown X3
  go_wp2_with fail
  refine (HCH.out _).mono ?_
  rintro e w5 ⟨rfl, q6, rfl⟩
  go_wp2_with fail
  go_loopw [79, 13] (fun iv ov wr => ∃ (j : Nat) (vs : List Value), j ≤ nc ∧ iv = .int .i64 j ∧ wr.heap[G]? = some (.cells #[.bool vr, .int .i64 sz, .int .i64 rt, .int .i64 ch, .int .i64 bp, .int .u64 nm] 32 (0, 0)) ∧ wr.heap[N + 1]? = some (.cells #[.bool false, .int .i64 0, .int .i64 0, .int .i64 0, .int .i64 0, .int .u64 0] 32 (0, 0)) ∧ Below N w wr ∧ Rd w (G + 1) l (8 * p + (allBits bp (subs.take j)).length) wr ∧ wr.ownsRow N 44 1 ov j vs ∧ RowsAre wr N vs subs j) (fun iv _ _ => nc - (intOf iv).toNat)
  case atStart =>
   have hbd := below_drewN (Below.refl w4.heap.size w4) q6
   exact ⟨0, [], by omega, rfl, X4.out.1, X4.out.2.1, below_drewN X4.out.2.2.1 q6, ⟨X4.out.2.2.2.1.is.below hbd, below_drewN X4.out.2.2.2.1.bel q6⟩, own_touch X4.out.2.2.2.2 (Touch.of_below (S := []) hbd) (by simp), fun c hc => absurd hc (by omega)⟩
  case round =>
   obtain ⟨j, vs, hj, rfl, h1, h2, h3, h4, h5, h6⟩ := hrel
   have Y := Lib.hid (And.intro h1 (And.intro h2 (And.intro h3 (And.intro h4 (And.intro h5 h6)))))
   have k3 : wr.cell? ⟨G, 3, none⟩ = some (.int .i64 ch) := by rw [cell_of_row wr G 3 _ _ _ h1]; rfl
   have k1 : wr.cell? ⟨G, 1, none⟩ = some (.int .i64 sz) := by rw [cell_of_row wr G 1 _ _ _ h1]; rfl
   clear h1 h2 h3 h4 h5 h6
   by_cases hjn : j < nc
   ·go_wp2_with fail
    refine (side_call ch j hch (by omega) _).mono ?_
    rintro e w5 ⟨rfl, q7, rfl⟩
    go_wp2_with fail
    have hbd := below_drewN (Below.refl wr.heap.size wr) q7
    have hjl : j < subs.length := by rw [HH.out.2.2.2.2]; exact hjn
    have hbt := allBits_at HH.out.2.2.1.hs hjl
    have hokj : SubOk bp sz (subs.getD j ⟨0, 0, []⟩).K (subs.getD j ⟨0, 0, []⟩).o (subs.getD j ⟨0, 0, []⟩).xs := by
     rw [List.getD_eq_getElem?_getD, List.getElem?_eq_getElem hjl]; exact HH.out.2.2.2.1 _ (List.getElem_mem hjl)
    have HSR := Lib.hid (sub_read (w := wr.drewN q7) ⟨Y.out.2.2.2.1.is.below hbd, below_drewN Y.out.2.2.2.1.bel q7⟩ (fun i => bytes_at HH.out.2.1 i) (by rw [HH.out.1.1]; omega) hokj hbt.1)
    have HBT := Lib.hid hbt
    have HOK := Lib.hid hokj
    clear hbt hokj hjl hbd
    refine HSR.out.mono ?_
    rintro e w6 ⟨vx, rfl, hox, hrd6, t6⟩
    obtain ⟨Ax, cx, rfl, _⟩ := own_reads hox
    have X6 := Lib.hid (And.intro hox (And.intro hrd6 t6))
    clear hox hrd6 t6 HSR
    go_wp2_with (with_reducible refine stop_dst (N := 104) rfl ?_)
    refine unstop ?_
    obtain ⟨w7, hw7⟩ : ∃ w7, w6.alloc (.cells #[.slice Ax sz cx] 44) = w7 := ⟨_, rfl⟩
    have nb7 : w7.heap[w6.heap.size]? = some (.cells #[.slice Ax sz cx] 44 (0, 0)) := by rw [← hw7]; exact heap_alloc_new _ _
    have hb67 : Below w6.heap.size w6 w7 := by rw [← hw7]; exact below_alloc (Below.refl _ _) _
    have t67 : Touch [G + 1] wr w7 := ((Touch.of_below (S := [G + 1]) (below_drewN (Below.refl wr.heap.size wr) q7)).trans X6.out.2.2).trans (Touch.of_below hb67)
    rw [hw7]
    obtain ⟨csr, hrb⟩ := Y.out.2.2.2.1.blk
    have hown7 := own_touch Y.out.2.2.2.2.1 t67 (own_notin Y.out.2.2.2.2.1 hrb (by decide))
    obtain ⟨ip, hp0, hp1, hp2, hp3⟩ := info_ints
    have hbn7 : N ≤ w7.heap.size := by have h1 := Y.out.2.2.1.size; have h2 := t67.size; have h3 := X0.out.1; omega
    have hvl : vs.length = j := by have := Y.out.2.2.2.2.1.1; omega
    refine wpList_append_lies _ rfl (.tmp 101) (.tmp 103) 38 rfl N 44 ip (.slice none 0 0) 1 24 Tryz.underlying38 hp0 hp1 hp2 hp3 rfl (by decide) _ j vs rfl hown7 ⟨w6.heap.size, 0, none⟩ 1 1 [.slice Ax sz cx] rfl rfl (World.news_of_block nb7) (by simp [Value.oneCell']) (by decide) (by unfold maxLen; omega) (by omega) hbn7 _ rfl ?_
    intro gv cap w8 hO8 hG8 hA8 hL8
    have X8 := Lib.hid (And.intro hO8 (And.intro (grown_touch hG8) (And.intro hown7 (And.intro t67 (And.intro hb67 (And.intro nb7 hvl))))))
    clear hO8 hG8 hA8 hp0 hp1 hp2 hp3 hown7 t67 hb67 nb7 hrb hvl
    go_wp2_with fail
    obtain ⟨hO8, t78, own7, t67, hb67, nb7, hvl⟩ := X8.out
    have hd7 := t67.heap Y.out.1 (by simp)
    have hr7 := t67.heap Y.out.2.1 (by simp; omega)
    have hd8 := t78.heap hd7 (fun hm => by obtain ⟨_, cs, h⟩ := own_ty own7 G hm; exact blk_ne hd7 h (by decide) rfl)
    have hr8 := t78.heap hr7 (fun hm => by obtain ⟨_, cs, h⟩ := own_ty own7 (N + 1) hm; exact blk_ne hr7 h (by decide) rfl)
    have hbw7 := t67.below (w0 := w) (by rw [X0.out.1]; exact Y.out.2.2.1) (fun k hk => by
     obtain rfl : k = G + 1 := by simpa using hk
     rw [X0.out.1]; omega)
    have hbw8 := t78.below hbw7 (fun k hk => by rw [X0.out.1]; exact (own_ty own7 k hk).1)
    have hrd7 : Rd w (G + 1) l _ w7 := X6.out.2.1.touch (Touch.of_below (S := []) hb67) (by simp) hbw7
    obtain ⟨csr, hrb7⟩ := hrd7.blk
    have hrd8 := hrd7.touch t78 (fun hm => by obtain ⟨_, cs, h⟩ := own_ty own7 (G + 1) hm; exact blk_ne hrb7 h (by decide) rfl) hbw8
    have hox7 := own_touch X6.out.1 (Touch.of_below (S := []) hb67) (by simp)
    have hox8 := own_touch hox7 t78 (own_far2 hox7 own7 (by decide))
    have hox := own_weak hox8 (B' := N) (by have := Y.out.2.2.1.size; have h3 := X0.out.1; show N ≤ wr.heap.size; omega)
    have hrw7 := Y.out.2.2.2.2.2.touch t67 (fun k hk => by
     obtain rfl : k = G + 1 := by simpa using hk
     obtain ⟨cs, h⟩ := Y.out.2.2.2.1.blk
     exact ⟨_, _, _, h, by decide⟩)
    have hrw8 := hrw7.touch t78 (fun k hk => by obtain ⟨_, cs, h⟩ := own_ty own7 k hk; exact ⟨_, _, _, h, by decide⟩)
    have hlenj := HOK.out.len
    refine ⟨⟨j + 1, vs ++ [.slice Ax sz cx], by omega, by simp, hd8, hr8, by rw [X0.out.1] at hbw8; exact hbw8, ?_, hO8, ?_⟩, by simp [intOf]; omega⟩
    ·rw [HBT.out.2, List.length_append, ← Nat.add_assoc]; exact hrd8
    ·rw [← hvl] at hrw8 hox hlenj ⊢
     refine hrw8.snoc ?_
     rw [hlenj]; exact hox
   ·obtain rfl : j = nc := by omega
    have htk : subs.take j = subs := List.take_of_length_le (by rw [HH.out.2.2.2.2]; omega)
    have hy := Y.out
    rw [htk] at hy
    have Y2 := Lib.hid hy
    clear hy htk Y
    go_wp2_with fail
    rename World => wo
    go_loopw [] (fun wp => ∃ kk : Nat, kk ≤ padOf (allBits bp subs).length ∧ Rd w (G + 1) l (8 * p + (allBits bp subs).length + kk) wp ∧ Touch [G + 1] wo wp) (fun wp => 8 * q - (intOf ((wp.cell? ⟨G + 1, 1, none⟩).getD undef)).toNat)
    case atStart => exact ⟨0, Nat.zero_le _, Y2.out.2.2.2.1, Touch.refl _ _⟩
    case round =>
     obtain ⟨kk, hkk, hrd, htt⟩ := hrel
     obtain ⟨pd, hpd⟩ : ∃ pd, padOf (allBits bp subs).length = pd := ⟨_, rfl⟩
     have hpd8 : pd < 8 := by rw [← hpd]; unfold padOf; omega
     have hq8 := HH.out.2.2.1.hq
     have hql := HH.out.2.2.1.hl
     have hln := HH.out.1.1
     rw [hpd] at hkk hq8
     obtain ⟨at_, hat⟩ : ∃ at_, 8 * p + (allBits bp subs).length + kk = at_ := ⟨_, rfl⟩
     rw [hat] at hrd
     have hatb : at_ ≤ 800000000000000 := by omega
     have q1 : wr.cell? ⟨G + 1, 1, none⟩ = some (.int .i64 at_) := by
      obtain ⟨A0, c0, k1, _, _⟩ := hrd.is
      rw [cell_of_row wr (G + 1) 1 _ _ _ k1]; rfl
     have HP := Lib.hid (And.intro hpd (And.intro hkk (And.intro hq8 (And.intro hat (And.intro hrd htt)))))
     clear hpd hkk hrd htt hq8 hql hln hat
     by_cases h0 : at_ % 8 = 0
     ·have e0 : ((at_ : Int) % 8 != 0) = false := by simp; omega
      have hatq : at_ = 8 * q := by
       have h1 := HP.out.2.1
       have h2 := HP.out.2.2.1
       have h3 := HP.out.2.2.2.1
       omega
      have hq2 : q + 2 ≤ n := by have h1 := HH.out.2.2.1.hl; have h2 := HH.out.1.1; omega
      have ep : (at_ : Int) / 8 = (q : Int) := by omega
      obtain ⟨q2, hq2e⟩ : ∃ q2, q + 2 = q2 := ⟨_, rfl⟩
      have ew : IntKind.i64.wrap ((q : Int) + 2) = (q2 : Int) := by rw [IntKind.wrap_i64]; omega
      have g1 : decide ((n : Int) < IntKind.i64.wrap ((q : Int) + 2)) = false := by rw [ew]; simp; omega
      clear ew
      have HQ2 := Lib.hid hq2e
      clear hq2e
      have hqc : (q : Int) ≤ (c : Int) := by omega
      have hbz := HH.out.2.2.1.hz
      rw [← hatq] at hbz
      have hlt : (l.take q).length = q := by rw [List.length_take, HH.out.1.1]; omega
      have hbw9 : Below w.heap.size w wr := HP.out.2.2.2.2.1.bel
      have HW := Lib.hid (fun W (t : Touch [] wr W) => rd_word (w := W) (HP.out.2.2.2.2.1.touch t (by simp) (t.below hbw9 (by simp))) (fun i => bytes_at HH.out.2.1 i) (by rw [HH.out.1.1]; omega) (n := 16) (by decide) hbz)
      have HC := Lib.hid (fun W (b : Below w.heap.size w W) => show Calls Tryz.prog 31 #[.slice (some ad) q c] W fun e w' => e = .returned (.int .i64 z) ∧ ∃ n, w' = W.drewN n from by
       have h := crc16_call (some ad) c (l.take q) W (by rw [hlt]; exact reads_take (HH.out.1.below b) (by omega)) (by omega) (by omega) (fun x hx => HH.out.2.1 x (List.mem_of_mem_take hx))
       rw [hlt, HH.out.2.2.1.hc] at h; exact h)
      clear hbz hlt h0 hatq hbw9
      go_upto_region 24 with fail
      have HT := Lib.hid HP.out.2.2.2.2.1.bel
      go_cut [134] (fun y wx => y = .bool false ∧ Touch [G + 1] wr wx)
      case first =>
       go_region_held3 (fun _ => True) (trivial) (first
        | (go_at_call 48; refine (HW.out _ (by first | exact (Touch.refl [] wr).drew | exact (Touch.refl [] wr).drewN _ | exact ((Touch.refl [] wr).drew).drewN _)).mono ?_; rintro e w5 ⟨rfl, hr5, t5⟩)
        | (go_at_call 31; refine (HC.out _ (by first | exact HT.out.drew | exact hr5.bel | exact hr5.bel.drew)).mono ?_; rintro e w6 ⟨rfl, q6, rfl⟩))
       all_goals
        go_wp2_with fail
        go_meet
        have hz16 := HH.out.2.2.1.hz16
        exact ⟨by rw [show ((z : Int) % 65536 != (z : Int)) = false by simp; omega], ((Touch.refl [G + 1] wr).drew.trans t5).drewN q6⟩
      case rest =>
       obtain ⟨rfl, tc⟩ := hcut
       have t2 := HP.out.2.2.2.2.2.trans tc
       have hd := t2.heap Y2.out.1 (by simp)
       have hr := t2.heap Y2.out.2.1 (by simp; omega)
       have X9 := Lib.hid (And.intro t2 (And.intro hd hr))
       have d0 : wc.cell? ⟨G, 0, none⟩ = some (.bool vr) := by rw [cell_of_row wc G 0 _ _ _ hd]; rfl
       have r0 : wc.cell? ⟨N + 1, 0, none⟩ = some (.bool false) := by rw [cell_of_row wc (N + 1) 0 _ _ _ hr]; rfl
       have s0 : wc.frozen? ⟨N + 1, 0, none⟩ = false := by simp [World.frozen?, hr]
       have d1 : wc.cell? ⟨G, 1, none⟩ = some (.int .i64 sz) := by rw [cell_of_row wc G 1 _ _ _ hd]; rfl
       have r1 : wc.cell? ⟨N + 1, 1, none⟩ = some (.int .i64 0) := by rw [cell_of_row wc (N + 1) 1 _ _ _ hr]; rfl
       have s1 : wc.frozen? ⟨N + 1, 1, none⟩ = false := by simp [World.frozen?, hr]
       have d2 : wc.cell? ⟨G, 2, none⟩ = some (.int .i64 rt) := by rw [cell_of_row wc G 2 _ _ _ hd]; rfl
       have r2 : wc.cell? ⟨N + 1, 2, none⟩ = some (.int .i64 0) := by rw [cell_of_row wc (N + 1) 2 _ _ _ hr]; rfl
       have s2 : wc.frozen? ⟨N + 1, 2, none⟩ = false := by simp [World.frozen?, hr]
       have d3 : wc.cell? ⟨G, 3, none⟩ = some (.int .i64 ch) := by rw [cell_of_row wc G 3 _ _ _ hd]; rfl
       have r3 : wc.cell? ⟨N + 1, 3, none⟩ = some (.int .i64 0) := by rw [cell_of_row wc (N + 1) 3 _ _ _ hr]; rfl
       have s3 : wc.frozen? ⟨N + 1, 3, none⟩ = false := by simp [World.frozen?, hr]
       have d4 : wc.cell? ⟨G, 4, none⟩ = some (.int .i64 bp) := by rw [cell_of_row wc G 4 _ _ _ hd]; rfl
       have r4 : wc.cell? ⟨N + 1, 4, none⟩ = some (.int .i64 0) := by rw [cell_of_row wc (N + 1) 4 _ _ _ hr]; rfl
       have s4 : wc.frozen? ⟨N + 1, 4, none⟩ = false := by simp [World.frozen?, hr]
       have d5 : wc.cell? ⟨G, 5, none⟩ = some (.int .u64 nm) := by rw [cell_of_row wc G 5 _ _ _ hd]; rfl
       have r5 : wc.cell? ⟨N + 1, 5, none⟩ = some (.int .u64 0) := by rw [cell_of_row wc (N + 1) 5 _ _ _ hr]; rfl
       have s5 : wc.frozen? ⟨N + 1, 5, none⟩ = false := by simp [World.frozen?, hr]
       clear t2 hd hr
       go_wp2_with fail
       obtain ⟨wz, hwz, tz, t0, t1, t2, t3, t4, t5⟩ := rf_ret (b0 := vr) (i1 := sz) (i2 := rt) (i3 := ch) (i4 := bp) (i5 := nm) X9.out.2.2
       rw [hwz]
       have hown := Y2.out.2.2.2.2.1
       have hrow := Y2.out.2.2.2.2.2
       have hrb := Y2.out.2.2.2.1.blk
       have hrz := Y2.out.2.1
       obtain ⟨csr, hrb⟩ := hrb
       have hown9 := own_touch hown X9.out.1 (own_notin hown hrb (by decide))
       have hrow9 := hrow.touch X9.out.1 (fun k hk => by
        obtain rfl : k = G + 1 := by simpa using hk
        exact ⟨_, _, _, hrb, by decide⟩)
       have hownz := own_touch hown9 tz (own_notin hown9 X9.out.2.2 (by decide))
       have hrowz := hrow9.touch tz (fun k hk => by
        obtain rfl : k = N + 1 := by simpa using hk
        exact ⟨_, _, _, X9.out.2.2, by decide⟩)
       have hbz : Below N w wz := by
        have h1 := X9.out.1.below (w0 := w) (by rw [X0.out.1]; exact Y2.out.2.2.1) (fun k hk => by
         obtain rfl : k = G + 1 := by simpa using hk
         rw [X0.out.1]; omega)
        have h2 := tz.below h1 (fun k hk => by
         obtain rfl : k = N + 1 := by simpa using hk
         rw [X0.out.1]; omega)
        rw [X0.out.1] at h2; exact h2
       exact bodyPost_ret (by simp [results, Tryz.results24, go_sem, t0, t1, t2, t3, t4, t5]; rfl) rfl ⟨hbz, _, rfl, _, by rw [HH.out.2.2.2.2]; exact hownz, fun c hc => hrowz c (by rw [← HH.out.2.2.2.2]; exact hc)⟩
     ·have e0 : ((at_ : Int) % 8 != 0) = true := by simp; omega
      have hkl : kk < pd := by
       have h1 := HP.out.2.1
       have h2 := HP.out.2.2.1
       have h3 := HP.out.2.2.2.1
       omega
      have hbit := pad_bit (k := kk) (by have h := HH.out.2.2.1.hpad; rw [HP.out.1] at h; exact h) hkl
      rw [HP.out.2.2.2.1] at hbit
      have HW := Lib.hid (rd_word HP.out.2.2.2.2.1 (fun i => bytes_at HH.out.2.1 i) (by rw [HH.out.1.1]; omega) (by decide) hbit)
      clear hbit
      go_wp2_with fail
      refine HW.out.mono ?_
      rintro e w9 ⟨rfl, hrd9, t9⟩
      have q9 : w9.cell? ⟨G + 1, 1, none⟩ = some (.int .i64 (at_ + 1 : Nat)) := by
       obtain ⟨A0, c0, k1, _, _⟩ := hrd9.is
       rw [cell_of_row w9 (G + 1) 1 _ _ _ k1]; rfl
      have X9 := Lib.hid (And.intro hrd9 (And.intro t9 q9))
      clear hrd9 t9 q9 HW
      go_wp2_with fail
      refine ⟨⟨kk + 1, by rw [HP.out.1]; omega, ?_, HP.out.2.2.2.2.2.trans X9.out.2.1⟩, ?_⟩
      ·rw [← Nat.add_assoc, HP.out.2.2.2.1]; exact X9.out.1
      ·rw [X9.out.2.2, q1]
       have h1 := HP.out.2.1
       have h2 := HP.out.2.2.1
       have h3 := HP.out.2.2.2.1
       simp [intOf]; omega
end Go.Proofs.YtmcllndnjdemaaaGreatDoor.Walk
