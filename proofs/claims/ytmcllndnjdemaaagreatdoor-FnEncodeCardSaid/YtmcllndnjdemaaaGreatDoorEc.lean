/- laws.encodable: a frame as the encoder takes it. -/
import Derived.Test.YtmcllndnjdemaaaGreatDoorEcLe
import Derived.Test.YtmcllndnjdemaaaGreatDoorSt
namespace Go.Proofs.YtmcllndnjdemaaaGreatDoor.Walk
set_option linter.unusedVariables false
set_option linter.unusedSimpArgs false
open Go Go.RowKit Go.Proofs.YtmcllndnjdemaaaGreatDoorW.PrintWords Go.Proofs.YtmcllndnjdemaaaGreatDoorW.PrintLast Go.Proofs.YtmcllndnjdemaaaGreatDoorW.PrintMore Go.Proofs.YtmcllndnjdemaaaGreatDoor.Num Go.Proofs.YtmcllndnjdemaaaGreatDoor.Crc Go.Proofs.YtmcllndnjdemaaaGreatDoor.PFnEncode
theorem st_fr {w : World} {g : Nat} {b0 : Bool} {i1 i2 i3 i4 i5 : Int} {u6 : Value} (h : w.heap[g]? = some (.cells #[.bool false, .int .i64 0, .int .i64 0, .int .i64 0, .int .i64 0, .int .u64 0, .slice none 0 0] 36 (0, 0))) :
  ∃ wz, (((((((w.setCell ⟨g, 0, none⟩ (.bool b0)).setCell ⟨g, 1, none⟩ (.int .i64 i1)).setCell ⟨g, 2, none⟩ (.int .i64 i2)).setCell ⟨g, 3, none⟩ (.int .i64 i3)).setCell ⟨g, 4, none⟩ (.int .i64 i4)).setCell ⟨g, 5, none⟩ (.int .u64 i5)).setCell ⟨g, 6, none⟩ u6) = wz ∧ Touch [g] w wz ∧ wz.heap[g]? = some (.cells #[.bool b0, .int .i64 i1, .int .i64 i2, .int .i64 i3, .int .i64 i4, .int .u64 i5, u6] 36 (0, 0)) := by
 have z0 := blk_set h 0 (.bool b0)
 have z1 := blk_set z0 1 (.int .i64 i1)
 have z2 := blk_set z1 2 (.int .i64 i2)
 have z3 := blk_set z2 3 (.int .i64 i3)
 have z4 := blk_set z3 4 (.int .i64 i4)
 have z5 := blk_set z4 5 (.int .u64 i5)
 have z6 := blk_set z5 6 u6
 have hb := (((((((Touch.refl [g] w).setCell (p := ⟨g, 0, none⟩) (.inl (by simp)) (.bool b0)).setCell (p := ⟨g, 1, none⟩) (.inl (by simp)) (.int .i64 i1)).setCell (p := ⟨g, 2, none⟩) (.inl (by simp)) (.int .i64 i2)).setCell (p := ⟨g, 3, none⟩) (.inl (by simp)) (.int .i64 i3)).setCell (p := ⟨g, 4, none⟩) (.inl (by simp)) (.int .i64 i4)).setCell (p := ⟨g, 5, none⟩) (.inl (by simp)) (.int .u64 i5)).setCell (p := ⟨g, 6, none⟩) (.inl (by simp)) u6
 obtain ⟨wz, hwz⟩ : ∃ wz, (((((((w.setCell ⟨g, 0, none⟩ (.bool b0)).setCell ⟨g, 1, none⟩ (.int .i64 i1)).setCell ⟨g, 2, none⟩ (.int .i64 i2)).setCell ⟨g, 3, none⟩ (.int .i64 i3)).setCell ⟨g, 4, none⟩ (.int .i64 i4)).setCell ⟨g, 5, none⟩ (.int .u64 i5)).setCell ⟨g, 6, none⟩ u6) = wz := ⟨_, rfl⟩
 rw [hwz] at z6 hb
 exact ⟨wz, hwz, hb, by rw [z6]; simp only [List.setIfInBounds_toArray, List.set_cons_zero, List.set_cons_succ]⟩
theorem chan_cells {w : World} {B0 gc m cc sz : Nat} {subs : List Sb} {vs : List Value} (hc1 : w.ownsRow B0 44 1 (.slice (some ⟨gc, 0, none⟩) m cc) m vs) (hc2 : ∀ c, c < m → ∃ u, vs[c]? = some u ∧ w.ownsRow B0 3 1 u (subs.getD c ⟨0, 0, []⟩).xs.length (nums .i64 (subs.getD c ⟨0, 0, []⟩).xs))
  (hl : ∀ s ∈ subs, s.xs.length = sz) (hm : subs.length = m) (hs0 : 0 < sz) (c : Nat) (hc : c < m) : ∃ gx cx, ∀ W, Below w.heap.size w W → W.cell? ⟨gc, c, none⟩ = some (.slice (some ⟨gx, 0, none⟩) sz cx) ∧ ∀ i, i < sz → W.cell? ⟨gx, i, none⟩ = some (.int .i64 ((subs.getD c ⟨0, 0, []⟩).xs.getD i 0)) := by
 obtain ⟨u, h1, h2⟩ := hc2 c hc
 have hlen : (subs.getD c ⟨0, 0, []⟩).xs.length = sz := by
  rw [List.getD_eq_getElem?_getD, List.getElem?_eq_getElem (by omega)]; exact hl _ (List.getElem_mem _)
 rw [hlen] at h2
 obtain ⟨gx, cx, rfl, _, _⟩ := h2.form hs0
 exact ⟨gx, cx, fun W b => ⟨cell_below b (own_cell hc1 h1), fun i hi => cell_below b (own_cell h2 (nums_at (by omega)))⟩⟩
theorem own_snoc32 {w : World} {B i : Nat} {v : Value} {xs : List Int} {x : Int} (hi : i < xs.length) (hx : xs.getD i 0 = x) (h : w.ownsRow B 21 1 v (i + 1) (nums .i32 (xs.take i) ++ [.int .i32 x])) : w.ownsRow B 21 1 v (i + 1) (nums .i32 (xs.take (i + 1))) := by
 have e : nums .i32 (xs.take (i + 1)) = nums .i32 (xs.take i) ++ [.int .i32 x] := by
  unfold nums
  rw [List.take_add_one, List.getElem?_eq_getElem hi, List.map_append, ← hx, List.getD_eq_getElem?_getD, List.getElem?_eq_getElem hi]; rfl
 rw [e]; exact h
set_option maxHeartbeats 16000000 in
set_option maxRecDepth 100000 in
theorem encodable_call {vr : Bool} {sz rt2 asg bp nm rt nch d nk ck cc m B0 : Nat} {Ac Ak : Option Addr} {kinds : List Int} {subs : List Sb} {w : World} (hch : Chans w B0 (.slice Ac m cc) subs) (hm : subs.length = m) (hraw : ∀ s ∈ subs, s.xs.length = sz ∧ ∀ x ∈ s.xs, -(2 ^ (bp - 1) : Nat) ≤ x ∧ x < (2 ^ (bp - 1) : Nat)) (hk : ReadsInt w .u8 Ak nk kinds) (hkb : ∀ x ∈ kinds, 0 ≤ x ∧ x ≤ 255) (hnk : nk ≤ 100) (hs0 : 0 < sz) (hs1 : sz ≤ 256) (hbp : BpOk bp) (hm0 : 0 < m) (hm8 : m ≤ 8) :
  Calls Tryz.prog 5 #[.agg #[.bool vr, .int .i64 sz, .int .i64 rt2, .int .i64 asg, .int .i64 bp, .int .u64 nm], .slice Ac m cc, .slice Ak nk ck, .agg #[.int .i64 16, .int .i64 4096, .int .i64 0, .int .i64 0, .int .i64 rt, .int .i64 nch, .int .i64 bp, .int .u64 d, .slice none 0 0]] w fun e w' => Below w.heap.size w w' ∧ ∃ sv ss fs, e = .returned (.agg #[.bool vr, .int .i64 sz, .int .i64 rt, .int .i64 asg, .int .i64 bp, .int .u64 nm, sv]) ∧ w'.ownsRow w.heap.size 59 9 sv m ss ∧ SubsAre w' ss fs m ∧ fs.length = m ∧
   (∀ j, j < m → (fs.getD j ⟨0, 0, []⟩).xs = (subs.getD j ⟨0, 0, []⟩).xs) ∧ ∀ s ∈ fs, SubOk bp sz s.K s.o s.xs ∧ s.o ≤ 4 := by
 obtain ⟨N, hN⟩ : ∃ N, w.heap.size = N := ⟨_, rfl⟩
 obtain ⟨vs, hc1, hc2⟩ := hch
 rw [hm] at hc1 hc2
 obtain ⟨gc, capc, hvc, _, _⟩ := hc1.form hm0
 injection hvc with hv1 hv2 hv3
 subst hv1
 have HC := Lib.hid (chan_cells hc1 hc2 (fun s hs => (hraw s hs).1) hm hs0)
 have hbb : 0 < bp ∧ bp ≤ 24 ∧ 2 ^ (bp - 1) ≤ 8388608 := by rcases hbp with h | h | h | h | h <;> (subst h; decide)
 have HR := Lib.hid (And.intro hraw (And.intro hm hbb))
 have HK := Lib.hid (And.intro hk hkb)
 rw [hN]
 clear hc1 hc2 hraw hm hbb hk hkb hv2 hv3 hbp
 go_enter Tryz.func5, Tryz.ntmps5
 go_upto_region 1 with fail
 obtain ⟨wa, hwa⟩ : ∃ wa, ((w.alloc (.cells #[.bool vr, .int .i64 sz, .int .i64 rt2, .int .i64 asg, .int .i64 bp, .int .u64 nm] 32)).alloc (.cells #[.int .i64 16, .int .i64 4096, .int .i64 0, .int .i64 0, .int .i64 rt, .int .i64 nch, .int .i64 bp, .int .u64 d, .slice none 0 0] 26)).alloc (.cells #[.bool false, .int .i64 0, .int .i64 0, .int .i64 0, .int .i64 0, .int .u64 0, .slice none 0 0] 36) = wa := ⟨_, rfl⟩
 have s1 : (w.alloc (.cells #[.bool vr, .int .i64 sz, .int .i64 rt2, .int .i64 asg, .int .i64 bp, .int .u64 nm] 32)).heap.size = N + 1 := by rw [World.size_alloc, hN]
 have s2 : ((w.alloc (.cells #[.bool vr, .int .i64 sz, .int .i64 rt2, .int .i64 asg, .int .i64 bp, .int .u64 nm] 32)).alloc (.cells #[.int .i64 16, .int .i64 4096, .int .i64 0, .int .i64 0, .int .i64 rt, .int .i64 nch, .int .i64 bp, .int .u64 d, .slice none 0 0] 26)).heap.size = N + 2 := by rw [World.size_alloc, s1]
 have hsa : wa.heap.size = N + 3 := by rw [← hwa, World.size_alloc, s2]
 have hba : Below N w wa := by rw [← hwa, ← hN]; exact below_alloc (below_alloc (below_alloc (Below.refl _ _) _) _) _
 have ha2 : wa.heap[N + 2]? = some (.cells #[.bool false, .int .i64 0, .int .i64 0, .int .i64 0, .int .i64 0, .int .u64 0, .slice none 0 0] 36 (0, 0)) := by rw [← hwa, ← s2]; exact heap_alloc_new _ _
 have ha1 : wa.heap[N + 1]? = some (.cells #[.int .i64 16, .int .i64 4096, .int .i64 0, .int .i64 0, .int .i64 rt, .int .i64 nch, .int .i64 bp, .int .u64 d, .slice none 0 0] 26 (0, 0)) := by
  rw [← hwa, Below.heap_alloc _ _ _ (by rw [s2]; omega), ← s1]; exact heap_alloc_new _ _
 have ha0 : wa.heap[N]? = some (.cells #[.bool vr, .int .i64 sz, .int .i64 rt2, .int .i64 asg, .int .i64 bp, .int .u64 nm] 32 (0, 0)) := by
  rw [← hwa, Below.heap_alloc _ _ _ (by rw [s2]; omega), Below.heap_alloc _ _ _ (by rw [s1]; omega), ← hN]; exact heap_alloc_new _ _
 have h0 : wa.cell? ⟨N, 0, none⟩ = some (.bool vr) := by rw [cell_of_row wa N 0 _ _ _ ha0]; rfl
 have h1 : wa.cell? ⟨N, 1, none⟩ = some (.int .i64 sz) := by rw [cell_of_row wa N 1 _ _ _ ha0]; rfl
 have h2 : wa.cell? ⟨N, 2, none⟩ = some (.int .i64 rt2) := by rw [cell_of_row wa N 2 _ _ _ ha0]; rfl
 have h3 : wa.cell? ⟨N, 3, none⟩ = some (.int .i64 asg) := by rw [cell_of_row wa N 3 _ _ _ ha0]; rfl
 have h4 : wa.cell? ⟨N, 4, none⟩ = some (.int .i64 bp) := by rw [cell_of_row wa N 4 _ _ _ ha0]; rfl
 have h5 : wa.cell? ⟨N, 5, none⟩ = some (.int .u64 nm) := by rw [cell_of_row wa N 5 _ _ _ ha0]; rfl
 have i6 : wa.cell? ⟨N + 1, 6, none⟩ = some (.int .i64 bp) := by rw [cell_of_row wa (N + 1) 6 _ _ _ ha1]; rfl
 have i4 : wa.cell? ⟨N + 1, 4, none⟩ = some (.int .i64 rt) := by rw [cell_of_row wa (N + 1) 4 _ _ _ ha1]; rfl
 rw [hwa, show N + 1 + 1 = N + 2 from rfl]
 have X0 := Lib.hid (And.intro hba (And.intro ha2 hsa))
 clear hwa s1 s2 hba ha0 ha1 ha2
 go_wp2_with fail
 obtain ⟨w1, hw1⟩ : ∃ w1, wa.alloc (.cells #[.bool vr, .int .i64 sz, .int .i64 rt, .int .i64 asg, .int .i64 bp, .int .u64 nm, .slice none 0 0] 36) = w1 := ⟨_, rfl⟩
 have hb1 : Below N w w1 := by rw [← hw1]; exact X0.out.1.alloc (by omega) _
 have hf1 : w1.heap[N + 3]? = some (.cells #[.bool vr, .int .i64 sz, .int .i64 rt, .int .i64 asg, .int .i64 bp, .int .u64 nm, .slice none 0 0] 36 (0, 0)) := by rw [← hw1, ← X0.out.2.2]; exact heap_alloc_new _ _
 have hz1 : w1.heap[N + 2]? = some (.cells #[.bool false, .int .i64 0, .int .i64 0, .int .i64 0, .int .i64 0, .int .u64 0, .slice none 0 0] 36 (0, 0)) := by rw [← hw1, Below.heap_alloc _ _ _ (by rw [X0.out.2.2]; omega)]; exact X0.out.2.1
 rw [hw1]
 have X1 := Lib.hid (And.intro hb1 (And.intro hf1 hz1))
 clear hw1 hb1 hf1 hz1 h0 h1 h2 h3 h4 h5 i4 i6 hsa
 go_wp2_with fail
 go_loopw [34] (fun iv wx => ∃ (c : Nat) (sv : Value) (ss : List Value) (fs : List Sb), iv = .int .i64 c ∧ c ≤ m ∧ fs.length = c ∧ wx.heap[N + 3]? = some (.cells #[.bool vr, .int .i64 sz, .int .i64 rt, .int .i64 asg, .int .i64 bp, .int .u64 nm, sv] 36 (0, 0)) ∧ wx.heap[N + 2]? = some (.cells #[.bool false, .int .i64 0, .int .i64 0, .int .i64 0, .int .i64 0, .int .u64 0, .slice none 0 0] 36 (0, 0)) ∧ wx.ownsRow N 59 9 sv c ss ∧ SubsAre wx ss fs c ∧ (∀ j, j < c → (fs.getD j ⟨0, 0, []⟩).xs = (subs.getD j ⟨0, 0, []⟩).xs) ∧ (∀ s ∈ fs, SubOk bp sz s.K s.o s.xs ∧ s.o ≤ 4) ∧ Below N w wx) (fun iv _ => m - (intOf iv).toNat)
 case atStart => exact ⟨0, .slice none 0 0, [], [], rfl, by omega, rfl, X1.out.2.1, X1.out.2.2, World.ownsRow_nil _ _ _ _, fun k hk => absurd hk (by omega), fun k hk => absurd hk (by omega), by simp, X1.out.1⟩
 case round =>
  rename World => wo
  obtain ⟨c, sv, ss, fs, rfl, hc, hfl, hF, hZ, ho, hS, hxs, hok, hb⟩ := hrel
  have Y := Lib.hid (And.intro hfl (And.intro hF (And.intro hZ (And.intro ho (And.intro hS (And.intro hxs (And.intro hok hb)))))))
  clear hfl hF hZ ho hS hxs hok hb
  by_cases hlt : c < m
  ·obtain ⟨gx, cx, hx⟩ := HC.out c hlt
   obtain ⟨xs, hxe⟩ : ∃ xs, (subs.getD c ⟨0, 0, []⟩).xs = xs := ⟨_, rfl⟩
   rw [hxe] at hx
   have hmem : subs.getD c ⟨0, 0, []⟩ ∈ subs := by
    rw [List.getD_eq_getElem?_getD, List.getElem?_eq_getElem (by rw [HR.out.2.1]; omega)]; exact List.getElem_mem _
   have hr := HR.out.1 _ hmem
   rw [hxe] at hr
   have hw0 : Below w.heap.size w wo := by rw [hN]; exact Y.out.2.2.2.2.2.2.2
   have e1 := (hx wo hw0).1
   have HX := Lib.hid (And.intro hxe (And.intro hr hx))
   clear hxe hx hmem hr
   go_upto_if 41 with fail
   go_cut [12] from 42 to 50 (fun y wx => ∃ K0 : Nat, K0 ≤ 2 ∧ y = .int .i64 K0 ∧ wx = wo)
   case first =>
    by_cases hn0 : 0 < nk
    ·obtain ⟨ad, rfl, hcell⟩ := (HK.out.1.below hw0).2.2 hn0
     obtain ⟨q, hq⟩ : ∃ q, c % nk = q := ⟨_, rfl⟩
     have hqn : q < nk := by rw [← hq]; exact Nat.mod_lt _ hn0
     have eq1 : (c : Int) % (nk : Int) = (q : Int) := by rw [← hq]; simp
     have eq2 : Int.tmod (c : Int) (nk : Int) = (q : Int) := by rw [← hq]; simp [Int.tmod]
     obtain ⟨y, hy⟩ : ∃ y, kinds.getD q 0 = y := ⟨_, rfl⟩
     have hyb : 0 ≤ y ∧ y ≤ 255 := by
      rw [← hy, List.getD_eq_getElem?_getD, List.getElem?_eq_getElem (by rw [HK.out.1.1]; exact hqn)]
      exact HK.out.2 _ (List.getElem_mem _)
     obtain ⟨yn, hyn⟩ : ∃ yn : Nat, y = (yn : Int) := ⟨y.toNat, by omega⟩
     have c1 := hcell q hqn
     rw [hy, hyn] at c1
     have hyn2 : yn ≤ 255 := by omega
     have ez : ((nk : Int) == 0) = false := by simp; omega
     have en2 : decide ((0 : Int) < (nk : Int)) = true := by simp; omega
     obtain ⟨r, hrr⟩ : ∃ r, yn % 3 = r := ⟨_, rfl⟩
     have hr3 : r < 3 := by omega
     have er : (yn : Int) % 3 = (r : Int) := by omega
     have er2 : Int.tmod (yn : Int) 3 = (r : Int) := by rw [Int.tmod_eq_emod_of_nonneg (by omega)]; omega
     clear hq hy hyb hyn hcell hrr
     go_wp2_with fail
     go_meet
     exact ⟨r, by omega, rfl, rfl⟩
    ·have en2 : decide ((0 : Int) < (nk : Int)) = false := by simp; omega
     go_wp2_with fail
     go_meet
     exact ⟨1, by omega, rfl, rfl⟩
   case rest =>
    obtain ⟨K0, hK0, rfl, rfl⟩ := hcut
    rename World => wo
    generalize decide (0 < nk) = b41
    go_upto_region 9 with fail
    go_cut [57] from 51 to 57 (fun y wx => ∃ b : Bool, y = .bool b ∧ (b = true → K0 = 2 ∧ 0 < nk) ∧ wx = wo)
    case first =>
     by_cases hk2 : K0 = 2
     ·have ek : ((K0 : Int) == 2) = true := by simp; omega
      by_cases hn0 : 0 < nk
      ·have en2 : decide ((0 : Int) < (nk : Int)) = true := by simp; omega
       go_wp2_with fail
       go_meet
       exact ⟨true, rfl, fun _ => ⟨hk2, hn0⟩, rfl⟩
      ·have en2 : decide ((0 : Int) < (nk : Int)) = false := by simp; omega
       go_wp2_with fail
       go_meet
       exact ⟨false, rfl, (fun h => by cases h), rfl⟩
     ·have ek : ((K0 : Int) == 2) = false := by simp; omega
      go_wp2_with fail
      go_meet
      exact ⟨false, rfl, (fun h => by cases h), rfl⟩
    case rest =>
    obtain ⟨b57, rfl, hb57, rfl⟩ := hcut
    rename World => wo
    have HB57 := Lib.hid hb57
    clear hb57
    go_upto_if 57 with fail
    go_cut [13] from 58 to 71 (fun y wx => ∃ o : Nat, y = .int .i64 o ∧ o ≤ 4 ∧ o < sz ∧ wx = wo)
    case first =>
     cases b57
     ·go_wp2_with fail
      go_meet
      exact ⟨0, rfl, by omega, hs0, rfl⟩
     ·have hn0 := (HB57.out rfl).2
      obtain ⟨ad, rfl, hcell⟩ := (HK.out.1.below hw0).2.2 hn0
      obtain ⟨q, hq⟩ : ∃ q, c % nk = q := ⟨_, rfl⟩
      have hqn : q < nk := by rw [← hq]; exact Nat.mod_lt _ hn0
      have eq1 : (c : Int) % (nk : Int) = (q : Int) := by rw [← hq]; simp
      have eq2 : Int.tmod (c : Int) (nk : Int) = (q : Int) := by rw [← hq]; simp [Int.tmod]
      obtain ⟨y, hy⟩ : ∃ y, kinds.getD q 0 = y := ⟨_, rfl⟩
      have hyb : 0 ≤ y ∧ y ≤ 255 := by
       rw [← hy, List.getD_eq_getElem?_getD, List.getElem?_eq_getElem (by rw [HK.out.1.1]; exact hqn)]
       exact HK.out.2 _ (List.getElem_mem _)
      obtain ⟨yn, hyn⟩ : ∃ yn : Nat, y = (yn : Int) := ⟨y.toNat, by omega⟩
      have c1 := hcell q hqn
      rw [hy, hyn] at c1
      have hyn2 : yn ≤ 255 := by omega
      have ez : ((nk : Int) == 0) = false := by simp; omega
      obtain ⟨p, hp⟩ : ∃ p, yn / 3 = p := ⟨_, rfl⟩
      have hp85 : p ≤ 85 := by omega
      have ep : (yn : Int) / 3 = (p : Int) := by omega
      have ep2 : Int.tdiv (yn : Int) 3 = (p : Int) := by rw [Int.tdiv_eq_ediv_of_nonneg (by omega)]; omega
      obtain ⟨r, hrr⟩ : ∃ r, p % 5 = r := ⟨_, rfl⟩
      have hr3 : r < 5 := by omega
      have er : (p : Int) % 5 = (r : Int) := by omega
      have er2 : Int.tmod (p : Int) 5 = (r : Int) := by rw [Int.tmod_eq_emod_of_nonneg (by omega)]; omega
      obtain ⟨o, ho⟩ : ∃ o, min r (sz - 1) = o := ⟨_, rfl⟩
      have ho4 : o ≤ 4 ∧ o < sz := by omega
      have eo : min (r : Int) ((sz : Int) - 1) = (o : Int) := by omega
      clear hq hy hyb hyn hcell hrr hp ho
      go_wp2_with fail
      go_meet
      exact ⟨o, rfl, ho4.1, ho4.2, rfl⟩
    case rest =>
     obtain ⟨o, rfl, ho4, hos, rfl⟩ := hcut
     rename World => wo
     go_wp2_with fail
     go_loopw [12, 74] (fun kv iv wx => ∃ K i : Nat, kv = .int .i64 K ∧ iv = .int .i64 i ∧ i ≤ sz ∧ K ≤ 2 ∧ (K = 0 → ∀ j, j < i → xs.getD j 0 = xs.getD 0 0) ∧ wx = wo) (fun _ iv _ => sz - (intOf iv).toNat)
     case atStart => exact ⟨K0, 0, rfl, rfl, by omega, hK0, fun _ j hj => absurd hj (by omega), rfl⟩
     case round =>
      obtain ⟨K, i, rfl, rfl, hi, hK, hsame, rfl⟩ := hrel
      rename World => wo
      by_cases hlti : i < sz
      ·have c0 := (HX.out.2.2 wo hw0).2 0 (by omega)
       have ci := (HX.out.2.2 wo hw0).2 i hlti
       obtain ⟨x0, hx0⟩ : ∃ x0, xs.getD 0 0 = x0 := ⟨_, rfl⟩
       obtain ⟨x, hx⟩ : ∃ x, xs.getD i 0 = x := ⟨_, rfl⟩
       rw [hx0] at c0
       rw [hx] at ci
       have HS := Lib.hid (And.intro hx0 (And.intro hx hsame))
       clear hx0 hx hsame
       by_cases hK1 : K = 0
       ·have ek : ((K : Int) == 0) = true := by simp; omega
        by_cases hne : x = x0
        ·have en : (x != x0) = false := by simp [hne]
         go_wp2_with fail
         go_roundw
         case rel => exact ⟨K, i + 1, rfl, by go_num, by omega, hK, fun h j hj => by
          have h1 := HS.out.1; have h2 := HS.out.2.1
          by_cases hji : j < i
          ·exact HS.out.2.2 h j hji
          ·obtain rfl : j = i := by omega
           omega, by first | rfl | trivial⟩
         case measure => simp [intOf]; omega
        ·have en : (x != x0) = true := by simp [hne]
         go_wp2_with fail
         go_roundw
         case rel => exact ⟨1, i + 1, by first | rfl | trivial, by go_num, by omega, by omega, fun h => absurd h (by omega), by first | rfl | trivial⟩
         case measure => simp [intOf]; omega
       ·have ek : ((K : Int) == 0) = false := by simp; omega
        go_wp2_with fail
        go_roundw
        case rel => exact ⟨K, i + 1, rfl, by go_num, by omega, hK, fun h => absurd h hK1, by first | rfl | trivial⟩
        case measure => simp [intOf]; omega
      ·obtain rfl : sz = i := by omega
       have HSM := Lib.hid hsame
       clear hsame hlti hi
       go_wp2_with fail
       obtain ⟨M5, hM5⟩ : ∃ M5, wo.heap.size = M5 := ⟨_, rfl⟩
       obtain ⟨w5, hw5⟩ : ∃ w5, (wo.alloc (.cells #[.int .i64 12] 3)).alloc (.cells #[.int .i64 K, .int .i64 o, .int .i64 0, .slice none 0 0, .slice none 0 0, .int .i64 0, .int .i64 0, .int .i64 0, .slice (some ⟨M5, 0, none⟩) 1 1] 59) = w5 := ⟨_, rfl⟩
       have s5 : (wo.alloc (.cells #[.int .i64 12] 3)).heap.size = M5 + 1 := by rw [World.size_alloc, hM5]
       have hp5 : w5.heap[M5 + 1]? = some (.cells #[.int .i64 K, .int .i64 o, .int .i64 0, .slice none 0 0, .slice none 0 0, .int .i64 0, .int .i64 0, .int .i64 0, .slice (some ⟨M5, 0, none⟩) 1 1] 59 (0, 0)) := by rw [← hw5, ← s5]; exact heap_alloc_new _ _
       have hq5 : w5.heap[M5]? = some (.cells #[.int .i64 12] 3 (0, 0)) := by rw [← hw5, Below.heap_alloc _ _ _ (by rw [s5]; omega), ← hM5]; exact heap_alloc_new _ _
       have hb5 : Below wo.heap.size wo w5 := by rw [← hw5]; exact below_alloc (below_alloc (Below.refl _ _) _) _
       rw [hM5, hw5]
       have X5 := Lib.hid (And.intro hp5 (And.intro hq5 (And.intro hb5 hM5)))
       clear hw5 s5 hp5 hq5 hb5 hM5
       go_loopw [94] (fun iv wx => ∃ (i : Nat) (rv : Value), iv = .int .i64 i ∧ i ≤ sz ∧ wx.heap[M5 + 1]? = some (.cells #[.int .i64 K, .int .i64 o, .int .i64 0, rv, .slice none 0 0, .int .i64 0, .int .i64 0, .int .i64 0, .slice (some ⟨M5, 0, none⟩) 1 1] 59 (0, 0)) ∧ wx.heap[M5]? = some (.cells #[.int .i64 12] 3 (0, 0)) ∧ wx.ownsRow M5 21 1 rv i (nums .i32 (xs.take i)) ∧ Below wo.heap.size wo wx) (fun iv _ => sz - (intOf iv).toNat)
       case atStart => exact ⟨0, .slice none 0 0, rfl, by omega, X5.out.1, X5.out.2.1, World.ownsRow_nil _ _ _ _, X5.out.2.2.1⟩
       case round =>
        obtain ⟨i, rv, rfl, hi, hP, hQ, hro, hbel⟩ := hrel
        have Z := Lib.hid (And.intro hP (And.intro hQ (And.intro hro hbel)))
        clear hP hQ hro hbel
        have hwr : Below w.heap.size w wr := below_then hw0 hw0.size Z.out.2.2.2
        by_cases hlti : i < sz
        ·
         obtain ⟨x, hx⟩ : ∃ x, xs.getD i 0 = x := ⟨_, rfl⟩
         have ci := (HX.out.2.2 wr hwr).2 i hlti
         rw [hx] at ci
         have hil : i < xs.length := by rw [HX.out.2.1.1]; exact hlti
         have hxb : -8388608 ≤ x ∧ x < 8388608 := by
          have h1 := HX.out.2.1.2 x (by rw [← hx, List.getD_eq_getElem?_getD, List.getElem?_eq_getElem hil]; exact List.getElem_mem hil)
          have h2 := HR.out.2.2.2.2
          omega
         have hx1 := hxb.1
         have hx2 := hxb.2
         have ew : IntKind.i32.wrap x = x := by rw [IntKind.wrap_i32]; omega
         have g3 : wr.cell? ⟨M5 + 1, 3, none⟩ = some rv := by rw [cell_of_row wr (M5 + 1) 3 _ _ _ Z.out.1]; rfl
         have HXI := Lib.hid (And.intro hx hil)
         clear hx hil hxb
         go_wp2_with (with_reducible refine stop_dst (N := 103) rfl ?_)
         refine unstop ?_
         obtain ⟨w7, hw7⟩ : ∃ w7, wr.alloc (.cells #[.int .i32 x] 21) = w7 := ⟨_, rfl⟩
         have nb7 : w7.heap[wr.heap.size]? = some (.cells #[.int .i32 x] 21 (0, 0)) := by rw [← hw7]; exact heap_alloc_new _ _
         have hb7 : Below wr.heap.size wr w7 := by rw [← hw7]; exact below_alloc (Below.refl _ _) _
         rw [hw7]
         have ro7 := own_touch Z.out.2.2.1 (Touch.of_below (S := []) hb7) (by simp)
         have hM7 : M5 ≤ w7.heap.size := by
          have h1 := Z.out.2.2.2.size; have h2 := hb7.size; have h3 := X5.out.2.2.2; omega
         obtain ⟨ip, hp0, hp1, hp2, hp3⟩ := info_any (t := 21) (z := .int .i32 0) (s := 1) (b := 4) (by kernel_rfl)
         refine wpList_append_lies _ rfl (.tmp 99) (.tmp 102) 57 rfl M5 21 ip (.int .i32 0) 1 4 Tryz.underlying57 hp0 hp1 hp2 hp3 rfl (by decide) rv i _ rfl ro7 ⟨wr.heap.size, 0, none⟩ 1 1 [.int .i32 x] rfl rfl (World.news_of_block nb7) (by simp [Value.oneCell']) (by decide) (by unfold maxLen; omega) (by omega) hM7 _ rfl ?_
         intro gv cap w8 hO8 hG8 hA8 hL8
         have t78 := grown_touch hG8
         have hP7 := (Touch.of_below (S := []) hb7).heap Z.out.1 (by simp)
         have hP8 := t78.heap hP7 (fun hm => by obtain ⟨_, cs, h⟩ := own_ty ro7 (M5 + 1) hm; exact blk_ne hP7 h (by decide) rfl)
         have hQ7 := (Touch.of_below (S := []) hb7).heap Z.out.2.1 (by simp)
         have hQ8 := t78.heap hQ7 (fun hm => by obtain ⟨_, cs, h⟩ := own_ty ro7 M5 hm; exact blk_ne hQ7 h (by decide) rfl)
         have b8 : Below wo.heap.size wo w8 := below_touch2 Z.out.2.2.2 (Touch.of_below (S := []) hb7) t78 (Nat.le_refl _) (fun q hq => by rw [X5.out.2.2.2]; exact (own_ty ro7 q hq).1)
         have c3 : w8.cell? ⟨M5 + 1, 3, none⟩ = some rv := by rw [cell_of_row w8 (M5 + 1) 3 _ _ _ hP8]; rfl
         have s3 : w8.frozen? ⟨M5 + 1, 3, none⟩ = false := by simp [World.frozen?, hP8]
         have Z8 := Lib.hid (And.intro hP8 (And.intro hQ8 (And.intro hO8 b8)))
         clear hP8 hQ8 hO8 b8 hP7 hQ7 t78 hG8 hA8 hL8 ip hp0 hp1 hp2 hp3 ro7 hM7 nb7 hb7 hw7 g3 ci
         go_wp2_with fail
         go_roundw
         case rel =>
          have tS := (Touch.refl [M5 + 1] w8).setCell (p := ⟨M5 + 1, 3, none⟩) (.inl (by simp)) (.slice (some ⟨gv, 0, none⟩) (i + 1) cap)
          have oS := own_touch Z8.out.2.2.1 tS (own_notin Z8.out.2.2.1 Z8.out.1 (by decide))
          refine ⟨i + 1, .slice (some ⟨gv, 0, none⟩) (i + 1) cap, by go_num, by omega, ?_, ?_, own_snoc32 HXI.out.2 HXI.out.1 oS, ?_⟩
          ·rw [blk_set Z8.out.1 3]; simp only [List.setIfInBounds_toArray, List.set_cons_zero, List.set_cons_succ]
          ·exact tS.heap Z8.out.2.1 (by simp)
          ·exact tS.below Z8.out.2.2.2 (fun q hq => by
            obtain rfl : q = M5 + 1 := by simpa using hq
            rw [X5.out.2.2.2]; omega)
         case measure => simp [intOf]; omega
        ·obtain rfl : sz = i := by omega
         obtain ⟨gr, cr, rfl, hgr, hgrl⟩ := Z.out.2.2.1.form hs0
         have p0 : wr.cell? ⟨M5 + 1, 0, none⟩ = some (.int .i64 K) := by rw [cell_of_row wr (M5 + 1) 0 _ _ _ Z.out.1]; rfl
         have p1 : wr.cell? ⟨M5 + 1, 1, none⟩ = some (.int .i64 o) := by rw [cell_of_row wr (M5 + 1) 1 _ _ _ Z.out.1]; rfl
         have p2 : wr.cell? ⟨M5 + 1, 2, none⟩ = some (.int .i64 0) := by rw [cell_of_row wr (M5 + 1) 2 _ _ _ Z.out.1]; rfl
         have p3 : wr.cell? ⟨M5 + 1, 3, none⟩ = some (.slice (some ⟨gr, 0, none⟩) sz cr) := by rw [cell_of_row wr (M5 + 1) 3 _ _ _ Z.out.1]; rfl
         have p4 : wr.cell? ⟨M5 + 1, 4, none⟩ = some (.slice none 0 0) := by rw [cell_of_row wr (M5 + 1) 4 _ _ _ Z.out.1]; rfl
         have p5 : wr.cell? ⟨M5 + 1, 5, none⟩ = some (.int .i64 0) := by rw [cell_of_row wr (M5 + 1) 5 _ _ _ Z.out.1]; rfl
         have p6 : wr.cell? ⟨M5 + 1, 6, none⟩ = some (.int .i64 0) := by rw [cell_of_row wr (M5 + 1) 6 _ _ _ Z.out.1]; rfl
         have p7 : wr.cell? ⟨M5 + 1, 7, none⟩ = some (.int .i64 0) := by rw [cell_of_row wr (M5 + 1) 7 _ _ _ Z.out.1]; rfl
         have p8 : wr.cell? ⟨M5 + 1, 8, none⟩ = some (.slice (some ⟨M5, 0, none⟩) 1 1) := by rw [cell_of_row wr (M5 + 1) 8 _ _ _ Z.out.1]; rfl
         have hFr := (Touch.of_below (S := []) Z.out.2.2.2).heap Y.out.2.1 (by simp)
         have g6 : wr.cell? ⟨N + 3, 6, none⟩ = some sv := by rw [cell_of_row wr (N + 3) 6 _ _ _ hFr]; rfl
         have Z2 := Lib.hid hFr
         clear hFr hgr hgrl
         go_wp2_with (with_reducible refine stop_dst (N := 110) rfl ?_)
         refine unstop ?_
         obtain ⟨w7, hw7⟩ : ∃ w7, wr.alloc (.cells #[.int .i64 K, .int .i64 o, .int .i64 0, .slice (some ⟨gr, 0, none⟩) sz cr, .slice none 0 0, .int .i64 0, .int .i64 0, .int .i64 0, .slice (some ⟨M5, 0, none⟩) 1 1] 59) = w7 := ⟨_, rfl⟩
         have nb7 : w7.heap[wr.heap.size]? = some (.cells #[.int .i64 K, .int .i64 o, .int .i64 0, .slice (some ⟨gr, 0, none⟩) sz cr, .slice none 0 0, .int .i64 0, .int .i64 0, .int .i64 0, .slice (some ⟨M5, 0, none⟩) 1 1] 59 (0, 0)) := by rw [← hw7]; exact heap_alloc_new _ _
         have hb7 : Below wr.heap.size wr w7 := by rw [← hw7]; exact below_alloc (Below.refl _ _) _
         rw [hw7]
         have t7 : Touch [] wo w7 := (Touch.of_below (S := []) Z.out.2.2.2).trans (Touch.of_below hb7)
         have so7 := own_touch Y.out.2.2.2.1 t7 (by simp)
         have bw7 : Below N w w7 := by
          have h := t7.below (w0 := w) (by rw [hN]; exact Y.out.2.2.2.2.2.2.2) (by simp)
          rw [hN] at h; exact h
         have hN7 : N ≤ w7.heap.size := by rw [← hN]; exact bw7.size
         obtain ⟨ip, hp0, hp1, hp2, hp3⟩ := info_any (t := 59) (z := .agg #[.int .i64 0, .int .i64 0, .int .i64 0, .slice none 0 0, .slice none 0 0, .int .i64 0, .int .i64 0, .int .i64 0, .slice none 0 0]) (s := 9) (b := 120) (by kernel_rfl)
         refine wpList_append_lies _ rfl (.tmp 107) (.tmp 109) 34 rfl N 59 ip _ 9 120 Tryz.underlying34 hp0 hp1 hp2 hp3 rfl (by decide) sv c _ rfl so7 ⟨wr.heap.size, 0, none⟩ 1 1 [.int .i64 K, .int .i64 o, .int .i64 0, .slice (some ⟨gr, 0, none⟩) sz cr, .slice none 0 0, .int .i64 0, .int .i64 0, .int .i64 0, .slice (some ⟨M5, 0, none⟩) 1 1] rfl rfl (World.news_of_block nb7) (by simp [Value.oneCell']) (by decide) (by unfold maxLen; omega) (by omega) hN7 _ rfl ?_
         intro gv cap w8 hO8 hG8 hA8 hL8
         have t78 := grown_touch hG8
         have hF7 := (Touch.of_below (S := []) hb7).heap Z2.out (by simp)
         have hF8 := t78.heap hF7 (fun hm => by obtain ⟨_, cs, h⟩ := own_ty so7 (N + 3) hm; exact blk_ne hF7 h (by decide) rfl)
         have c6 : w8.cell? ⟨N + 3, 6, none⟩ = some sv := by rw [cell_of_row w8 (N + 3) 6 _ _ _ hF8]; rfl
         have s6 : w8.frozen? ⟨N + 3, 6, none⟩ = false := by simp [World.frozen?, hF8]
         have Z8 := Lib.hid (And.intro hF8 (And.intro hO8 (And.intro t78 (And.intro t7 (And.intro so7 (And.intro bw7 hb7))))))
         clear hF7 hF8 hO8 t78 hG8 hA8 hL8 ip hp0 hp1 hp2 hp3 so7 hN7 nb7 hb7 hw7 g6 t7 bw7 p0 p1 p2 p3 p4 p5 p6 p7 p8
         go_wp2_with fail
         go_roundw
         case rel =>
          have tS := (Touch.refl [N + 3] w8).setCell (p := ⟨N + 3, 6, none⟩) (.inl (by simp)) (.slice (some ⟨gv, 0, none⟩) (c + 1) cap)
          have oS := own_touch Z8.out.2.1 tS (own_notin Z8.out.2.1 Z8.out.1 (by decide))
          have hZ7 := Z8.out.2.2.2.1.heap Y.out.2.2.1 (by simp)
          have hZ8 := Z8.out.2.2.1.heap hZ7 (fun hm => by obtain ⟨_, cs, h⟩ := own_ty Z8.out.2.2.2.2.1 (N + 2) hm; exact blk_ne hZ7 h (by decide) rfl)
          have tySub : ∀ j ∈ sv.ownBlock.toList, ∃ cs ty fz, w7.heap[j]? = some (.cells cs ty fz) ∧ ty ≠ 3 ∧ ty ≠ 21 := fun j hj => by
           obtain ⟨_, cs, h⟩ := own_ty Z8.out.2.2.2.2.1 j hj; exact ⟨_, _, _, h, by decide, by decide⟩
          have tyFr : ∀ j ∈ [N + 3], ∃ cs ty fz, w8.heap[j]? = some (.cells cs ty fz) ∧ ty ≠ 3 ∧ ty ≠ 21 := fun j hj => by
           obtain rfl : j = N + 3 := by simpa using hj
           exact ⟨_, _, _, Z8.out.1, by decide, by decide⟩
          have hsub := ((Y.out.2.2.2.2.1.touch Z8.out.2.2.2.1 (by simp)).touch Z8.out.2.2.1 tySub).touch tS tyFr
          have hxl : xs.length = sz := HX.out.2.1.1
          have hro : wr.ownsRow M5 21 1 (.slice (some ⟨gr, 0, none⟩) sz cr) sz (nums .i32 xs) := by
           have h := Z.out.2.2.1
           rw [show xs.take sz = xs by rw [← hxl, List.take_length]] at h; exact h
          have hnew : SubCells wr (ss ++ [.int .i64 K, .int .i64 o, .int .i64 0, .slice (some ⟨gr, 0, none⟩) sz cr, .slice none 0 0, .int .i64 0, .int .i64 0, .int .i64 0, .slice (some ⟨M5, 0, none⟩) 1 1]) c ⟨K, o, xs⟩ := by
           have h := subCells_new (w := wr) (ss := ss) (j := c) (K := K) (o := o) (gx := gr) (cx := cr) (gq := M5) (cq := 1) (xs := xs) (by have := Y.out.2.2.2.1.1; omega) (row32_of hro) Z.out.2.1 rfl
           rw [hxl] at h; exact h
          have hnew8 := ((hnew.below Z8.out.2.2.2.2.2.2).touch Z8.out.2.2.1 tySub).touch tS tyFr
          have hfl := Y.out.1
          have hbits := HR.out.2.2
          have hOK : SubOk bp sz K o xs := ⟨hbits.1, by have := hbits.2.1; omega, hs0, by omega, hxl, fun x hx => HX.out.2.1.2 x hx, fun h x hx => by
           obtain ⟨j, hj, rfl⟩ := List.mem_iff_getElem.1 hx
           have h1 := HSM.out h j (by omega)
           rw [List.getD_eq_getElem?_getD, List.getElem?_eq_getElem hj] at h1; exact h1, fun _ => ⟨ho4, hos⟩, hK⟩
          refine ⟨c + 1, .slice (some ⟨gv, 0, none⟩) (c + 1) cap, ss ++ [.int .i64 K, .int .i64 o, .int .i64 0, .slice (some ⟨gr, 0, none⟩) sz cr, .slice none 0 0, .int .i64 0, .int .i64 0, .int .i64 0, .slice (some ⟨M5, 0, none⟩) 1 1], fs ++ [⟨K, o, xs⟩], by go_num, by omega, by simp [hfl], ?_, ?_, oS, SubsAre.snoc hsub hfl hnew8, ?_, ?_, ?_⟩
          ·rw [blk_set Z8.out.1 6]; simp only [List.setIfInBounds_toArray, List.set_cons_zero, List.set_cons_succ]
          ·exact tS.heap hZ8 (by simp)
          ·intro j hj
           by_cases hjc : j < c
           ·rw [show (fs ++ [(⟨K, o, xs⟩ : Sb)]).getD j ⟨0, 0, []⟩ = fs.getD j ⟨0, 0, []⟩ by rw [List.getD_eq_getElem?_getD, List.getD_eq_getElem?_getD, List.getElem?_append_left (by omega)]]
            exact Y.out.2.2.2.2.2.1 j hjc
           ·obtain rfl : c = j := by omega
            rw [show (fs ++ [(⟨K, o, xs⟩ : Sb)]).getD c ⟨0, 0, []⟩ = ⟨K, o, xs⟩ by rw [List.getD_eq_getElem?_getD, List.getElem?_append_right (by omega), hfl, Nat.sub_self]; rfl]
            exact HX.out.1.symm
          ·intro s hs
           rcases List.mem_append.1 hs with hs | hs
           ·exact Y.out.2.2.2.2.2.2.1 s hs
           ·rw [List.mem_singleton.1 hs]; exact ⟨hOK, ho4⟩
          ·have b8 := Z8.out.2.2.1.below (w0 := w) (by rw [hN]; exact Z8.out.2.2.2.2.2.1) (fun j hj => by rw [hN]; exact (own_ty Z8.out.2.2.2.2.1 j hj).1)
           have b9 := tS.below b8 (fun j hj => by
            obtain rfl : j = N + 3 := by simpa using hj
            rw [hN]; omega)
           rw [hN] at b9; exact b9
         case measure => simp [intOf]; omega
  ·obtain rfl : m = c := by omega
   obtain ⟨As, cs, rfl⟩ := own_slice Y.out.2.2.2.1
   have q0 : wo.cell? ⟨N + 3, 0, none⟩ = some (.bool vr) := by rw [cell_of_row wo (N + 3) 0 _ _ _ Y.out.2.1]; rfl
   have q1 : wo.cell? ⟨N + 3, 1, none⟩ = some (.int .i64 sz) := by rw [cell_of_row wo (N + 3) 1 _ _ _ Y.out.2.1]; rfl
   have q2 : wo.cell? ⟨N + 3, 2, none⟩ = some (.int .i64 rt) := by rw [cell_of_row wo (N + 3) 2 _ _ _ Y.out.2.1]; rfl
   have q3 : wo.cell? ⟨N + 3, 3, none⟩ = some (.int .i64 asg) := by rw [cell_of_row wo (N + 3) 3 _ _ _ Y.out.2.1]; rfl
   have q4 : wo.cell? ⟨N + 3, 4, none⟩ = some (.int .i64 bp) := by rw [cell_of_row wo (N + 3) 4 _ _ _ Y.out.2.1]; rfl
   have q5 : wo.cell? ⟨N + 3, 5, none⟩ = some (.int .u64 nm) := by rw [cell_of_row wo (N + 3) 5 _ _ _ Y.out.2.1]; rfl
   have q6 : wo.cell? ⟨N + 3, 6, none⟩ = some (.slice As m cs) := by rw [cell_of_row wo (N + 3) 6 _ _ _ Y.out.2.1]; rfl
   have e0 : wo.cell? ⟨N + 2, 0, none⟩ = some (.bool false) := by rw [cell_of_row wo (N + 2) 0 _ _ _ Y.out.2.2.1]; rfl
   have f0 : wo.frozen? ⟨N + 2, 0, none⟩ = false := by simp [World.frozen?, Y.out.2.2.1]
   have e1 : wo.cell? ⟨N + 2, 1, none⟩ = some (.int .i64 0) := by rw [cell_of_row wo (N + 2) 1 _ _ _ Y.out.2.2.1]; rfl
   have f1 : wo.frozen? ⟨N + 2, 1, none⟩ = false := by simp [World.frozen?, Y.out.2.2.1]
   have e2 : wo.cell? ⟨N + 2, 2, none⟩ = some (.int .i64 0) := by rw [cell_of_row wo (N + 2) 2 _ _ _ Y.out.2.2.1]; rfl
   have f2 : wo.frozen? ⟨N + 2, 2, none⟩ = false := by simp [World.frozen?, Y.out.2.2.1]
   have e3 : wo.cell? ⟨N + 2, 3, none⟩ = some (.int .i64 0) := by rw [cell_of_row wo (N + 2) 3 _ _ _ Y.out.2.2.1]; rfl
   have f3 : wo.frozen? ⟨N + 2, 3, none⟩ = false := by simp [World.frozen?, Y.out.2.2.1]
   have e4 : wo.cell? ⟨N + 2, 4, none⟩ = some (.int .i64 0) := by rw [cell_of_row wo (N + 2) 4 _ _ _ Y.out.2.2.1]; rfl
   have f4 : wo.frozen? ⟨N + 2, 4, none⟩ = false := by simp [World.frozen?, Y.out.2.2.1]
   have e5 : wo.cell? ⟨N + 2, 5, none⟩ = some (.int .u64 0) := by rw [cell_of_row wo (N + 2) 5 _ _ _ Y.out.2.2.1]; rfl
   have f5 : wo.frozen? ⟨N + 2, 5, none⟩ = false := by simp [World.frozen?, Y.out.2.2.1]
   have e6 : wo.cell? ⟨N + 2, 6, none⟩ = some (.slice none 0 0) := by rw [cell_of_row wo (N + 2) 6 _ _ _ Y.out.2.2.1]; rfl
   have f6 : wo.frozen? ⟨N + 2, 6, none⟩ = false := by simp [World.frozen?, Y.out.2.2.1]
   go_wp2_with fail
   obtain ⟨wz, hwz, tz, hz⟩ := st_fr (b0 := vr) (i1 := sz) (i2 := rt) (i3 := asg) (i4 := bp) (i5 := nm) (u6 := .slice As m cs) Y.out.2.2.1
   rw [hwz]
   have t0 : wz.cell? ⟨N + 2, 0, none⟩ = some (.bool vr) := by rw [cell_of_row wz (N + 2) 0 _ _ _ hz]; rfl
   have t1 : wz.cell? ⟨N + 2, 1, none⟩ = some (.int .i64 sz) := by rw [cell_of_row wz (N + 2) 1 _ _ _ hz]; rfl
   have t2 : wz.cell? ⟨N + 2, 2, none⟩ = some (.int .i64 rt) := by rw [cell_of_row wz (N + 2) 2 _ _ _ hz]; rfl
   have t3 : wz.cell? ⟨N + 2, 3, none⟩ = some (.int .i64 asg) := by rw [cell_of_row wz (N + 2) 3 _ _ _ hz]; rfl
   have t4 : wz.cell? ⟨N + 2, 4, none⟩ = some (.int .i64 bp) := by rw [cell_of_row wz (N + 2) 4 _ _ _ hz]; rfl
   have t5 : wz.cell? ⟨N + 2, 5, none⟩ = some (.int .u64 nm) := by rw [cell_of_row wz (N + 2) 5 _ _ _ hz]; rfl
   have t6 : wz.cell? ⟨N + 2, 6, none⟩ = some (.slice As m cs) := by rw [cell_of_row wz (N + 2) 6 _ _ _ hz]; rfl
   have oz := own_touch Y.out.2.2.2.1 tz (own_notin Y.out.2.2.2.1 Y.out.2.2.1 (by decide))
   have hsz := Y.out.2.2.2.2.1.touch tz (fun j hj => by
    obtain rfl : j = N + 2 := by simpa using hj
    exact ⟨_, _, _, Y.out.2.2.1, by decide, by decide⟩)
   have bz := tz.below (w0 := w) (by rw [hN]; exact Y.out.2.2.2.2.2.2.2) (fun j hj => by
    obtain rfl : j = N + 2 := by simpa using hj
    rw [hN]; omega)
   rw [hN] at bz
   refine bodyPost_ret (v := .agg #[.bool vr, .int .i64 sz, .int .i64 rt, .int .i64 asg, .int .i64 bp, .int .u64 nm, .slice As m cs]) (by simp [results, Tryz.results5, go_sem, t0, t1, t2, t3, t4, t5, t6]) rfl ?_
   exact ⟨bz, .slice As m cs, ss, fs, rfl, oz, hsz, Y.out.1, Y.out.2.2.2.2.2.1, Y.out.2.2.2.2.2.2.1⟩
end Go.Proofs.YtmcllndnjdemaaaGreatDoor.Walk
