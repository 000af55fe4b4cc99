/- spec.ReadAll at a stream that the package wrote. -/
import Derived.Test.YtmcllndnjdemaaaGreatDoorRf
import Derived.Test.YtmcllndnjdemaaaGreatDoorRig
namespace Go.Proofs.YtmcllndnjdemaaaGreatDoor.Walk
set_option linter.unusedVariables false
set_option linter.unusedSimpArgs false
open Go Go.RowKit Go.Proofs.YtmcllndnjdemaaaGreatDoorW.PrintWords Go.Proofs.YtmcllndnjdemaaaGreatDoorW.PrintLast Go.Proofs.YtmcllndnjdemaaaGreatDoorW.PrintMore Go.Proofs.YtmcllndnjdemaaaGreatDoor.Num Go.Proofs.YtmcllndnjdemaaaGreatDoor.Crc Go.Proofs.YtmcllndnjdemaaaGreatDoor.PFnEncode
theorem Chans.touch {w w' : World} {B : Nat} {v : Value} {subs : List Sb} (h : Chans w B v subs) {U : List Nat} (t : Touch U w w') (hU : ∀ k ∈ U, ∃ cs ty fz, w.heap[k]? = some (.cells cs ty fz) ∧ ty ≠ 3 ∧ ty ≠ 44) : Chans w' B v subs := by
 obtain ⟨vs, h1, h2⟩ := h
 refine ⟨vs, own_touch h1 t (fun k hk hm => ?_), fun c hc => ?_⟩
 ·obtain ⟨cs, ty, fz, h3, h4, h5⟩ := hU k hm
  exact own_ne h1 h3 h5 hk.symm
 ·obtain ⟨u, h3, h4⟩ := h2 c hc
  refine ⟨u, h3, own_touch h4 t (fun k hk hm => ?_)⟩
  obtain ⟨cs, ty, fz, h5, h6, h7⟩ := hU k hm
  exact own_ne h4 h5 h6 hk.symm
theorem Chans.weak {w : World} {B B' : Nat} {v : Value} {subs : List Sb} (h : Chans w B v subs) (hB : B' ≤ B) : Chans w B' v subs := by
 obtain ⟨vs, h1, h2⟩ := h
 refine ⟨vs, own_weak h1 hB, fun c hc => ?_⟩
 obtain ⟨u, h3, h4⟩ := h2 c hc
 exact ⟨u, h3, own_weak h4 hB⟩
def AllRows (w : World) (B : Nat) (vs : List Value) (fs : List Fr) (j : Nat) : Prop := ∀ k, k < j → ∃ u, vs[k]? = some u ∧ Chans w B u (fs.getD k ⟨false, 0, []⟩).subs
theorem AllRows.touch {w w' : World} {B j : Nat} {vs : List Value} {fs : List Fr} (h : AllRows w B vs fs j) {U : List Nat} (t : Touch U w w') (hU : ∀ k ∈ U, ∃ cs ty fz, w.heap[k]? = some (.cells cs ty fz) ∧ ty ≠ 3 ∧ ty ≠ 44) : AllRows w' B vs fs j := fun k hk => by
 obtain ⟨u, h1, h2⟩ := h k hk
 exact ⟨u, h1, h2.touch t hU⟩
theorem AllRows.snoc {w : World} {B : Nat} {vs : List Value} {fs : List Fr} {u : Value} (h : AllRows w B vs fs vs.length) (hu : Chans w B u (fs.getD vs.length ⟨false, 0, []⟩).subs) : AllRows w B (vs ++ [u]) fs (vs.length + 1) := fun k hk => by
 by_cases hl : k < vs.length
 ·obtain ⟨x, h1, h2⟩ := h k hl
  exact ⟨x, by rw [List.getElem?_append_left hl]; exact h1, h2⟩
 ·obtain rfl : k = vs.length := by omega
  exact ⟨u, by simp, hu⟩
def HeadsAre (hs : List Value) (fs : List Fr) (j : Nat) : Prop := ∀ k, k < j → hs[k * 6 + 1]? = some (.int .i64 (fs.getD k ⟨false, 0, []⟩).sz)
theorem HeadsAre.snoc {hs : List Value} {fs : List Fr} {j : Nat} {x0 x2 x3 x4 x5 : Value} (h : HeadsAre hs fs j) (hl : hs.length = j * 6) : HeadsAre (hs ++ [x0, .int .i64 (fs.getD j ⟨false, 0, []⟩).sz, x2, x3, x4, x5]) fs (j + 1) := fun k hk => by
 by_cases hlt : k < j
 ·rw [List.getElem?_append_left (by omega)]; exact h k hlt
 ·obtain rfl : k = j := by omega
  rw [List.getElem?_append_right (by omega), hl, show k * 6 + 1 - k * 6 = 1 by omega]; rfl
def atOf (I : List Int) (Fs : List (List Int)) (j : Nat) : Nat := I.length + ((Fs.take j).flatten).length
theorem atOf_succ (I : List Int) (Fs : List (List Int)) (j : Nat) (hj : j < Fs.length) : atOf I Fs (j + 1) = atOf I Fs j + (Fs.getD j []).length := by
 unfold atOf
 rw [List.take_succ_eq_append_getElem hj, List.flatten_append, List.length_append, List.getD_eq_getElem?_getD, List.getElem?_eq_getElem hj]
 simp; omega
theorem atOf_all (I : List Int) (Fs : List (List Int)) : atOf I Fs Fs.length = (I ++ Fs.flatten).length := by
 unfold atOf; rw [List.take_length, List.length_append]
theorem atOf_le (I : List Int) (Fs : List (List Int)) (j : Nat) : atOf I Fs j ≤ (I ++ Fs.flatten).length := by
 unfold atOf
 conv => rhs; rw [← List.take_append_drop j Fs]
 rw [List.flatten_append, List.length_append, List.length_append]; omega
theorem drop_at (I : List Int) (Fs : List (List Int)) (j : Nat) (hj : j < Fs.length) : (I ++ Fs.flatten).drop (atOf I Fs j) = Fs.getD j [] ++ (Fs.drop (j + 1)).flatten := by
 have e : I ++ Fs.flatten = (I ++ (Fs.take j).flatten) ++ (Fs.getD j [] ++ (Fs.drop (j + 1)).flatten) := by
  conv => lhs; rw [← List.take_append_drop j Fs]
  rw [List.flatten_append, List.drop_eq_getElem_cons hj, List.flatten_cons, List.getD_eq_getElem?_getD, List.getElem?_eq_getElem hj, List.append_assoc]; rfl
 have e2 : atOf I Fs j = (I ++ (Fs.take j).flatten).length := by unfold atOf; rw [List.length_append]
 rw [e, e2, List.drop_left]
theorem cell_al {w : World} {a : Addr} {u : Value} {o : Obj} (h : w.cell? a = some u) : (w.alloc o).cell? a = some u := cell_below (below_alloc (Below.refl _ _) _) h
theorem info_any {t : TypeId} {z : Value} {s b : Nat} (h : (Tryz.prog.info? t).map (fun i => (i.zero, i.size, i.bytes)) = some (some z, s, b)) : ∃ i, Tryz.prog.info? t = some i ∧ i.zero = some z ∧ i.size = s ∧ i.bytes = b := by
 rcases hi : Tryz.prog.info? t with _ | i
 ·rw [hi] at h; cases h
 ·rw [hi] at h
  simp only [Option.map_some, Option.some.injEq, Prod.mk.injEq] at h
  exact ⟨i, rfl, h⟩
theorem own_slice {w : World} {B n : Nat} {e : TypeId} {size : Nat} {v : Value} {xs : List Value} (h : w.ownsRow B e size v n xs) : ∃ A c, v = .slice A n c := by
 rcases h.2 with ⟨rfl, rfl⟩ | ⟨g, cap, cur, rfl, _⟩
 ·exact ⟨_, _, rfl⟩
 ·exact ⟨_, _, rfl⟩
theorem st_head {w : World} {g : Nat} {b0 : Bool} {i1 i2 i3 i4 i5 : Int} (h : w.heap[g]? = some (.cells #[.bool false, .int .i64 0, .int .i64 0, .int .i64 0, .int .i64 0, .int .u64 0] 32 (0, 0))) :
  ∃ wz, ((((((w.setCell ⟨g, 0, none⟩ (.bool b0)).setCell ⟨g, 1, none⟩ (.int .i64 i1)).setCell ⟨g, 2, none⟩ (.int .i64 i2)).setCell ⟨g, 3, none⟩ (.int .i64 i3)).setCell ⟨g, 4, none⟩ (.int .i64 i4)).setCell ⟨g, 5, none⟩ (.int .u64 i5)) = wz ∧ Touch [g] w wz ∧ wz.heap[g]? = some (.cells #[.bool b0, .int .i64 i1, .int .i64 i2, .int .i64 i3, .int .i64 i4, .int .u64 i5] 32 (0, 0)) := by
 have z0 := blk_set h 0 (.bool b0)
 have z1 := blk_set z0 1 (.int .i64 i1)
 have z2 := blk_set z1 2 (.int .i64 i2)
 have z3 := blk_set z2 3 (.int .i64 i3)
 have z4 := blk_set z3 4 (.int .i64 i4)
 have z5 := blk_set z4 5 (.int .u64 i5)
 have hb := (((((((Touch.refl [g] w).setCell (p := ⟨g, 0, none⟩) (.inl (by simp)) (.bool b0)).setCell (p := ⟨g, 1, none⟩) (.inl (by simp)) (.int .i64 i1)).setCell (p := ⟨g, 2, none⟩) (.inl (by simp)) (.int .i64 i2)).setCell (p := ⟨g, 3, none⟩) (.inl (by simp)) (.int .i64 i3)).setCell (p := ⟨g, 4, none⟩) (.inl (by simp)) (.int .i64 i4)).setCell (p := ⟨g, 5, none⟩) (.inl (by simp)) (.int .u64 i5))
 exact ⟨_, rfl, hb, by rw [z5]; simp only [List.setIfInBounds_toArray, List.set_cons_zero, List.set_cons_succ]⟩
set_option maxHeartbeats 4000000 in
theorem st_info {w : World} {g : Nat} {i0 i1 i2 i3 i4 i5 i6 i7 : Int} {u8 : Value} (h : w.heap[g]? = some (.cells #[.int .i64 0, .int .i64 0, .int .i64 0, .int .i64 0, .int .i64 0, .int .i64 0, .int .i64 0, .int .u64 0, .slice none 0 0] 26 (0, 0))) :
  ∃ wz, (((((((((w.setCell ⟨g, 0, none⟩ (.int .i64 i0)).setCell ⟨g, 1, none⟩ (.int .i64 i1)).setCell ⟨g, 2, none⟩ (.int .i64 i2)).setCell ⟨g, 3, none⟩ (.int .i64 i3)).setCell ⟨g, 4, none⟩ (.int .i64 i4)).setCell ⟨g, 5, none⟩ (.int .i64 i5)).setCell ⟨g, 6, none⟩ (.int .i64 i6)).setCell ⟨g, 7, none⟩ (.int .u64 i7)).setCell ⟨g, 8, none⟩ (u8)) = wz ∧ Touch [g] w wz ∧ wz.cell? ⟨g, 0, none⟩ = some (.int .i64 i0) ∧ wz.cell? ⟨g, 1, none⟩ = some (.int .i64 i1) ∧ wz.cell? ⟨g, 2, none⟩ = some (.int .i64 i2) ∧ wz.cell? ⟨g, 3, none⟩ = some (.int .i64 i3) ∧ wz.cell? ⟨g, 4, none⟩ = some (.int .i64 i4) ∧ wz.cell? ⟨g, 5, none⟩ = some (.int .i64 i5) ∧ wz.cell? ⟨g, 6, none⟩ = some (.int .i64 i6) ∧ wz.cell? ⟨g, 7, none⟩ = some (.int .u64 i7) ∧ wz.cell? ⟨g, 8, none⟩ = some (u8) := by
 have z0 := blk_set h 0 (.int .i64 i0)
 have z1 := blk_set z0 1 (.int .i64 i1)
 have z2 := blk_set z1 2 (.int .i64 i2)
 have z3 := blk_set z2 3 (.int .i64 i3)
 have z4 := blk_set z3 4 (.int .i64 i4)
 have z5 := blk_set z4 5 (.int .i64 i5)
 have z6 := blk_set z5 6 (.int .i64 i6)
 have z7 := blk_set z6 7 (.int .u64 i7)
 have z8 := blk_set z7 8 (u8)
 obtain ⟨wz, hwz⟩ : ∃ wz, (((((((((w.setCell ⟨g, 0, none⟩ (.int .i64 i0)).setCell ⟨g, 1, none⟩ (.int .i64 i1)).setCell ⟨g, 2, none⟩ (.int .i64 i2)).setCell ⟨g, 3, none⟩ (.int .i64 i3)).setCell ⟨g, 4, none⟩ (.int .i64 i4)).setCell ⟨g, 5, none⟩ (.int .i64 i5)).setCell ⟨g, 6, none⟩ (.int .i64 i6)).setCell ⟨g, 7, none⟩ (.int .u64 i7)).setCell ⟨g, 8, none⟩ (u8)) = wz := ⟨_, rfl⟩
 have hb := ((((((((((Touch.refl [g] w).setCell (p := ⟨g, 0, none⟩) (.inl (by simp)) (.int .i64 i0)).setCell (p := ⟨g, 1, none⟩) (.inl (by simp)) (.int .i64 i1)).setCell (p := ⟨g, 2, none⟩) (.inl (by simp)) (.int .i64 i2)).setCell (p := ⟨g, 3, none⟩) (.inl (by simp)) (.int .i64 i3)).setCell (p := ⟨g, 4, none⟩) (.inl (by simp)) (.int .i64 i4)).setCell (p := ⟨g, 5, none⟩) (.inl (by simp)) (.int .i64 i5)).setCell (p := ⟨g, 6, none⟩) (.inl (by simp)) (.int .i64 i6)).setCell (p := ⟨g, 7, none⟩) (.inl (by simp)) (.int .u64 i7)).setCell (p := ⟨g, 8, none⟩) (.inl (by simp)) (u8))
 rw [hwz] at z8 hb
 have hz : wz.heap[g]? = some (.cells #[.int .i64 i0, .int .i64 i1, .int .i64 i2, .int .i64 i3, .int .i64 i4, .int .i64 i5, .int .i64 i6, .int .u64 i7, u8] 26 (0, 0)) := by rw [z8]; simp only [List.setIfInBounds_toArray, List.set_cons_zero, List.set_cons_succ]
 exact ⟨wz, hwz, hb, by rw [cell_of_row wz g 0 _ _ _ hz]; rfl, by rw [cell_of_row wz g 1 _ _ _ hz]; rfl, by rw [cell_of_row wz g 2 _ _ _ hz]; rfl, by rw [cell_of_row wz g 3 _ _ _ hz]; rfl, by rw [cell_of_row wz g 4 _ _ _ hz]; rfl, by rw [cell_of_row wz g 5 _ _ _ hz]; rfl, by rw [cell_of_row wz g 6 _ _ _ hz]; rfl, by rw [cell_of_row wz g 7 _ _ _ hz]; rfl, by rw [cell_of_row wz g 8 _ _ _ hz]; rfl⟩
theorem wc_below {wr wc w' : World} (h : Below wr.heap.size wr wc) (h2 : Below wc.drew.heap.size wc.drew w') : Below wr.heap.size wr w' :=
 h.trans ⟨h2.os, h2.tape, h2.output, h2.size, fun k hk => h2.block k (Nat.lt_of_lt_of_le hk h.size)⟩
theorem chans_end2 {w6 wz : World} {N B g : Nat} {v : Value} {subs : List Sb} {cs : Array Value} (h : Chans w6 B v subs) (t : Touch [g] w6 wz) (hz : w6.heap[g]? = some (.cells cs 32 (0, 0))) (hB : N ≤ B) : Chans wz N v subs :=
 (h.touch t (fun k hk => by
  obtain rfl : k = g := by simpa using hk
  exact ⟨_, _, _, hz, by decide, by decide⟩)).weak hB
theorem chans_end {w6 w7 wz : World} {N B g : Nat} {v : Value} {subs : List Sb} {cs : Array Value} (h : Chans w6 B v subs) (b : Below w6.heap.size w6 w7) (t : Touch [g] w7 wz) (hz : w7.heap[g]? = some (.cells cs 32 (0, 0))) (hB : N ≤ B) : Chans wz N v subs :=
 chans_end2 (h.touch (Touch.of_below (S := []) b) (by simp)) t hz hB
theorem read_fhead {ad : Addr} {n c : Nat} {F rest l : List Int} {vr : Bool} {sz rt ch bp nm : Nat} {subs : List Sb} {w : World} (hl : ReadsInt w .u8 (some ad) n l) (hc : n ≤ c) (hn : n ≤ 100000000000000) (hc2 : c ≤ 9223372036854775807) (hbytes : ∀ x ∈ l, 0 ≤ x ∧ x ≤ 255) (he : l = F ++ rest)
  (hF : FrameIs F vr sz rt ch bp nm subs) (hsz0 : 0 < sz) (hsz : sz ≤ 256) (hrt : RtOk rt) (hch : ch ≤ 7) (hbp : BpOk bp) (hnm : nm < 2147483648) :
  Calls Tryz.prog 23 #[.slice (some ad) n c] w fun e w' => Below w.heap.size w w' ∧ ∃ k : Nat, e = .returned (.tuple #[.agg #[.bool vr, .int .i64 sz, .int .i64 rt, .int .i64 ch, .int .i64 bp, .int .u64 nm], .int .i64 k, .int .i64 0]) := by
 obtain ⟨hb, p, q, z, hbits, hA, hFl⟩ := frame_at (rest := rest) hF
 rw [← he] at hA
 obtain ⟨r1, he1⟩ := hA.he
 exact (read_good hl hc hn hc2 hbytes he1 hbits hsz0 hsz hrt hch hbp hnm).mono fun e w' h => ⟨h.1, _, h.2⟩
theorem frame_pos {F : List Int} {vr : Bool} {sz rt ch bp nm : Nat} {subs : List Sb} (h : FrameIs F vr sz rt ch bp nm subs) : 0 < F.length := by
 obtain ⟨hb, p, q, z, _, _, h1⟩ := frame_at (rest := []) h
 omega
set_option maxHeartbeats 16000000 in
set_option maxRecDepth 100000 in
theorem read_all {ad : Addr} {n c : Nat} {I l : List Int} {Fs : List (List Int)} {fs : List Fr} {rt ch bp ns : Nat} {w : World} (hl : ReadsInt w .u8 (some ad) n l) (hc : n ≤ c) (hn : n ≤ 100000000000000) (hc2 : c ≤ 9223372036854775807) (hbytes : ∀ x ∈ l, 0 ≤ x ∧ x ≤ 255) (he : l = I ++ Fs.flatten) (hbits : bytesBits I = infoBits rt (ch + 1) bp ns)
  (hFA : FramesAre Fs fs rt ch bp) (hlen : Fs.length = fs.length) (hfs : ∀ f ∈ fs, FrOk f ch bp) (hnf : fs.length ≤ 3) (h16 : ∀ i, i + 1 < fs.length → 16 ≤ (fs.getD i ⟨false, 0, []⟩).sz) (hrt : RtOk rt) (hch : ch ≤ 7) (hbp : BpOk bp) (hns : ns ≤ 1000000) :
  Calls Tryz.prog 7 #[.slice (some ad) n c] w fun e w' => Below w.heap.size w w' ∧ ∃ (z ms cs_ : Nat) (As : Option Addr) (hv av : Value) (hs vs : List Value), e = .returned (.tuple #[.agg #[.int .i64 16, .int .i64 4096, .int .i64 0, .int .i64 0, .int .i64 rt, .int .i64 z, .int .i64 bp, .int .u64 ns, .slice As ms cs_], hv, av, .int .i64 0]) ∧ w'.ownsRow w.heap.size 32 6 hv fs.length hs ∧ HeadsAre hs fs fs.length ∧ w'.ownsRow w.heap.size 38 1 av fs.length vs ∧ AllRows w' w.heap.size vs fs fs.length := by
 have hI42 : I.length = 42 := by
  have h := congrArg List.length hbits
  rw [bytesBits_len, infoBits_len] at h; omega
 have hbpl : bp ≤ 24 ∧ 8 ≤ bp := by rcases hbp with h | h | h | h | h <;> omega
 have hbp1 := hbpl.1
 have hbp2 := hbpl.2
 have hrtb : 0 < rt ∧ rt ≤ 655350 := by rcases hrt with h | h | h | h | h | h | h <;> omega
 have hrt1 := hrtb.1
 have hrt2 := hrtb.2
 have hnl : l.length = n := hl.1
 have HRI := Lib.hid (fun W (b : Below w.heap.size w W) => read_info (w := W) (hl.below b) hc hn hc2 hbytes he hbits hrt1 hrt2 (by omega) (by omega) (by omega) hbp1 hns)
 obtain ⟨nf, hnfe⟩ : ∃ nf, fs.length = nf := ⟨_, rfl⟩
 obtain ⟨nc, hnc⟩ : ∃ nc, ch + 1 = nc := ⟨_, rfl⟩
 have hnc8 : nc ≤ 8 := by omega
 rw [hnc] at HRI
 rw [hnfe] at hlen hnf h16 ⊢
 have HNC := Lib.hid hnc
 have HH := Lib.hid (And.intro hl (And.intro hbytes (And.intro he (And.intro hFA (And.intro hlen (And.intro hfs (And.intro h16 (And.intro hrt (And.intro hbp (And.intro hI42 (And.intro hnl hnfe)))))))))))
 clear hl hbytes he hFA hlen hfs h16 hrt hbp hI42 hnl hnfe hnc hbits hbpl hrtb
 obtain ⟨N, hN⟩ : ∃ N, w.heap.size = N := ⟨_, rfl⟩
 rw [hN]
 go_enter Tryz.func7, Tryz.ntmps7
 go_wp2_with fail
 obtain ⟨wa, hwa⟩ : ∃ wa, w.alloc (.cells #[.int .i64 0, .int .i64 0, .int .i64 0, .int .i64 0, .int .i64 0, .int .i64 0, .int .i64 0, .int .u64 0, .slice none 0 0] 26) = wa := ⟨_, rfl⟩
 have ba : Below N w wa := by rw [← hwa, ← hN]; exact below_alloc (Below.refl _ _) _
 have hza : wa.heap.size = N + 1 := by rw [← hwa, World.size_alloc, hN]
 have hr0 : wa.heap[N]? = some (.cells #[.int .i64 0, .int .i64 0, .int .i64 0, .int .i64 0, .int .i64 0, .int .i64 0, .int .i64 0, .int .u64 0, .slice none 0 0] 26 (0, 0)) := by rw [← hwa, ← hN]; exact heap_alloc_new _ _
 rw [hwa]
 refine (HRI.out _ (by rw [hN]; exact ba)).mono ?_
 rintro e w1 ⟨hb1, sum, rfl, As, ms, cs_, rfl⟩
 have bw1 : Below N w w1 := ba.trans ⟨hb1.os, hb1.tape, hb1.output, hb1.size, fun k hk => hb1.block k (by omega)⟩
 have hr1 := (hb1.block N (by omega)).trans hr0
 obtain ⟨G, hG⟩ : ∃ G, w1.heap.size = G := ⟨_, rfl⟩
 have hGN : N + 1 ≤ G := by rw [← hG, ← hza]; exact hb1.size
 have X1 := Lib.hid (And.intro bw1 (And.intro hr1 (And.intro hG hGN)))
 clear ba hza hr0 hwa hb1 bw1 hr1 hG HRI
 go_upto_region 3 with fail
 obtain ⟨w2, hw2⟩ : ∃ w2, ((w1.alloc (.cells #[.int .i64 16, .int .i64 4096, .int .i64 0, .int .i64 0, .int .i64 rt, .int .i64 nc, .int .i64 bp, .int .u64 ns, .slice As ms cs_] 26)).alloc (.cells #[] 32)).alloc (.cells #[] 38) = w2 := ⟨_, rfl⟩
 rw [hw2, X1.out.2.2.1]
 have sA : (w1.alloc (.cells #[.int .i64 16, .int .i64 4096, .int .i64 0, .int .i64 0, .int .i64 rt, .int .i64 nc, .int .i64 bp, .int .u64 ns, .slice As ms cs_] 26)).heap.size = G + 1 := by rw [World.size_alloc, X1.out.2.2.1]
 have sB : ((w1.alloc (.cells #[.int .i64 16, .int .i64 4096, .int .i64 0, .int .i64 0, .int .i64 rt, .int .i64 nc, .int .i64 bp, .int .u64 ns, .slice As ms cs_] 26)).alloc (.cells #[] 32)).heap.size = G + 2 := by rw [World.size_alloc, sA]
 have hi2 : w2.heap[G]? = some (.cells #[.int .i64 16, .int .i64 4096, .int .i64 0, .int .i64 0, .int .i64 rt, .int .i64 nc, .int .i64 bp, .int .u64 ns, .slice As ms cs_] 26 (0, 0)) := by
  rw [← hw2, Below.heap_alloc _ _ _ (by rw [sB]; omega), Below.heap_alloc _ _ _ (by rw [sA]; omega), ← X1.out.2.2.1]; exact heap_alloc_new _ _
 have hb12 : Below w1.heap.size w1 w2 := by rw [← hw2]; exact below_alloc (below_alloc (below_alloc (Below.refl _ _) _) _) _
 have hr2 := (hb12.block N (by rw [X1.out.2.2.1]; omega)).trans X1.out.2.1
 have bw2 : Below N w w2 := X1.out.1.trans ⟨hb12.os, hb12.tape, hb12.output, hb12.size, fun k hk => hb12.block k (by rw [X1.out.2.2.1]; omega)⟩
 have hoh : w2.ownsRow N 32 6 (.slice (some ⟨G + 1, 0, none⟩) 0 0) 0 [] := by
  have h := World.ownsRow_made (base := N) (e := 32) (size := 6) (w1.alloc (.cells #[.int .i64 16, .int .i64 4096, .int .i64 0, .int .i64 0, .int .i64 rt, .int .i64 nc, .int .i64 bp, .int .u64 ns, .slice As ms cs_] 26)) #[] 0 (by rw [sA]; omega) (by decide) rfl
  rw [sA] at h
  rw [← hw2]; exact h.alloc _
 have hoa : w2.ownsRow N 38 1 (.slice (some ⟨G + 2, 0, none⟩) 0 0) 0 [] := by
  have h := World.ownsRow_made (base := N) (e := 38) (size := 1) ((w1.alloc (.cells #[.int .i64 16, .int .i64 4096, .int .i64 0, .int .i64 0, .int .i64 rt, .int .i64 nc, .int .i64 bp, .int .u64 ns, .slice As ms cs_] 26)).alloc (.cells #[] 32)) #[] 0 (by rw [sB]; omega) (by decide) rfl
  rw [sB] at h
  rw [← hw2]; exact h
 have X2 := Lib.hid (And.intro hi2 (And.intro hr2 (And.intro bw2 (And.intro hoh hoa))))
 clear hw2 sA sB hi2 hb12 hr2 bw2 hoh hoa
 go_wp2_with fail
 go_loopw [7, 8, 9, 10, 11] (fun a st hv av tv wr => ∃ (j : Nat) (hs vs : List Value) (T : Nat), j ≤ nf ∧ a = .int .i64 (atOf I Fs j : Nat) ∧ st = .int .i64 0 ∧ tv = .int .i64 T ∧ T ≤ 2048 * j ∧ wr.heap[G]? = some (.cells #[.int .i64 16, .int .i64 4096, .int .i64 0, .int .i64 0, .int .i64 rt, .int .i64 nc, .int .i64 bp, .int .u64 ns, .slice As ms cs_] 26 (0, 0)) ∧ wr.heap[N]? = some (.cells #[.int .i64 0, .int .i64 0, .int .i64 0, .int .i64 0, .int .i64 0, .int .i64 0, .int .i64 0, .int .u64 0, .slice none 0 0] 26 (0, 0)) ∧ Below N w wr ∧ wr.ownsRow N 32 6 hv j hs ∧ HeadsAre hs fs j ∧ wr.ownsRow N 38 1 av j vs ∧ AllRows wr N vs fs j) (fun a _ _ _ _ _ => n - (intOf a).toNat)
 case atStart =>
  exact ⟨0, [], [], 0, by omega, by simp [atOf, HH.out.2.2.2.2.2.2.2.2.2.1], rfl, rfl, by omega, X2.out.1, X2.out.2.1, X2.out.2.2.1, X2.out.2.2.2.1, fun k hk => absurd hk (by omega), X2.out.2.2.2.2, fun k hk => absurd hk (by omega)⟩
 case round =>
  obtain ⟨j, hs, vs, T, hj, rfl, rfl, rfl, hT, h1, h2, h3, h4, h5, h6, h7⟩ := hrel
  obtain ⟨at_, hat⟩ : ∃ at_, atOf I Fs j = at_ := ⟨_, rfl⟩
  have hatn : at_ ≤ n := by rw [← hat, ← HH.out.2.2.2.2.2.2.2.2.2.2.1, HH.out.2.2.1]; exact atOf_le I Fs j
  rw [hat]
  have Y := Lib.hid (And.intro h1 (And.intro h2 (And.intro h3 (And.intro h4 (And.intro h5 (And.intro h6 (And.intro h7 hat)))))))
  clear h1 h2 h3 h4 h5 h6 h7 hat
  have hlenF : Fs.length = nf := HH.out.2.2.2.2.1
  by_cases hjn : j < nf
  ·have hat2 : at_ < n := by
    have h1 := atOf_succ I Fs j (by omega)
    have h2 := atOf_le I Fs (j + 1)
    have h3 := frame_pos (HH.out.2.2.2.1 j (by omega))
    have h4 := HH.out.2.2.2.2.2.2.2.2.2.2.1
    rw [HH.out.2.2.1] at h4
    have h5 := Y.out.2.2.2.2.2.2.2
    omega
   have g1 : decide ((at_ : Int) < (n : Int)) = true := by simp; omega
   have hca : (c = at_) = False := by simp; omega
   have hca2 : (at_ : Int) ≤ (c : Int) := by omega
   have hat0 : (at_ = 0) = False := by
    have h := Y.out.2.2.2.2.2.2.2
    have h2 := HH.out.2.2.2.2.2.2.2.2.2.1
    unfold atOf at h
    simp; omega
   obtain ⟨f, hf⟩ : ∃ f, fs.getD j ⟨false, 0, []⟩ = f := ⟨_, rfl⟩
   obtain ⟨F, hF⟩ : ∃ F, Fs.getD j [] = F := ⟨_, rfl⟩
   obtain ⟨nm, hnm⟩ : ∃ nm, curAt fs j = nm := ⟨_, rfl⟩
   have hfm : f ∈ fs := by
    have hjl : j < fs.length := by rw [HH.out.2.2.2.2.2.2.2.2.2.2.2]; exact hjn
    rw [← hf, List.getD_eq_getElem?_getD, List.getElem?_eq_getElem hjl]; exact List.getElem_mem hjl
   have hok := HH.out.2.2.2.2.2.1 f hfm
   have hFI := HH.out.2.2.2.1 j (by omega)
   rw [hf, hF, hnm] at hFI
   have hnmb : nm < 2147483648 := by
    have h := curAt_le fs ch bp HH.out.2.2.2.2.2.1 j
    rw [hnm] at h; omega
   have hdr := drop_at I Fs j (by omega)
   rw [Y.out.2.2.2.2.2.2.2, hF, ← HH.out.2.2.1] at hdr
   have hby := HH.out.2.1
   have HRH := Lib.hid (fun W (b : Below w.heap.size w W) => read_fhead (w := W) (reads_drop (HH.out.1.below b) at_ hat2) (show n - at_ ≤ c - at_ by omega) (by omega) (by omega) (fun x hx => hby x (List.mem_of_mem_drop hx)) hdr hFI hok.s0 hok.s1 HH.out.2.2.2.2.2.2.2.1 hch HH.out.2.2.2.2.2.2.2.2.1 hnmb)
   have hrf := fun W (b : Below w.heap.size w W) => read_frame (w := W) (ns := ns) (sum := .slice As ms cs_) (reads_drop (HH.out.1.below b) at_ hat2) (show n - at_ ≤ c - at_ by omega) (by omega) (by omega) (fun x hx => hby x (List.mem_of_mem_drop hx)) hdr hFI hok.s0 hok.s1 HH.out.2.2.2.2.2.2.2.1 hch HH.out.2.2.2.2.2.2.2.2.1 hnmb hok.n (fun s hs => (hok.ok s hs).1)
   rw [HNC.out] at hrf
   have HRF := Lib.hid hrf
   have hs0 := hok.s0
   have hs1 := hok.s1
   have hsz16 : j + 1 < nf → 16 ≤ f.sz := by rw [← hf]; exact HH.out.2.2.2.2.2.2.1 j
   have hatF := atOf_succ I Fs j (by omega)
   rw [Y.out.2.2.2.2.2.2.2, hF] at hatF
   have hFE : nf = j + 1 → at_ + F.length = n := fun h => by
    rw [← hatF, ← h, ← hlenF, atOf_all, ← HH.out.2.2.1]; exact HH.out.2.2.2.2.2.2.2.2.2.2.1
   have hFl : at_ + F.length ≤ n := by
    have h := atOf_le I Fs (j + 1)
    rw [hatF, ← HH.out.2.2.1, HH.out.2.2.2.2.2.2.2.2.2.2.1] at h; exact h
   have hFp := frame_pos hFI
   have HF := Lib.hid (And.intro hf (And.intro hFE (And.intro hatF (And.intro hsz16 hok))))
   obtain ⟨sz, hsze⟩ : ∃ sz, f.sz = sz := ⟨_, rfl⟩
   have HSZ := Lib.hid hsze
   rw [hsze] at hs0 hs1 HRH HRF
   clear hf hF hnm hok hFI hfm hnmb hdr hby hrf hsz16 hFE hatF hsze
   go_wp2_with fail
   refine (HRH.out _ (by rw [hN]; exact Y.out.2.2.1)).mono ?_
   rintro e w3 ⟨hb3, kx, rfl⟩
   obtain ⟨G3, hG3⟩ : ∃ G3, w3.heap.size = G3 := ⟨_, rfl⟩
   have hGr : G < wr.heap.size := (Array.getElem?_eq_some_iff.1 Y.out.1).1
   have hrG3 : wr.heap.size ≤ G3 := by rw [← hG3]; exact hb3.size
   have X3 := Lib.hid (And.intro hb3 (And.intro hG3 (And.intro hGr hrG3)))
   clear hb3 hG3 hGr hrG3 HRH
   go_upto_region 7 with fail
   obtain ⟨w4, hw4⟩ : ∃ w4, w3.alloc (.cells #[.bool f.vr, .int .i64 sz, .int .i64 rt, .int .i64 ch, .int .i64 bp, .int .u64 nm] 32) = w4 := ⟨_, rfl⟩
   rw [hw4, X3.out.2.1]
   have hd4 : w4.heap[G3]? = some (.cells #[.bool f.vr, .int .i64 sz, .int .i64 rt, .int .i64 ch, .int .i64 bp, .int .u64 nm] 32 (0, 0)) := by rw [← hw4, ← X3.out.2.1]; exact heap_alloc_new _ _
   have hb4 : Below wr.heap.size wr w4 := by
    have h := below_alloc (Below.refl w3.heap.size w3) (.cells #[.bool f.vr, .int .i64 sz, .int .i64 rt, .int .i64 ch, .int .i64 bp, .int .u64 nm] 32)
    rw [hw4] at h
    exact X3.out.1.trans ⟨h.os, h.tape, h.output, h.size, fun k hk => h.block k (Nat.lt_of_lt_of_le hk (by rw [X3.out.2.1]; exact X3.out.2.2.2))⟩
   have X4 := Lib.hid (And.intro hd4 hb4)
   have h41 : w4.cell? ⟨G3, 1, none⟩ = some (.int .i64 sz) := by rw [cell_of_row w4 G3 1 _ _ _ hd4]; rfl
   have h43 : w4.cell? ⟨G3, 3, none⟩ = some (.int .i64 ch) := by rw [cell_of_row w4 G3 3 _ _ _ hd4]; rfl
   clear hw4 hd4 hb4 X3
   have HCH := Lib.hid (fun w => chan_call ch hch w)
   rw [HNC.out] at HCH
   obtain ⟨m, hm⟩ : ∃ m, sz * nc = m := ⟨_, rfl⟩
   have hm8 : m ≤ 2048 := by rw [← hm]; exact Nat.le_trans (Nat.mul_le_mul hs1 hnc8) (by decide)
   have em : (sz : Int) * (nc : Int) = (m : Int) := by rw [← hm]; simp
   clear hm
   obtain ⟨T2, hT2⟩ : ∃ T2, T + m = T2 := ⟨_, rfl⟩
   have eT : (T : Int) + (m : Int) = (T2 : Int) := by omega
   have hT2b : T2 ≤ 2048 * (j + 1) := by omega
   have ewm : IntKind.i64.wrap (m : Int) = (m : Int) := by rw [IntKind.wrap_i64]; omega
   have ewT : IntKind.i64.wrap (T2 : Int) = (T2 : Int) := by rw [IntKind.wrap_i64]; omega
   clear hT2 hT
   go_cut [11] (fun y wx => y = .int .i64 T2 ∧ ∃ q, wx = w4.drewN q)
   case first =>
    go_region_held3 (fun w' => w'.cell? ⟨G3, 1, none⟩ = some (.int .i64 sz) ∧ w'.cell? ⟨G3, 3, none⟩ = some (.int .i64 ch)) (exact ⟨h41, h43⟩) (first
     | (go_at_call 8; refine (HCH.out _).mono ?_; rintro e w5 ⟨rfl, q5, rfl⟩))
    go_wp2_with fail
    go_meet
    exact ⟨rfl, _, rfl⟩
   case rest =>
    obtain ⟨rfl, q5, hw5⟩ := hcut
    obtain ⟨hi0, hr0, bw0, oh0, ha0, oa0, ra0, hat0⟩ := Y.out
    have hb5 : Below wr.heap.size wr wc := by rw [hw5]; exact below_drewN X4.out.2 q5
    have hbN : Below N w wc := bw0.trans ⟨hb5.os, hb5.tape, hb5.output, hb5.size, fun k hk => hb5.block k (Nat.lt_of_lt_of_le hk (by rw [← hN]; exact bw0.size))⟩
    have hi5 := (hb5.block G (Array.getElem?_eq_some_iff.1 hi0).1).trans hi0
    have X5 := Lib.hid (And.intro hb5 (And.intro hbN hi5))
    have z0 : wc.cell? ⟨G, 0, none⟩ = some (.int .i64 16) := by rw [cell_of_row wc G 0 _ _ _ hi5]; rfl
    have z1 : wc.cell? ⟨G, 1, none⟩ = some (.int .i64 4096) := by rw [cell_of_row wc G 1 _ _ _ hi5]; rfl
    have z2 : wc.cell? ⟨G, 2, none⟩ = some (.int .i64 0) := by rw [cell_of_row wc G 2 _ _ _ hi5]; rfl
    have z3 : wc.cell? ⟨G, 3, none⟩ = some (.int .i64 0) := by rw [cell_of_row wc G 3 _ _ _ hi5]; rfl
    have z4 : wc.cell? ⟨G, 4, none⟩ = some (.int .i64 rt) := by rw [cell_of_row wc G 4 _ _ _ hi5]; rfl
    have z5 : wc.cell? ⟨G, 5, none⟩ = some (.int .i64 nc) := by rw [cell_of_row wc G 5 _ _ _ hi5]; rfl
    have z6 : wc.cell? ⟨G, 6, none⟩ = some (.int .i64 bp) := by rw [cell_of_row wc G 6 _ _ _ hi5]; rfl
    have z7 : wc.cell? ⟨G, 7, none⟩ = some (.int .u64 ns) := by rw [cell_of_row wc G 7 _ _ _ hi5]; rfl
    have z8 : wc.cell? ⟨G, 8, none⟩ = some (.slice As ms cs_) := by rw [cell_of_row wc G 8 _ _ _ hi5]; rfl
    clear hw5 hi0 hr0 bw0 oh0 ha0 oa0 ra0 hat0 hb5 hbN hi5 h41 h43 X4
    have g2 : decide ((262144 : Int) < (T2 : Int)) = false := by simp; omega
    go_upto_region 10 with fail
    have hGw : G < wc.heap.size := (Array.getElem?_eq_some_iff.1 X5.out.2.2).1
    have hi5d : wc.drew.heap[G]? = some (.cells #[.int .i64 16, .int .i64 4096, .int .i64 0, .int .i64 0, .int .i64 rt, .int .i64 nc, .int .i64 bp, .int .u64 ns, .slice As ms cs_] 26 (0, 0)) := X5.out.2.2
    clear z0 z1 z2 z3 z4 z5 z6 z7 z8
    go_cut [15, 16, 17, 18] (fun a b c d wx => ∃ G5 v, a = .pointer (some ⟨G5, 0, none⟩) ∧ b = v ∧ c = .int .i64 F.length ∧ d = .int .i64 0 ∧ wx.heap[G5]? = some (.cells #[.bool f.vr, .int .i64 sz, .int .i64 rt, .int .i64 ch, .int .i64 bp, .int .u64 nm] 32 (0, 0)) ∧ Below wr.heap.size wr wx ∧ Chans wx N v f.subs ∧ wr.heap.size ≤ G5 ∧ G5 < wx.heap.size)
    case first =>
     refine wp_region_held_drew (S := fun w' => w'.heap[G]? = some (.cells #[.int .i64 16, .int .i64 4096, .int .i64 0, .int .i64 0, .int .i64 rt, .int .i64 nc, .int .i64 bp, .int .u64 ns, .slice As ms cs_] 26 (0, 0))) (by kernel_rfl) hi5d (fun HS => ?_)
     refine wpAnyH_take (i := 0) (oi := ⟨some 59, .move (.tmp 0), 23, "write.go:329", #[], none⟩) (v := ?vra1) rfl (by kernel_rfl) (by kernel_rfl) (by kernel_rfl) (fun _ _ _ h => h) (Or.inl ⟨by rfl, ?yra1⟩) HS ?rra1
     case yra1 =>
      intro w' hSw
      (try dsimp only at hSw)
      go_simp
      all_goals (with_reducible rfl)
     (try simp only [Act.put, List.setIfInBounds_toArray, List.set_cons_zero, List.set_cons_succ])
     refine wpAnyH_take (i := 1) (oi := ⟨some 60, .move (.tmp 7), 3, "write.go:329", #[], none⟩) (v := ?vra2) rfl (by kernel_rfl) (by kernel_rfl) (by kernel_rfl) (fun _ _ _ h => h) (Or.inl ⟨by rfl, ?yra2⟩) HS ?rra2
     case yra2 =>
      intro w' hSw
      (try dsimp only at hSw)
      go_simp
      all_goals (with_reducible rfl)
     (try simp only [Act.put, List.setIfInBounds_toArray, List.set_cons_zero, List.set_cons_succ])
     refine wpAnyH_take (i := 2) (oi := ⟨some 61, .slice 23 (.tmp 59) (some (.tmp 60)) none none, 23, "write.go:329", #[⟨0, .data⟩, ⟨1, .data⟩], none⟩) (v := ?vra3) rfl (by kernel_rfl) (by kernel_rfl) (by kernel_rfl) (fun _ _ _ h => h) (Or.inl ⟨by rfl, ?yra3⟩) HS ?rra3
     case yra3 =>
      intro w' hSw
      (try dsimp only at hSw)
      go_simp
      all_goals (with_reducible rfl)
     (try simp only [Act.put, List.setIfInBounds_toArray, List.set_cons_zero, List.set_cons_succ])
     refine wpAnyH_take (i := 3) (oi := ⟨some 62, .load 26 (.tmp 6), 26, "write.go:329", #[], none⟩) (v := ?vra4) rfl (by kernel_rfl) (by kernel_rfl) (by kernel_rfl) (fun _ _ _ h => h) (Or.inl ⟨by rfl, ?yra4⟩) HS ?rra4
     case yra4 =>
      intro w' hSw
      (try dsimp only at hSw)
      have p0 : w'.cell? ⟨G, 0, none⟩ = some (.int .i64 16) := by rw [cell_of_row w' G 0 _ _ _ hSw]; rfl
      have p1 : w'.cell? ⟨G, 1, none⟩ = some (.int .i64 4096) := by rw [cell_of_row w' G 1 _ _ _ hSw]; rfl
      have p2 : w'.cell? ⟨G, 2, none⟩ = some (.int .i64 0) := by rw [cell_of_row w' G 2 _ _ _ hSw]; rfl
      have p3 : w'.cell? ⟨G, 3, none⟩ = some (.int .i64 0) := by rw [cell_of_row w' G 3 _ _ _ hSw]; rfl
      have p4 : w'.cell? ⟨G, 4, none⟩ = some (.int .i64 rt) := by rw [cell_of_row w' G 4 _ _ _ hSw]; rfl
      have p5 : w'.cell? ⟨G, 5, none⟩ = some (.int .i64 nc) := by rw [cell_of_row w' G 5 _ _ _ hSw]; rfl
      have p6 : w'.cell? ⟨G, 6, none⟩ = some (.int .i64 bp) := by rw [cell_of_row w' G 6 _ _ _ hSw]; rfl
      have p7 : w'.cell? ⟨G, 7, none⟩ = some (.int .u64 ns) := by rw [cell_of_row w' G 7 _ _ _ hSw]; rfl
      have p8 : w'.cell? ⟨G, 8, none⟩ = some (.slice As ms cs_) := by rw [cell_of_row w' G 8 _ _ _ hSw]; rfl
      go_simp
      all_goals (with_reducible rfl)
     (try simp only [Act.put, List.setIfInBounds_toArray, List.set_cons_zero, List.set_cons_succ])
     refine wpAnyH_ready (rs := [4, 10]) (by kernel_rfl) (by simp) ?_
     refine (AllReadyH.cons (o := ⟨some 63, .call ⟨.value (.func 24), #[.tmp 61, .tmp 62], #[23, 26]⟩, 96, "write.go:329", #[⟨2, .data⟩, ⟨3, .data⟩], none⟩) rfl (fun K hK => ?kra26) (AllReadyH.cons (o := ⟨some 15, .alloc 32, 0, "write.go:329", #[], none⟩) rfl (fun K hK => ?kra25) AllReadyH.nil))
     case kra26 =>
      go_simp
      refine (HRF.out _ (by rw [hN]; exact X5.out.2.1.drew)).mono ?_
      rintro e w6 ⟨hb6, v6, rfl, hch6⟩
      go_wp2_with fail
      have hs6 : w6.heap[G]? = some (.cells #[.int .i64 16, .int .i64 4096, .int .i64 0, .int .i64 0, .int .i64 rt, .int .i64 nc, .int .i64 bp, .int .u64 ns, .slice As ms cs_] 26 (0, 0)) := (hb6.block G (Array.getElem?_eq_some_iff.1 HS).1).trans HS
      refine hK.out _ _ hs6 (fun HS6 => ?_)
      clear hK K
      (try simp only [Act.put, List.setIfInBounds_toArray, List.set_cons_zero, List.set_cons_succ])
      refine wpAnyH_take (i := 5) (oi := ⟨some 58, .move (.tmp 63), 96, "write.go:329", #[⟨4, .data⟩], none⟩) (v := ?vra5) rfl (by kernel_rfl) (by kernel_rfl) (by kernel_rfl) (fun _ _ _ h => h) (Or.inl ⟨by rfl, ?yra5⟩) HS6 ?rra5
      case yra5 =>
       intro w' hSw
       (try dsimp only at hSw)
       go_simp
       all_goals (with_reducible rfl)
      (try simp only [Act.put, List.setIfInBounds_toArray, List.set_cons_zero, List.set_cons_succ])
      refine wpAnyH_take (i := 6) (oi := ⟨some 64, .extract (.tmp 58) 0, 32, "write.go:329", #[⟨5, .data⟩], none⟩) (v := ?vra6) rfl (by kernel_rfl) (by kernel_rfl) (by kernel_rfl) (fun _ _ _ h => h) (Or.inl ⟨by rfl, ?yra6⟩) HS6 ?rra6
      case yra6 =>
       intro w' hSw
       (try dsimp only at hSw)
       go_simp
       all_goals (with_reducible rfl)
      (try simp only [Act.put, List.setIfInBounds_toArray, List.set_cons_zero, List.set_cons_succ])
      refine wpAnyH_take (i := 7) (oi := ⟨some 65, .extract (.tmp 58) 1, 38, "write.go:329", #[⟨5, .data⟩, ⟨11, .gcOnly .lateStores⟩], none⟩) (v := ?vra7) rfl (by kernel_rfl) (by kernel_rfl) (by kernel_rfl) (fun _ _ _ h => h) (Or.inl ⟨by rfl, ?yra7⟩) HS6 ?rra7
      case yra7 =>
       intro w' hSw
       (try dsimp only at hSw)
       go_simp
       all_goals (with_reducible rfl)
      (try simp only [Act.put, List.setIfInBounds_toArray, List.set_cons_zero, List.set_cons_succ])
      refine wpAnyH_take (i := 8) (oi := ⟨some 66, .extract (.tmp 58) 2, 3, "write.go:329", #[⟨5, .data⟩, ⟨12, .gcOnly .lateStores⟩], none⟩) (v := ?vra8) rfl (by kernel_rfl) (by kernel_rfl) (by kernel_rfl) (fun _ _ _ h => h) (Or.inl ⟨by rfl, ?yra8⟩) HS6 ?rra8
      case yra8 =>
       intro w' hSw
       (try dsimp only at hSw)
       go_simp
       all_goals (with_reducible rfl)
      (try simp only [Act.put, List.setIfInBounds_toArray, List.set_cons_zero, List.set_cons_succ])
      refine wpAnyH_take (i := 9) (oi := ⟨some 67, .extract (.tmp 58) 3, 3, "write.go:329", #[⟨5, .data⟩, ⟨13, .gcOnly .lateStores⟩], none⟩) (v := ?vra9) rfl (by kernel_rfl) (by kernel_rfl) (by kernel_rfl) (fun _ _ _ h => h) (Or.inl ⟨by rfl, ?yra9⟩) HS6 ?rra9
      case yra9 =>
       intro w' hSw
       (try dsimp only at hSw)
       go_simp
       all_goals (with_reducible rfl)
      (try simp only [Act.put, List.setIfInBounds_toArray, List.set_cons_zero, List.set_cons_succ])
      refine wpAnyH_ready (rs := [10]) (by kernel_rfl) (by simp) ?_
      refine (AllReadyH.cons (o := ⟨some 15, .alloc 32, 0, "write.go:329", #[], none⟩) rfl (fun K hK => ?kra14) AllReadyH.nil)
      case kra14 =>
       go_simp
       refine hK.out _ _ (show (w6.alloc _).heap[G]? = _ from (Below.heap_alloc _ _ _ (Array.getElem?_eq_some_iff.1 HS6).1).trans HS6) (fun HS7 => ?_)
       clear hK K
       (try simp only [Act.put, List.setIfInBounds_toArray, List.set_cons_zero, List.set_cons_succ])
       obtain ⟨w7, hw7⟩ : ∃ w7, (w6.alloc (.cells #[.bool false, .int .i64 0, .int .i64 0, .int .i64 0, .int .i64 0, .int .u64 0] 32)) = w7 := ⟨_, rfl⟩
       rw [hw7] at HS7 ⊢
       have HZ : w7.heap[w6.heap.size]? = some (.cells #[.bool false, .int .i64 0, .int .i64 0, .int .i64 0, .int .i64 0, .int .u64 0] 32 (0, 0)) := by rw [← hw7]; exact heap_alloc_new _ _
       have hb7 : Below w6.heap.size w6 w7 := by rw [← hw7]; exact (below_alloc (Below.refl _ _) _)
       have hGg : G < w6.heap.size := (Array.getElem?_eq_some_iff.1 HS6).1
       clear hw7
       refine wpAnyH_ready (rs := [11]) (by kernel_rfl) (by simp) ?_
       refine (AllReadyH.cons (o := ⟨none, .store 32 (.tmp 15) (.tmp 64), 0, "write.go:329", #[⟨10, .data⟩, ⟨6, .data⟩, ⟨4, .chain⟩, ⟨0, .phase⟩, ⟨1, .phase⟩, ⟨2, .phase⟩, ⟨3, .phase⟩, ⟨4, .phase⟩, ⟨5, .phase⟩, ⟨6, .phase⟩, ⟨7, .textOnly .lateStores⟩, ⟨8, .textOnly .lateStores⟩, ⟨9, .textOnly .lateStores⟩, ⟨10, .phase⟩], none⟩) rfl (fun K hK => ?kra13) AllReadyH.nil)
       case kra13 =>
        have e0 : w7.cell? ⟨w6.heap.size, 0, none⟩ = some (.bool false) := by rw [cell_of_row w7 w6.heap.size 0 _ _ _ HZ]; rfl
        have f0 : w7.frozen? ⟨w6.heap.size, 0, none⟩ = false := by simp [World.frozen?, HZ]
        have e1 : w7.cell? ⟨w6.heap.size, 1, none⟩ = some (.int .i64 0) := by rw [cell_of_row w7 w6.heap.size 1 _ _ _ HZ]; rfl
        have f1 : w7.frozen? ⟨w6.heap.size, 1, none⟩ = false := by simp [World.frozen?, HZ]
        have e2 : w7.cell? ⟨w6.heap.size, 2, none⟩ = some (.int .i64 0) := by rw [cell_of_row w7 w6.heap.size 2 _ _ _ HZ]; rfl
        have f2 : w7.frozen? ⟨w6.heap.size, 2, none⟩ = false := by simp [World.frozen?, HZ]
        have e3 : w7.cell? ⟨w6.heap.size, 3, none⟩ = some (.int .i64 0) := by rw [cell_of_row w7 w6.heap.size 3 _ _ _ HZ]; rfl
        have f3 : w7.frozen? ⟨w6.heap.size, 3, none⟩ = false := by simp [World.frozen?, HZ]
        have e4 : w7.cell? ⟨w6.heap.size, 4, none⟩ = some (.int .i64 0) := by rw [cell_of_row w7 w6.heap.size 4 _ _ _ HZ]; rfl
        have f4 : w7.frozen? ⟨w6.heap.size, 4, none⟩ = false := by simp [World.frozen?, HZ]
        have e5 : w7.cell? ⟨w6.heap.size, 5, none⟩ = some (.int .u64 0) := by rw [cell_of_row w7 w6.heap.size 5 _ _ _ HZ]; rfl
        have f5 : w7.frozen? ⟨w6.heap.size, 5, none⟩ = false := by simp [World.frozen?, HZ]
        go_simp
        obtain ⟨wz, hwz, tz, hz⟩ := st_head (b0 := f.vr) (i1 := sz) (i2 := rt) (i3 := ch) (i4 := bp) (i5 := nm) HZ
        rw [hwz]
        refine hK.out _ _ (tz.heap HS7 (by simp; omega)) (fun HS9 => ?_)
        clear hK K
        (try simp only [Act.put, List.setIfInBounds_toArray, List.set_cons_zero, List.set_cons_succ])
        refine wpAnyH_take (i := 12) (oi := ⟨some 16, .assign (.tmp 65), 38, "write.go:329", #[⟨7, .data⟩, ⟨11, .chain⟩, ⟨0, .phase⟩, ⟨1, .phase⟩, ⟨2, .phase⟩, ⟨3, .phase⟩, ⟨4, .phase⟩, ⟨5, .phase⟩, ⟨6, .phase⟩, ⟨7, .phase⟩, ⟨8, .textOnly .lateStores⟩, ⟨9, .textOnly .lateStores⟩, ⟨10, .phase⟩, ⟨11, .phase⟩], none⟩) (v := ?vra10) rfl (by kernel_rfl) (by kernel_rfl) (by kernel_rfl) (fun _ _ _ h => h) (Or.inl ⟨by rfl, ?yra10⟩) HS9 ?rra10
        case yra10 =>
         intro w' hSw
         (try dsimp only at hSw)
         go_simp
         all_goals (with_reducible rfl)
        (try simp only [Act.put, List.setIfInBounds_toArray, List.set_cons_zero, List.set_cons_succ])
        refine wpAnyH_take (i := 13) (oi := ⟨some 17, .assign (.tmp 66), 3, "write.go:329", #[⟨8, .data⟩, ⟨12, .chain⟩, ⟨0, .phase⟩, ⟨1, .phase⟩, ⟨2, .phase⟩, ⟨3, .phase⟩, ⟨4, .phase⟩, ⟨5, .phase⟩, ⟨6, .phase⟩, ⟨7, .phase⟩, ⟨8, .phase⟩, ⟨9, .textOnly .lateStores⟩, ⟨10, .phase⟩, ⟨11, .phase⟩, ⟨12, .phase⟩], none⟩) (v := ?vra11) rfl (by kernel_rfl) (by kernel_rfl) (by kernel_rfl) (fun _ _ _ h => h) (Or.inl ⟨by rfl, ?yra11⟩) HS9 ?rra11
        case yra11 =>
         intro w' hSw
         (try dsimp only at hSw)
         go_simp
         all_goals (with_reducible rfl)
        (try simp only [Act.put, List.setIfInBounds_toArray, List.set_cons_zero, List.set_cons_succ])
        refine wpAnyH_take (i := 14) (oi := ⟨some 18, .assign (.tmp 67), 3, "write.go:329", #[⟨9, .data⟩, ⟨13, .chain⟩, ⟨0, .phase⟩, ⟨1, .phase⟩, ⟨2, .phase⟩, ⟨3, .phase⟩, ⟨4, .phase⟩, ⟨5, .phase⟩, ⟨6, .phase⟩, ⟨7, .phase⟩, ⟨8, .phase⟩, ⟨9, .phase⟩, ⟨10, .phase⟩, ⟨11, .phase⟩, ⟨12, .phase⟩, ⟨13, .phase⟩], none⟩) (v := ?vra12) rfl (by kernel_rfl) (by kernel_rfl) (by kernel_rfl) (fun _ _ _ h => h) (Or.inl ⟨by rfl, ?yra12⟩) HS9 ?rra12
        case yra12 =>
         intro w' hSw
         (try dsimp only at hSw)
         go_simp
         all_goals (with_reducible rfl)
        (try simp only [Act.put, List.setIfInBounds_toArray, List.set_cons_zero, List.set_cons_succ])
        refine wpAnyH_done (by kernel_rfl) ?_ _
        go_wp2_with fail
        go_meet
        refine ⟨w6.heap.size, v6, rfl, rfl, rfl, rfl, hz, ?_, ?_, ?_, ?_⟩
        ·have h1 := hb6.trans ⟨hb7.os, hb7.tape, hb7.output, hb7.size, fun k hk => hb7.block k (Nat.lt_of_lt_of_le hk hb6.size)⟩
         have h2 := tz.below h1 (fun k hk => by
          obtain rfl : k = w6.heap.size := by simpa using hk
          exact hb6.size)
         exact wc_below X5.out.1 h2
        ·exact chans_end hch6 hb7 tz HZ (by rw [← hN]; exact X5.out.2.1.size)
        ·exact Nat.le_trans X5.out.1.size hb6.size
        ·exact (Array.getElem?_eq_some_iff.1 hz).1
     case kra25 =>
      go_simp
      refine hK.out _ _ (show (wc.alloc _).drew.heap[G]? = _ from (Below.heap_alloc _ _ _ (Array.getElem?_eq_some_iff.1 HS).1).trans HS) (fun HS7 => ?_)
      clear hK K
      (try simp only [Act.put, List.setIfInBounds_toArray, List.set_cons_zero, List.set_cons_succ])
      obtain ⟨w7, hw7⟩ : ∃ w7, (wc.alloc (.cells #[.bool false, .int .i64 0, .int .i64 0, .int .i64 0, .int .i64 0, .int .u64 0] 32)).drew = w7 := ⟨_, rfl⟩
      rw [hw7] at HS7 ⊢
      have HZ : w7.heap[wc.heap.size]? = some (.cells #[.bool false, .int .i64 0, .int .i64 0, .int .i64 0, .int .i64 0, .int .u64 0] 32 (0, 0)) := by rw [← hw7]; exact heap_alloc_new _ _
      have hb7 : Below wc.heap.size wc w7 := by rw [← hw7]; exact (below_alloc (Below.refl _ _) _).drew
      have hGg : G < wc.heap.size := (Array.getElem?_eq_some_iff.1 HS).1
      clear hw7
      refine wpAnyH_ready (rs := [4]) (by kernel_rfl) (by simp) ?_
      refine (AllReadyH.cons (o := ⟨some 63, .call ⟨.value (.func 24), #[.tmp 61, .tmp 62], #[23, 26]⟩, 96, "write.go:329", #[⟨2, .data⟩, ⟨3, .data⟩], none⟩) rfl (fun K hK => ?kra24) AllReadyH.nil)
      case kra24 =>
       go_simp
       refine (HRF.out _ (by rw [hN]; exact X5.out.2.1.trans ⟨hb7.os, hb7.tape, hb7.output, hb7.size, fun k hk => hb7.block k (Nat.lt_of_lt_of_le hk (by rw [← hN]; exact X5.out.2.1.size))⟩)).mono ?_
       rintro e w6 ⟨hb6, v6, rfl, hch6⟩
       go_wp2_with fail
       have hs6 : w6.heap[G]? = some (.cells #[.int .i64 16, .int .i64 4096, .int .i64 0, .int .i64 0, .int .i64 rt, .int .i64 nc, .int .i64 bp, .int .u64 ns, .slice As ms cs_] 26 (0, 0)) := (hb6.block G (Array.getElem?_eq_some_iff.1 HS7).1).trans HS7
       refine hK.out _ _ hs6 (fun HS6 => ?_)
       clear hK K
       (try simp only [Act.put, List.setIfInBounds_toArray, List.set_cons_zero, List.set_cons_succ])
       have HZ := (hb6.block wc.heap.size (Array.getElem?_eq_some_iff.1 HZ).1).trans HZ
       refine wpAnyH_take (i := 5) (oi := ⟨some 58, .move (.tmp 63), 96, "write.go:329", #[⟨4, .data⟩], none⟩) (v := ?vra15) rfl (by kernel_rfl) (by kernel_rfl) (by kernel_rfl) (fun _ _ _ h => h) (Or.inl ⟨by rfl, ?yra15⟩) HS6 ?rra15
       case yra15 =>
        intro w' hSw
        (try dsimp only at hSw)
        go_simp
        all_goals (with_reducible rfl)
       (try simp only [Act.put, List.setIfInBounds_toArray, List.set_cons_zero, List.set_cons_succ])
       refine wpAnyH_take (i := 6) (oi := ⟨some 64, .extract (.tmp 58) 0, 32, "write.go:329", #[⟨5, .data⟩], none⟩) (v := ?vra16) rfl (by kernel_rfl) (by kernel_rfl) (by kernel_rfl) (fun _ _ _ h => h) (Or.inl ⟨by rfl, ?yra16⟩) HS6 ?rra16
       case yra16 =>
        intro w' hSw
        (try dsimp only at hSw)
        go_simp
        all_goals (with_reducible rfl)
       (try simp only [Act.put, List.setIfInBounds_toArray, List.set_cons_zero, List.set_cons_succ])
       refine wpAnyH_take (i := 7) (oi := ⟨some 65, .extract (.tmp 58) 1, 38, "write.go:329", #[⟨5, .data⟩, ⟨11, .gcOnly .lateStores⟩], none⟩) (v := ?vra17) rfl (by kernel_rfl) (by kernel_rfl) (by kernel_rfl) (fun _ _ _ h => h) (Or.inl ⟨by rfl, ?yra17⟩) HS6 ?rra17
       case yra17 =>
        intro w' hSw
        (try dsimp only at hSw)
        go_simp
        all_goals (with_reducible rfl)
       (try simp only [Act.put, List.setIfInBounds_toArray, List.set_cons_zero, List.set_cons_succ])
       refine wpAnyH_take (i := 8) (oi := ⟨some 66, .extract (.tmp 58) 2, 3, "write.go:329", #[⟨5, .data⟩, ⟨12, .gcOnly .lateStores⟩], none⟩) (v := ?vra18) rfl (by kernel_rfl) (by kernel_rfl) (by kernel_rfl) (fun _ _ _ h => h) (Or.inl ⟨by rfl, ?yra18⟩) HS6 ?rra18
       case yra18 =>
        intro w' hSw
        (try dsimp only at hSw)
        go_simp
        all_goals (with_reducible rfl)
       (try simp only [Act.put, List.setIfInBounds_toArray, List.set_cons_zero, List.set_cons_succ])
       refine wpAnyH_take (i := 9) (oi := ⟨some 67, .extract (.tmp 58) 3, 3, "write.go:329", #[⟨5, .data⟩, ⟨13, .gcOnly .lateStores⟩], none⟩) (v := ?vra19) rfl (by kernel_rfl) (by kernel_rfl) (by kernel_rfl) (fun _ _ _ h => h) (Or.inl ⟨by rfl, ?yra19⟩) HS6 ?rra19
       case yra19 =>
        intro w' hSw
        (try dsimp only at hSw)
        go_simp
        all_goals (with_reducible rfl)
       (try simp only [Act.put, List.setIfInBounds_toArray, List.set_cons_zero, List.set_cons_succ])
       refine wpAnyH_ready (rs := [11]) (by kernel_rfl) (by simp) ?_
       refine (AllReadyH.cons (o := ⟨none, .store 32 (.tmp 15) (.tmp 64), 0, "write.go:329", #[⟨10, .data⟩, ⟨6, .data⟩, ⟨4, .chain⟩, ⟨0, .phase⟩, ⟨1, .phase⟩, ⟨2, .phase⟩, ⟨3, .phase⟩, ⟨4, .phase⟩, ⟨5, .phase⟩, ⟨6, .phase⟩, ⟨7, .textOnly .lateStores⟩, ⟨8, .textOnly .lateStores⟩, ⟨9, .textOnly .lateStores⟩, ⟨10, .phase⟩], none⟩) rfl (fun K hK => ?kra23) AllReadyH.nil)
       case kra23 =>
        have e0 : w6.cell? ⟨wc.heap.size, 0, none⟩ = some (.bool false) := by rw [cell_of_row w6 wc.heap.size 0 _ _ _ HZ]; rfl
        have f0 : w6.frozen? ⟨wc.heap.size, 0, none⟩ = false := by simp [World.frozen?, HZ]
        have e1 : w6.cell? ⟨wc.heap.size, 1, none⟩ = some (.int .i64 0) := by rw [cell_of_row w6 wc.heap.size 1 _ _ _ HZ]; rfl
        have f1 : w6.frozen? ⟨wc.heap.size, 1, none⟩ = false := by simp [World.frozen?, HZ]
        have e2 : w6.cell? ⟨wc.heap.size, 2, none⟩ = some (.int .i64 0) := by rw [cell_of_row w6 wc.heap.size 2 _ _ _ HZ]; rfl
        have f2 : w6.frozen? ⟨wc.heap.size, 2, none⟩ = false := by simp [World.frozen?, HZ]
        have e3 : w6.cell? ⟨wc.heap.size, 3, none⟩ = some (.int .i64 0) := by rw [cell_of_row w6 wc.heap.size 3 _ _ _ HZ]; rfl
        have f3 : w6.frozen? ⟨wc.heap.size, 3, none⟩ = false := by simp [World.frozen?, HZ]
        have e4 : w6.cell? ⟨wc.heap.size, 4, none⟩ = some (.int .i64 0) := by rw [cell_of_row w6 wc.heap.size 4 _ _ _ HZ]; rfl
        have f4 : w6.frozen? ⟨wc.heap.size, 4, none⟩ = false := by simp [World.frozen?, HZ]
        have e5 : w6.cell? ⟨wc.heap.size, 5, none⟩ = some (.int .u64 0) := by rw [cell_of_row w6 wc.heap.size 5 _ _ _ HZ]; rfl
        have f5 : w6.frozen? ⟨wc.heap.size, 5, none⟩ = false := by simp [World.frozen?, HZ]
        go_simp
        obtain ⟨wz, hwz, tz, hz⟩ := st_head (b0 := f.vr) (i1 := sz) (i2 := rt) (i3 := ch) (i4 := bp) (i5 := nm) HZ
        rw [hwz]
        refine hK.out _ _ (tz.heap HS6 (by simp; omega)) (fun HS9 => ?_)
        clear hK K
        (try simp only [Act.put, List.setIfInBounds_toArray, List.set_cons_zero, List.set_cons_succ])
        refine wpAnyH_take (i := 12) (oi := ⟨some 16, .assign (.tmp 65), 38, "write.go:329", #[⟨7, .data⟩, ⟨11, .chain⟩, ⟨0, .phase⟩, ⟨1, .phase⟩, ⟨2, .phase⟩, ⟨3, .phase⟩, ⟨4, .phase⟩, ⟨5, .phase⟩, ⟨6, .phase⟩, ⟨7, .phase⟩, ⟨8, .textOnly .lateStores⟩, ⟨9, .textOnly .lateStores⟩, ⟨10, .phase⟩, ⟨11, .phase⟩], none⟩) (v := ?vra20) rfl (by kernel_rfl) (by kernel_rfl) (by kernel_rfl) (fun _ _ _ h => h) (Or.inl ⟨by rfl, ?yra20⟩) HS9 ?rra20
        case yra20 =>
         intro w' hSw
         (try dsimp only at hSw)
         go_simp
         all_goals (with_reducible rfl)
        (try simp only [Act.put, List.setIfInBounds_toArray, List.set_cons_zero, List.set_cons_succ])
        refine wpAnyH_take (i := 13) (oi := ⟨some 17, .assign (.tmp 66), 3, "write.go:329", #[⟨8, .data⟩, ⟨12, .chain⟩, ⟨0, .phase⟩, ⟨1, .phase⟩, ⟨2, .phase⟩, ⟨3, .phase⟩, ⟨4, .phase⟩, ⟨5, .phase⟩, ⟨6, .phase⟩, ⟨7, .phase⟩, ⟨8, .phase⟩, ⟨9, .textOnly .lateStores⟩, ⟨10, .phase⟩, ⟨11, .phase⟩, ⟨12, .phase⟩], none⟩) (v := ?vra21) rfl (by kernel_rfl) (by kernel_rfl) (by kernel_rfl) (fun _ _ _ h => h) (Or.inl ⟨by rfl, ?yra21⟩) HS9 ?rra21
        case yra21 =>
         intro w' hSw
         (try dsimp only at hSw)
         go_simp
         all_goals (with_reducible rfl)
        (try simp only [Act.put, List.setIfInBounds_toArray, List.set_cons_zero, List.set_cons_succ])
        refine wpAnyH_take (i := 14) (oi := ⟨some 18, .assign (.tmp 67), 3, "write.go:329", #[⟨9, .data⟩, ⟨13, .chain⟩, ⟨0, .phase⟩, ⟨1, .phase⟩, ⟨2, .phase⟩, ⟨3, .phase⟩, ⟨4, .phase⟩, ⟨5, .phase⟩, ⟨6, .phase⟩, ⟨7, .phase⟩, ⟨8, .phase⟩, ⟨9, .phase⟩, ⟨10, .phase⟩, ⟨11, .phase⟩, ⟨12, .phase⟩, ⟨13, .phase⟩], none⟩) (v := ?vra22) rfl (by kernel_rfl) (by kernel_rfl) (by kernel_rfl) (fun _ _ _ h => h) (Or.inl ⟨by rfl, ?yra22⟩) HS9 ?rra22
        case yra22 =>
         intro w' hSw
         (try dsimp only at hSw)
         go_simp
         all_goals (with_reducible rfl)
        (try simp only [Act.put, List.setIfInBounds_toArray, List.set_cons_zero, List.set_cons_succ])
        refine wpAnyH_done (by kernel_rfl) ?_ _
        go_wp2_with fail
        go_meet
        refine ⟨wc.heap.size, v6, rfl, rfl, rfl, rfl, hz, ?_, ?_, ?_, ?_⟩
        ·have h1 := hb7.trans ⟨hb6.os, hb6.tape, hb6.output, hb6.size, fun k hk => hb6.block k (Nat.lt_of_lt_of_le hk hb7.size)⟩
         have h2 := tz.below h1 (fun k hk => by
          obtain rfl : k = wc.heap.size := by simpa using hk
          exact Nat.le_refl _)
         exact X5.out.1.trans ⟨h2.os, h2.tape, h2.output, h2.size, fun k hk => h2.block k (Nat.lt_of_lt_of_le hk X5.out.1.size)⟩
        ·exact chans_end2 hch6 tz HZ (Nat.le_trans (by rw [← hN]; exact X5.out.2.1.size) hb7.size)
        ·exact X5.out.1.size
        ·exact (Array.getElem?_eq_some_iff.1 hz).1
    case rest =>
     obtain ⟨G5, v6, rfl, rfl, rfl, rfl, hd6, hb6, hc6, hg5, hg6⟩ := hcut
     clear X5 hGw hi5d
     have hGwr : G < wr.heap.size := (Array.getElem?_eq_some_iff.1 Y.out.1).1
     have hNwr : N ≤ wr.heap.size := by rw [← hN]; exact Y.out.2.2.1.size
     have hi6 := (hb6.block G hGwr).trans Y.out.1
     have c1 : wc.cell? ⟨G5, 1, none⟩ = some (.int .i64 sz) := by rw [cell_of_row wc G5 1 _ _ _ hd6]; rfl
     have i0 : wc.cell? ⟨G, 0, none⟩ = some (.int .i64 16) := by rw [cell_of_row wc G 0 _ _ _ hi6]; rfl
     have i1 : wc.cell? ⟨G, 1, none⟩ = some (.int .i64 4096) := by rw [cell_of_row wc G 1 _ _ _ hi6]; rfl
     have X6 := Lib.hid (And.intro hd6 (And.intro hb6 (And.intro hc6 (And.intro hg5 hg6))))
     have HG := Lib.hid (And.intro hGwr hNwr)
     obtain ⟨fl, hfl⟩ : ∃ fl, F.length = fl := ⟨_, rfl⟩
     rw [hfl] at hFl hFp
     have HFL := Lib.hid hfl
     have hend : (decide ((sz : Int) < 16) && decide ((at_ : Int) + (fl : Int) < (n : Int))) = false := by
      have h1 := HF.out.2.2.2.1
      have h2 := HF.out.2.1
      rw [HSZ.out] at h1
      rw [hfl] at h2
      simp only [Bool.and_eq_false_iff, decide_eq_false_iff_not]
      omega
     clear hd6 hb6 hc6 hg5 hg6 hi6 hGwr hNwr hfl
     have g3 : decide ((4096 : Int) < (sz : Int)) = false := by simp; omega
     rw [HFL.out]
     go_upto_region 12 with fail
     go_cut [92] (fun y wx => y = .bool false ∧ wx = wc)
     case first =>
      obtain ⟨z1, hz1⟩ : ∃ z, decide ((sz : Int) < 16) = z := ⟨_, rfl⟩
      obtain ⟨z2, hz2⟩ : ∃ z, decide ((at_ : Int) + (fl : Int) < (n : Int)) = z := ⟨_, rfl⟩
      rw [hz1, hz2] at hend
      cases z1 <;> cases z2 <;> first | (simp at hend; done) | (go_wp2_with fail; go_meet; exact ⟨rfl, rfl⟩)
     case rest =>
      obtain ⟨rfl, rfl⟩ := hcut
      clear hend c1 i0 i1 g3
      obtain ⟨vsc, hsc, _⟩ := X6.out.2.2.1
      obtain ⟨Ac, cc, rfl⟩ := own_slice hsc
      clear hsc
      have e0 : wc.cell? ⟨G5, 0, none⟩ = some (.bool f.vr) := by rw [cell_of_row wc G5 0 _ _ _ X6.out.1]; rfl
      have e1 : wc.cell? ⟨G5, 1, none⟩ = some (.int .i64 sz) := by rw [cell_of_row wc G5 1 _ _ _ X6.out.1]; rfl
      have e2 : wc.cell? ⟨G5, 2, none⟩ = some (.int .i64 rt) := by rw [cell_of_row wc G5 2 _ _ _ X6.out.1]; rfl
      have e3 : wc.cell? ⟨G5, 3, none⟩ = some (.int .i64 ch) := by rw [cell_of_row wc G5 3 _ _ _ X6.out.1]; rfl
      have e4 : wc.cell? ⟨G5, 4, none⟩ = some (.int .i64 bp) := by rw [cell_of_row wc G5 4 _ _ _ X6.out.1]; rfl
      have e5 : wc.cell? ⟨G5, 5, none⟩ = some (.int .u64 nm) := by rw [cell_of_row wc G5 5 _ _ _ X6.out.1]; rfl
      go_wp2_with (with_reducible refine stop_dst (N := 101) rfl ?_)
      refine unstop ?_
      obtain ⟨w7, hw7⟩ : ∃ w7, wc.alloc (.cells #[.bool f.vr, .int .i64 sz, .int .i64 rt, .int .i64 ch, .int .i64 bp, .int .u64 nm] 32) = w7 := ⟨_, rfl⟩
      have nb7 : w7.heap[wc.heap.size]? = some (.cells #[.bool f.vr, .int .i64 sz, .int .i64 rt, .int .i64 ch, .int .i64 bp, .int .u64 nm] 32 (0, 0)) := by rw [← hw7]; exact heap_alloc_new _ _
      have hb7 : Below wc.heap.size wc w7 := by rw [← hw7]; exact below_alloc (Below.refl _ _) _
      have t7 : Touch [] wr w7 := (Touch.of_below (S := []) X6.out.2.1).trans (Touch.of_below hb7)
      have oh7 := own_touch Y.out.2.2.2.1 t7 (by simp)
      have oa7 := own_touch Y.out.2.2.2.2.2.1 t7 (by simp)
      have hN7 : N ≤ w7.heap.size := Nat.le_trans HG.out.2 t7.size
      rw [hw7]
      obtain ⟨ip, hp0, hp1, hp2, hp3⟩ := info_any (t := 32) (z := .agg #[.bool false, .int .i64 0, .int .i64 0, .int .i64 0, .int .i64 0, .int .u64 0]) (s := 6) (b := 48) (by kernel_rfl)
      refine wpList_append_lies _ rfl (.tmp 98) (.tmp 100) 27 rfl N 32 ip _ 6 48 Tryz.underlying27 hp0 hp1 hp2 hp3 rfl (by decide) _ j hs rfl oh7 ⟨wc.heap.size, 0, none⟩ 1 1 [.bool f.vr, .int .i64 sz, .int .i64 rt, .int .i64 ch, .int .i64 bp, .int .u64 nm] rfl rfl (World.news_of_block nb7) (by simp [Value.oneCell']) (by decide) (by unfold maxLen; omega) (by omega) hN7 _ rfl ?_
      intro gv cap w8 hO8 hG8 hA8 hL8
      have t8 := grown_touch hG8
      have X8 := Lib.hid (And.intro hO8 (And.intro t8 (And.intro t7 (And.intro oh7 oa7))))
      have HC7 := Lib.hid (Touch.of_below (S := []) hb7)
      clear hO8 hG8 hA8 t8 t7 oh7 oa7 hw7 nb7 hb7 e0 e1 e2 e3 e4 e5 hp0 hp1 hp2 hp3
      go_wp2_with (with_reducible refine stop_dst (N := 105) rfl ?_)
      refine unstop ?_
      obtain ⟨w9, hw9⟩ : ∃ w9, w8.alloc (.cells #[.slice Ac f.subs.length cc] 38) = w9 := ⟨_, rfl⟩
      have nb9 : w9.heap[w8.heap.size]? = some (.cells #[.slice Ac f.subs.length cc] 38 (0, 0)) := by rw [← hw9]; exact heap_alloc_new _ _
      have hb9 : Below w8.heap.size w8 w9 := by rw [← hw9]; exact below_alloc (Below.refl _ _) _
      have oa8 := own_touch X8.out.2.2.2.2 X8.out.2.1 (own_far2 X8.out.2.2.2.2 X8.out.2.2.2.1 (by decide))
      have oa9 := own_touch oa8 (Touch.of_below (S := []) hb9) (by simp)
      have hN9 : N ≤ w9.heap.size := Nat.le_trans HG.out.2 (Nat.le_trans X8.out.2.2.1.size (Nat.le_trans X8.out.2.1.size hb9.size))
      rw [hw9]
      obtain ⟨ip, hp0, hp1, hp2, hp3⟩ := info_any (t := 38) (z := .slice none 0 0) (s := 1) (b := 24) (by kernel_rfl)
      refine wpList_append_lies _ rfl (.tmp 102) (.tmp 104) 28 rfl N 38 ip (.slice none 0 0) 1 24 Tryz.underlying28 hp0 hp1 hp2 hp3 rfl (by decide) _ j vs rfl oa9 ⟨w8.heap.size, 0, none⟩ 1 1 [.slice Ac f.subs.length cc] rfl rfl (World.news_of_block nb9) (by simp [Value.oneCell']) (by decide) (by unfold maxLen; omega) (by omega) hN9 _ rfl ?_
      intro ga capa w10 hO10 hG10 hA10 hL10
      have t10 := grown_touch hG10
      have X10 := Lib.hid (And.intro hO10 (And.intro t10 (And.intro hb9 (And.intro oa9 oa8))))
      clear hO10 hG10 hA10 t10 hw9 nb9 hb9 oa8 oa9 hp0 hp1 hp2 hp3
      go_wp2_with fail
      go_roundw
      case rel =>
       have hvl : vs.length = j := by have := Y.out.2.2.2.2.2.1.1; omega
       have hhl := Y.out.2.2.2.1.1
       have t9 := Touch.of_below (S := []) X10.out.2.2.1
       have tA : Touch [] wr wc := Touch.of_below X6.out.2.1
       have tyh : ∀ k ∈ u9.ownBlock.toList, ∃ cs, wr.heap[k]? = some (.cells cs 32 (0, 0)) := fun k hk => (own_ty Y.out.2.2.2.1 k hk).2
       have bw7 := X8.out.2.2.1.below (w0 := w) (by rw [hN]; exact Y.out.2.2.1) (fun k hk => absurd hk (by simp))
       have bw8 := X8.out.2.1.below bw7 (fun k hk => by rw [hN]; exact (own_ty X8.out.2.2.2.1 k hk).1)
       have bw9 := t9.below bw8 (fun k hk => absurd hk (by simp))
       have bw10 := X10.out.2.1.below bw9 (fun k hk => by rw [hN]; exact (own_ty X10.out.2.2.2.1 k hk).1)
       rw [hN] at bw10
       have keep : ∀ {k : Nat} {cs : Array Value} {ty : TypeId}, wr.heap[k]? = some (.cells cs ty (0, 0)) → ty ≠ 32 → ty ≠ 38 → w10.heap[k]? = some (.cells cs ty (0, 0)) := fun {k cs ty} hk h1 h2 => by
        have k7 := X8.out.2.2.1.heap hk (by simp)
        have k8 := X8.out.2.1.heap k7 (fun hm => by obtain ⟨_, cs', h⟩ := own_ty X8.out.2.2.2.1 k hm; exact blk_ne k7 h h1 rfl)
        have k9 := t9.heap k8 (by simp)
        exact X10.out.2.1.heap k9 (fun hm => by obtain ⟨_, cs', h⟩ := own_ty X10.out.2.2.2.1 k hm; exact blk_ne k9 h h2 rfl)
       have ohA := own_touch X8.out.1 t9 (by simp)
       have ohB := own_touch ohA X10.out.2.1 (own_far2 ohA X10.out.2.2.2.1 (by decide))
       have rows : ∀ {u : Value} {subs : List Sb} {W : World}, Chans W N u subs → Touch [] W w7 → Chans w10 N u subs := fun {u subs W} h t => by
        have k7 := h.touch t (by simp)
        have k8 := k7.touch X8.out.2.1 (fun k hk => by obtain ⟨_, cs, h⟩ := own_ty X8.out.2.2.2.1 k hk; exact ⟨_, _, _, h, by decide, by decide⟩)
        have k9 := k8.touch t9 (by simp)
        exact k9.touch X10.out.2.1 (fun k hk => by obtain ⟨_, cs, h⟩ := own_ty X10.out.2.2.2.1 k hk; exact ⟨_, _, _, h, by decide, by decide⟩)
       refine ⟨j + 1, hs ++ [.bool f.vr, .int .i64 sz, .int .i64 rt, .int .i64 ch, .int .i64 bp, .int .u64 nm], vs ++ [.slice Ac f.subs.length cc], T2, by omega, ?_, rfl, rfl, hT2b, keep Y.out.1 (by decide) (by decide), keep Y.out.2.1 (by decide) (by decide), bw10, ohB, ?_, X10.out.1, ?_⟩
       ·rw [HF.out.2.2.1, HFL.out]; simp
       ·have h := HeadsAre.snoc (x0 := .bool f.vr) (x2 := .int .i64 rt) (x3 := .int .i64 ch) (x4 := .int .i64 bp) (x5 := .int .u64 nm) Y.out.2.2.2.2.1 hhl
        rw [HF.out.1, HSZ.out] at h; exact h
       ·have h := AllRows.snoc (w := w10) (B := N) (vs := vs) (fs := fs) (u := .slice Ac f.subs.length cc) (fun k hk => by
         obtain ⟨u, h1, h2⟩ := Y.out.2.2.2.2.2.2.1 k (by omega)
         exact ⟨u, h1, rows h2 X8.out.2.2.1⟩) (by rw [hvl, HF.out.1]; exact rows X6.out.2.2.1 HC7.out)
        rw [hvl] at h; exact h
      case measure =>
       simp [intOf]; omega
  ·obtain rfl : j = nf := by omega
   have hatn2 : at_ = n := by
    have h1 := Y.out.2.2.2.2.2.2.2
    rw [← hlenF, atOf_all, ← HH.out.2.2.1, HH.out.2.2.2.2.2.2.2.2.2.2.1] at h1
    exact h1.symm
   subst hatn2
   have i0 : wr.cell? ⟨G, 0, none⟩ = some (.int .i64 16) := by rw [cell_of_row wr G 0 _ _ _ Y.out.1]; rfl
   have r0 : wr.cell? ⟨N, 0, none⟩ = some (.int .i64 0) := by rw [cell_of_row wr N 0 _ _ _ Y.out.2.1]; rfl
   have s0 : wr.frozen? ⟨N, 0, none⟩ = false := by simp [World.frozen?, Y.out.2.1]
   have i1 : wr.cell? ⟨G, 1, none⟩ = some (.int .i64 4096) := by rw [cell_of_row wr G 1 _ _ _ Y.out.1]; rfl
   have r1 : wr.cell? ⟨N, 1, none⟩ = some (.int .i64 0) := by rw [cell_of_row wr N 1 _ _ _ Y.out.2.1]; rfl
   have s1 : wr.frozen? ⟨N, 1, none⟩ = false := by simp [World.frozen?, Y.out.2.1]
   have i2 : wr.cell? ⟨G, 2, none⟩ = some (.int .i64 0) := by rw [cell_of_row wr G 2 _ _ _ Y.out.1]; rfl
   have r2 : wr.cell? ⟨N, 2, none⟩ = some (.int .i64 0) := by rw [cell_of_row wr N 2 _ _ _ Y.out.2.1]; rfl
   have s2 : wr.frozen? ⟨N, 2, none⟩ = false := by simp [World.frozen?, Y.out.2.1]
   have i3 : wr.cell? ⟨G, 3, none⟩ = some (.int .i64 0) := by rw [cell_of_row wr G 3 _ _ _ Y.out.1]; rfl
   have r3 : wr.cell? ⟨N, 3, none⟩ = some (.int .i64 0) := by rw [cell_of_row wr N 3 _ _ _ Y.out.2.1]; rfl
   have s3 : wr.frozen? ⟨N, 3, none⟩ = false := by simp [World.frozen?, Y.out.2.1]
   have i4 : wr.cell? ⟨G, 4, none⟩ = some (.int .i64 rt) := by rw [cell_of_row wr G 4 _ _ _ Y.out.1]; rfl
   have r4 : wr.cell? ⟨N, 4, none⟩ = some (.int .i64 0) := by rw [cell_of_row wr N 4 _ _ _ Y.out.2.1]; rfl
   have s4 : wr.frozen? ⟨N, 4, none⟩ = false := by simp [World.frozen?, Y.out.2.1]
   have i5 : wr.cell? ⟨G, 5, none⟩ = some (.int .i64 nc) := by rw [cell_of_row wr G 5 _ _ _ Y.out.1]; rfl
   have r5 : wr.cell? ⟨N, 5, none⟩ = some (.int .i64 0) := by rw [cell_of_row wr N 5 _ _ _ Y.out.2.1]; rfl
   have s5 : wr.frozen? ⟨N, 5, none⟩ = false := by simp [World.frozen?, Y.out.2.1]
   have i6 : wr.cell? ⟨G, 6, none⟩ = some (.int .i64 bp) := by rw [cell_of_row wr G 6 _ _ _ Y.out.1]; rfl
   have r6 : wr.cell? ⟨N, 6, none⟩ = some (.int .i64 0) := by rw [cell_of_row wr N 6 _ _ _ Y.out.2.1]; rfl
   have s6 : wr.frozen? ⟨N, 6, none⟩ = false := by simp [World.frozen?, Y.out.2.1]
   have i7 : wr.cell? ⟨G, 7, none⟩ = some (.int .u64 ns) := by rw [cell_of_row wr G 7 _ _ _ Y.out.1]; rfl
   have r7 : wr.cell? ⟨N, 7, none⟩ = some (.int .u64 0) := by rw [cell_of_row wr N 7 _ _ _ Y.out.2.1]; rfl
   have s7 : wr.frozen? ⟨N, 7, none⟩ = false := by simp [World.frozen?, Y.out.2.1]
   have i8 : wr.cell? ⟨G, 8, none⟩ = some (.slice As ms cs_) := by rw [cell_of_row wr G 8 _ _ _ Y.out.1]; rfl
   have r8 : wr.cell? ⟨N, 8, none⟩ = some (.slice none 0 0) := by rw [cell_of_row wr N 8 _ _ _ Y.out.2.1]; rfl
   have s8 : wr.frozen? ⟨N, 8, none⟩ = false := by simp [World.frozen?, Y.out.2.1]
   go_wp2_with fail
   obtain ⟨wz, hwz, tz, t0, t1, t2, t3, t4, t5, t6, t7, t8⟩ := st_info (i0 := 16) (i1 := 4096) (i2 := 0) (i3 := 0) (i4 := rt) (i5 := nc) (i6 := bp) (i7 := ns) (u8 := .slice As ms cs_) Y.out.2.1
   rw [hwz]
   have hbz : Below N w wz := by
    have h := tz.below (w0 := w) (by rw [hN]; exact Y.out.2.2.1) (fun k hk => by
     obtain rfl : k = N := by simpa using hk
     rw [hN]; exact Nat.le_refl _)
    rw [hN] at h; exact h
   have hne : ∀ {e : TypeId} {size m : Nat} {v : Value} {xs : List Value}, wr.ownsRow N e size v m xs → e ≠ 26 → wz.ownsRow N e size v m xs := fun {e size m v xs} h he => own_touch h tz (own_notin h Y.out.2.1 (Ne.symm he))
   exact bodyPost_ret (v := .tuple #[.agg #[.int .i64 16, .int .i64 4096, .int .i64 0, .int .i64 0, .int .i64 rt, .int .i64 nc, .int .i64 bp, .int .u64 ns, .slice As ms cs_], u9, u10, .int .i64 0]) (by simp [results, Tryz.results7, go_sem, t0, t1, t2, t3, t4, t5, t6, t7, t8]) rfl ⟨hbz, nc, ms, cs_, As, _, _, hs, vs, rfl, hne Y.out.2.2.2.1 (by decide), Y.out.2.2.2.2.1, hne Y.out.2.2.2.2.2.1 (by decide), Y.out.2.2.2.2.2.2.1.touch tz (fun k hk => by
    obtain rfl : k = N := by simpa using hk
    exact ⟨_, _, _, Y.out.2.1, by decide, by decide⟩)⟩
end Go.Proofs.YtmcllndnjdemaaaGreatDoor.Walk
