/- (*frame.Frame).parseHeader, whatever the bytes: a header is read just where HdrIs says so. Printed by wip/hdrw.py. -/
import Derived.Test.YtcdfbcanebjmfaaDoorHdrN
import Derived.Outline
namespace Go.Proofs.YtcdfbcanebjmfaaDoor.Walk
set_option linter.unusedVariables false
set_option linter.unusedSimpArgs false
open Go Go.RowKit Go.Proofs.YtcdfbcanebjmfaaDoorW.PrintWords Go.Proofs.YtcdfbcanebjmfaaDoor.Num Go.Proofs.YtcdfbcanebjmfaaDoor.Crc

/-- What Decode reads at p: a coded number, or FF (0, in one byte). -/
def Utf (l : List Int) (p v n : Nat) : Prop := (p < l.length ∧ byteAt l p = 255 ∧ v = 0 ∧ n = 1) ∨ GoodAt l p v n
theorem GoodAt.not_ff {l : List Int} {p v n : Nat} (h : GoodAt l p v n) : byteAt l p ≠ 255 := by
  obtain ⟨_, ⟨h1, _⟩ | ⟨L, m1, mx, hC, _⟩⟩ := h
  · omega
  · cases hC <;> omega
theorem Utf.same {l : List Int} {p v n v' n' : Nat} (h : Utf l p v n) (h' : Utf l p v' n') : v = v' ∧ n = n' := by
  rcases h with ⟨_, h1, rfl, rfl⟩ | h <;> rcases h' with ⟨_, h2, rfl, rfl⟩ | h'
  · exact ⟨rfl, rfl⟩
  · exact absurd h1 h'.not_ff
  · exact absurd h2 h.not_ff
  · exact h.same h'
def DecAll (S : List Nat) (l : List Int) (p : Nat) (St : World → Nat → Prop) (w : World) (e : Ending) (w' : World) : Prop :=
  Touch S w w' ∧ ((∃ v n, Utf l p v n ∧ e = .returned (.tuple #[.int .u64 v, .nilIface]) ∧ St w' (p + n)) ∨
    ((∀ v n, ¬ Utf l p v n) ∧ ∃ a, ErrAt w' a ∧ e = .returned (.tuple #[.int .u64 0, .iface 130 (.pointer (some a))])))
theorem dec_all {ty fn g : Nat} {S D : List Nat} {l : List Int} {St : World → Nat → Prop} (R : Src ty fn g S D l St) (hbytes : ∀ i, l.getD i 0 = (byteAt l i : Int) ∧ byteAt l i < 256) (w : World) (p : Nat) (ea eb : Addr)
    (hs : St w p) (hD : ∀ k ∈ D, k < w.heap.size) (hG : Glob w ea eb) (hsafe : ∀ k ∈ S, Safe ea eb k) :
    Calls Tryd.prog 32 #[.iface ty (.pointer (some ⟨g, 0, none⟩))] w (DecAll S l p St w) := by
  by_cases hff : p < l.length ∧ byteAt l p = 255
  · refine (dec_ff R w p hs hff.1 (by rw [(hbytes p).1, hff.2]; rfl) hD).mono ?_
    rintro e w' ⟨rfl, ht, hst⟩
    exact ⟨ht, .inl ⟨0, 1, .inl ⟨hff.1, hff.2, rfl, rfl⟩, rfl, hst⟩⟩
  · refine (dec_any R hbytes w p ea eb hs hD hG hsafe (fun h e => hff ⟨h, e⟩)).mono ?_
    rintro e w' ⟨ht, ⟨v, n, hg, rfl, hst⟩ | ⟨hno, he, q, hst⟩⟩
    · exact ⟨ht, .inl ⟨v, n, .inr hg, rfl, hst⟩⟩
    · refine ⟨ht, .inr ⟨?_, he⟩⟩
      rintro v n (⟨h1, h2, _⟩ | h)
      · exact hff ⟨h1, h2⟩
      · exact hno v n h

/-- A header's parts. -/
structure HF where
  fx : Bool
  size : Nat
  rate : Nat
  ch : Nat
  bits : Nat
  num : Nat
/-- The bytes begin with a header of these parts. -/
structure HdrIs (l : List Int) (f : HF) : Prop where
  a : 14 ≤ 8 * l.length
  b : num l 0 14 = 16382
  c : num l 14 1 = 0
  fx : f.fx = decide (num l 15 1 = 0)
  d : 32 ≤ 8 * l.length
  ch : f.ch = num l 24 4
  ch2 : num l 24 4 < 11
  bits : bpsOf (num l 28 3) = some f.bits
  free : num l 31 1 = 0
  ex : ∃ n at2 at3, Utf l 4 f.num n ∧ bsAt l (32 + 8 * n) (num l 16 4) = some (f.size, at2) ∧ srAt l at2 (num l 20 4) = some (f.rate, at3) ∧
    at3 / 8 < l.length ∧ l.getD (at3 / 8) 0 = up8 (f8 7) 0 (l.take (at3 / 8))
def HdrTold (l : List Int) (gf : Nat) (S1 : List Nat) (v6 v7 v9 v10 : Value) (w : World) (e : Ending) (w' : World) : Prop :=
  Touch (gf :: S1) w w' ∧ ((∃ f v8, HdrIs l f ∧ e = .returned .nilIface ∧ w'.heap[gf]? = some (.cells (frA f.fx f.size f.rate f.ch f.bits f.num v6 v7 v8 v9 v10) 74 (0, 0))) ∨
    ((∀ f, ¬ HdrIs l f) ∧ ∃ a, e = .returned (.iface 130 (.pointer (some a)))))
theorem ErrAt.set {w : World} {a : Addr} (h : ErrAt w a) (g i : Nat) (u : Value) : ErrAt (w.setCell ⟨g, i, none⟩ u) a := by
  obtain ⟨c, t, h⟩ := h
  by_cases hb : a.block = g
  · subst hb; exact ⟨_, t, blk_set h i u⟩
  · exact ⟨c, t, (Below.heap_setCell _ _ _ _ hb).trans h⟩
theorem HdrIs.at4 {l : List Int} {f : HF} (h : HdrIs l f) {v n : Nat} (hu : Utf l 4 v n) : f.num = v ∧ ∃ at2 at3, bsAt l (32 + 8 * n) (num l 16 4) = some (f.size, at2) ∧ srAt l at2 (num l 20 4) = some (f.rate, at3) ∧
    at3 / 8 < l.length ∧ l.getD (at3 / 8) 0 = up8 (f8 7) 0 (l.take (at3 / 8)) := by
  obtain ⟨n', at2, at3, hu', hr⟩ := h.ex
  obtain ⟨e1, rfl⟩ := hu'.same hu
  exact ⟨e1, at2, at3, hr⟩
theorem bs_at {l : List Int} {at_ n v at2 : Nat} (h : bsAt l at_ n = some (v, at2)) : at2 = at_ ∨ at2 = at_ + 8 ∨ at2 = at_ + 16 := by
  unfold bsAt at h
  (repeat' split at h) <;> (try simp at h) <;> omega
theorem sr_at {l : List Int} {at_ n v at2 : Nat} (h : srAt l at_ n = some (v, at2)) : at2 = at_ ∨ at2 = at_ + 8 ∨ at2 = at_ + 16 := by
  unfold srAt at h
  (repeat' split at h) <;> (try simp at h) <;> omega

set_option maxHeartbeats 16000000 in
set_option maxRecDepth 100000 in
theorem header_any {ty1 fn1 g1 : Nat} {S1 D1 : List Nat} {l : List Int} {St1 : World → Nat → Prop} (R1 : Src ty1 fn1 g1 S1 D1 l St1) (hbytes : ∀ x ∈ l, 0 ≤ x ∧ x ≤ 255) (hlen : l.length ≤ 9223372036854775807) (w : World) (gf : Nat)
    (v6 v7 v8 v10 : Value) (ea eb es : Addr) (hs : St1 w 0)
    (hf : w.heap[gf]? = some (.cells (frA false 0 0 0 0 0 v6 v7 v8 (.iface ty1 (.pointer (some ⟨g1, 0, none⟩))) v10) 74 (0, 0))) (hgf : gf ∉ D1) (hD : ∀ k ∈ D1, k < w.heap.size) (hG : Glob w ea eb)
    (hes : w.cell? ⟨0, 0, none⟩ = some (.iface 130 (.pointer (some es)))) (hsafe : ∀ k, k ∈ gf :: S1 ∨ w.heap.size ≤ k → Safe ea eb k ∧ k ≠ 0) :
    Calls Tryd.prog 21 #[.pointer (some ⟨gf, 0, none⟩)] w (HdrTold l gf S1 v6 v7 (.iface ty1 (.pointer (some ⟨g1, 0, none⟩))) v10 w) := by
  have hlt := (Array.getElem?_eq_some_iff.1 hf).1
  obtain ⟨N, hN⟩ : ∃ N, w.heap.size = N := ⟨_, rfl⟩
  have hgfN : gf < N := by omega
  have hDN : ∀ k ∈ D1, k < N := fun k hk => by rw [← hN]; exact hD k hk
  have hN8 : N ∉ D1 := fun h => by have := hDN _ h; omega
  have hN9 : N + 1 ∉ D1 := fun h => by have := hDN _ h; omega
  have hN10 : N + 2 ∉ D1 := fun h => by have := hDN _ h; omega
  have hN11 : N + 3 ∉ D1 := fun h => by have := hDN _ h; omega
  -- the outer tee as a source
  obtain ⟨St2, hSt2⟩ : ∃ St2, TeeSt (N + 2) ty1 g1 136 (N + 1) l St1 (Dig8 (N + 1) N) = St2 := ⟨_, rfl⟩
  have hR2 := tee_src (gt := N + 2) R1 (dig8_snk (N + 1) N (by omega)) hbytes hlen hN10 (by simp) (fun a ha h => by simp at h; have := hDN a ha; omega)
  rw [hSt2] at hR2
  have hdown : ∀ wx p, St2 wx p → St1 wx p ∧ Dig8 (N + 1) N wx (l.take p) := fun wx p h => by rw [← hSt2] at h; exact h.2
  have hmk2 : ∀ wx, wx.heap[N + 2]? = some (.cells #[.iface ty1 (.pointer (some ⟨g1, 0, none⟩)), .iface 136 (.pointer (some ⟨N + 1, 0, none⟩))] 90 (0, 0)) → St1 wx 0 → Dig8 (N + 1) N wx [] → St2 wx 0 := fun wx h1 h2 h3 => by
    rw [← hSt2]; exact ⟨h1, h2, h3⟩
  obtain ⟨S2, hS2⟩ : ∃ S2, S1 ++ [N + 1] = S2 := ⟨_, rfl⟩
  obtain ⟨D2, hD2⟩ : ∃ D2, (N + 2) :: (D1 ++ [N + 1, N]) = D2 := ⟨_, rfl⟩
  rw [hS2, hD2] at hR2
  have hs1 : ∀ k ∈ S1, k < N := fun k hk => hDN k (R1.sub k hk)
  have hs2 : ∀ k ∈ S2, k ∈ S1 ∨ k = N + 1 := fun k hk => by rw [← hS2] at hk; simpa using hk
  have hd2 : ∀ k ∈ D2, k ≤ N + 2 := fun k hk => by
    rw [← hD2] at hk; simp at hk
    rcases hk with h | h | h | h
    · omega
    · have := hDN k h; omega
    · omega
    · omega
  have hgfD2 : gf ∉ D2 := fun h => by
    rw [← hD2] at h; simp at h
    rcases h with h | h | h | h
    · omega
    · exact hgf h
    · omega
    · omega
  have hgbD2 : N + 3 ∉ D2 := fun h => by have := hd2 _ h; omega
  clear hS2 hD2
  have HR1 := Lib.hid R1
  have HR2 := Lib.hid hR2
  have HBY := Lib.hid hbytes
  have HBY2 := Lib.hid (fun i => bytes_at hbytes i)
  have HDN := Lib.hid hdown
  have HMK := Lib.hid hmk2
  have HG := Lib.hid hG
  have HES := Lib.hid hes
  have HSF := Lib.hid hsafe
  have HF0 := Lib.hid hf
  have HS1 := Lib.hid hs1
  have HS2 := Lib.hid hs2
  have HD2 := Lib.hid hd2
  have HGFD := Lib.hid hgfD2
  have HGBD := Lib.hid hgbD2
  have HGF1 := Lib.hid hgf
  have HS0 := Lib.hid hs
  have HNN := Lib.hid hN
  have HDL := Lib.hid hDN
  obtain ⟨x0, hx0⟩ : ∃ x, num l 0 14 = x := ⟨_, rfl⟩
  obtain ⟨x1, hx1⟩ : ∃ x, num l 14 1 = x := ⟨_, rfl⟩
  obtain ⟨x2, hx2⟩ : ∃ x, num l 15 1 = x := ⟨_, rfl⟩
  obtain ⟨x3, hx3⟩ : ∃ x, num l 16 4 = x := ⟨_, rfl⟩
  obtain ⟨x4, hx4⟩ : ∃ x, num l 20 4 = x := ⟨_, rfl⟩
  obtain ⟨x6, hx6⟩ : ∃ x, num l 31 1 = x := ⟨_, rfl⟩
  have hb3 : x3 < 16 := by rw [← hx3]; exact num_lt l 16 4
  have hb4 : x4 < 16 := by rw [← hx4]; exact num_lt l 20 4
  have HX0 := Lib.hid hx0
  have HX1 := Lib.hid hx1
  have HX2 := Lib.hid hx2
  have HX3 := Lib.hid hx3
  have HX4 := Lib.hid hx4
  have HX6 := Lib.hid hx6
  clear R1 hR2 hbytes hdown hmk2 hG hes hsafe hs1 hs2 hd2 hgfD2 hgbD2 hgf hs hDN hD hSt2 hN8 hN9 hN10 hN11 hx0 hx1 hx2 hx3 hx4 hx6 hlen hlt
  go_enter Tryd.func21, Tryd.ntmps21
  go_wp2_with fail
  refine (newDig8 w).mono ?_
  rw [HNN.out]
  rintro e w1 ⟨rfl, hb1, hsz1, hd1⟩
  have hf1 := (hb1.block gf hgfN).trans HF0.out
  have c9 : w1.cell? ⟨gf, 9, none⟩ = some (.iface ty1 (.pointer (some ⟨g1, 0, none⟩))) := by rw [cell_of_row w1 gf 9 _ _ _ hf1]; rfl
  have Y1 := Lib.hid (And.intro hb1 (And.intro hsz1 (And.intro hd1 hf1)))
  clear hb1 hsz1 hd1 hf hf1 hN
  go_wp2_with fail
  refine (newTee _ _ _ _ _).mono ?_
  rw [Y1.out.2.1]
  rintro e w2 ⟨rfl, hw2⟩
  have Y2 := Lib.hid hw2
  clear hw2 c9
  go_wp2_with fail
  refine (newBits _ _ _).mono ?_
  have hsz2 : w2.heap.size = N + 3 := by rw [Y2.out, World.size_alloc, Y1.out.2.1]
  rw [hsz2]
  rintro e w3 ⟨rfl, hw3⟩
  have hf3 : w3.heap[gf]? = some (.cells (frA false 0 0 0 0 0 v6 v7 v8 (.iface ty1 (.pointer (some ⟨g1, 0, none⟩))) v10) 74 (0, 0)) := by
    rw [hw3, Below.heap_alloc _ _ _ (by omega), Y2.out, Below.heap_alloc _ _ _ (by rw [Y1.out.2.1]; omega)]; exact Y1.out.2.2.2
  have f8 : w3.frozen? ⟨gf, 8, none⟩ = false := by simp [World.frozen?, hf3]
  have c8 : w3.cell? ⟨gf, 8, none⟩ = some v8 := by rw [cell_of_row w3 gf 8 _ _ _ hf3]; rfl
  have hB3 : Below N w w3 := by
    have h := ((Y1.out.1.alloc (Nat.le_of_eq (by rw [Y1.out.2.1]) |> Nat.le_trans (Nat.le_add_right N 2)) (.cells #[.iface ty1 (.pointer (some ⟨g1, 0, none⟩)), .iface 136 (.pointer (some ⟨N + 1, 0, none⟩))] 90)))
    rw [← Y2.out] at h
    rw [hw3]; exact h.alloc (by omega) _
  have hb3' : w3.heap[N + 3]? = some (.cells (.iface 88 (.pointer (some ⟨N + 2, 0, none⟩)) :: ((List.replicate 8 (.int .u8 0)) ++ [.int .u8 0, .int .u64 0])).toArray 127 (0, 0)) := by
    rw [hw3, ← hsz2]; exact heap_alloc_new _ _
  have ht3 : w3.heap[N + 2]? = some (.cells #[.iface ty1 (.pointer (some ⟨g1, 0, none⟩)), .iface 136 (.pointer (some ⟨N + 1, 0, none⟩))] 90 (0, 0)) := by
    rw [hw3, Below.heap_alloc _ _ _ (by omega), Y2.out, ← Y1.out.2.1]; exact heap_alloc_new _ _
  have hd3 : Dig8 (N + 1) N w3 [] := by
    refine ⟨?_, ?_⟩
    · rw [hw3, Below.heap_alloc _ _ _ (by omega), Y2.out, Below.heap_alloc _ _ _ (by rw [Y1.out.2.1]; omega)]; exact Y1.out.2.2.1.1
    · rw [hw3, Below.heap_alloc _ _ _ (by omega), Y2.out, Below.heap_alloc _ _ _ (by rw [Y1.out.2.1]; omega)]; exact Y1.out.2.2.1.2
  have hsz3 : w3.heap.size = N + 4 := by rw [hw3, World.size_alloc, hsz2]
  have Y3 := Lib.hid (And.intro hf3 (And.intro hB3 (And.intro hb3' (And.intro ht3 (And.intro hd3 hsz3)))))
  clear hw3 hf3 hB3 hb3' ht3 hd3 hsz3 hsz2
  go_wp2_with fail
  -- the reader stands at the first bit
  obtain ⟨w4, hw4⟩ : ∃ w4, w3.setCell ⟨gf, 8, none⟩ (.pointer (some ⟨N + 3, 0, none⟩)) = w4 := ⟨_, rfl⟩
  rw [hw4]
  have t34 : Touch [gf] w3 w4 := by rw [← hw4]; exact (Touch.refl _ _).setCell (.inl (by simp)) _
  have hf4 : w4.heap[gf]? = some (.cells (frA false 0 0 0 0 0 v6 v7 (.pointer (some ⟨N + 3, 0, none⟩)) (.iface ty1 (.pointer (some ⟨g1, 0, none⟩))) v10) 74 (0, 0)) := by
    rw [← hw4, blk_set Y3.out.1 8]; rfl
  have hne : ∀ k, N ≤ k → k ∉ [gf] := fun k hk hm => by simp at hm; omega
  have hst4 : St2 w4 0 := HMK.out w4 (t34.heap Y3.out.2.2.2.1 (hne _ (by omega)))
    (HR1.out.move [gf] w3 w4 0 (HR1.out.move [] w w3 0 HS0.out (by simp) (Touch.of_below (by have h := Y3.out.2.1; rw [← HNN.out] at h; exact h))) (fun k hk => by simp at hk; subst hk; exact HGF1.out) t34)
    ⟨t34.heap Y3.out.2.2.2.2.1.1 (hne _ (by omega)), t34.heap Y3.out.2.2.2.2.1.2 (hne _ (by omega))⟩
  have hbr4 : Br 88 (N + 2) (N + 3) l St2 w4 0 := ⟨0, 0, 0, List.replicate 8 (.int .u8 0), hst4, by omega, by omega, by omega, fun h => by omega, by simp, t34.heap Y3.out.2.2.1 (hne _ (by omega))⟩
  have htf : ∀ wx, Touch (gf :: (N + 3) :: S2) w4 wx → Touch (gf :: S1) w wx := fun wx h => by
    have h0 : Touch (gf :: (N + 3) :: S2) w w4 := (Touch.of_below (S := gf :: (N + 3) :: S2) (by have h := Y3.out.2.1; rw [← HNN.out] at h; exact h)).trans (t34.mono (fun k _ hk => by simp at hk; simp [hk]))
    refine (h0.trans h).mono (fun k hk hm => ?_)
    rcases List.mem_cons.1 hm with h | h
    · simp [h]
    · rcases List.mem_cons.1 h with h | h
      · have := HNN.out; omega
      · rcases HS2.out k h with h | h
        · simp [h]
        · have := HNN.out; omega
  have hsf2 : ∀ k ∈ gf :: (N + 3) :: S2, Safe ea eb k ∧ k ≠ 0 := fun k hk => by
    refine HSF.out k ?_
    rcases List.mem_cons.1 hk with h | h
    · exact .inl (by simp [h])
    · rcases List.mem_cons.1 h with h | h
      · exact .inr (by rw [HNN.out]; omega)
      · rcases HS2.out k h with h | h
        · exact .inl (by simp [h])
        · exact .inr (by rw [HNN.out]; omega)
  have hgl : ∀ wx, Touch (gf :: (N + 3) :: S2) w4 wx → Glob wx ea eb ∧ wx.cell? ⟨0, 0, none⟩ = some (.iface 130 (.pointer (some es))) := fun wx h => by
    have h2 := htf wx h
    have hsf3 : ∀ k ∈ gf :: S1, Safe ea eb k ∧ k ≠ 0 := fun k hk => HSF.out k (.inl hk)
    exact ⟨HG.out.touch h2 (fun k hk => (hsf3 k hk).1), h2.cell HES.out (fun hm => (hsf3 _ hm).2 rfl)⟩
  have hsz4 : ∀ wx, Touch (gf :: (N + 3) :: S2) w4 wx → N + 4 ≤ wx.heap.size := fun wx h => by
    have h1 := t34.size; have h2 := h.size; have h3 := Y3.out.2.2.2.2.2; omega
  have HTF := Lib.hid htf
  have HSF2 := Lib.hid hsf2
  have HGL := Lib.hid hgl
  have HSZ := Lib.hid hsz4
  have X0 := Lib.hid (And.intro (Touch.refl (gf :: (N + 3) :: S2) w4) (And.intro hbr4 hf4))
  clear hw4 t34 hf4 hne hst4 hbr4 htf hsf2 hgl hsz4 c8 f8 Y1 Y2 Y3
  by_cases hA : 14 ≤ 8 * l.length
  rotate_left
  · refine (br_fail HR2.out w4 (N + 3) 14 0 ea eb X0.out.2.1 (by decide) (by omega) HGBD.out (HGL.out w4 X0.out.1).1 (fun k hk => (HSF2.out k (List.mem_cons_of_mem _ hk)).1)).mono ?_
    rintro e y1 ⟨a, ha, rfl, ht⟩
    have hty := X0.out.1.trans (ht.mono (fun k _ hk => List.mem_cons_of_mem _ hk))
    have hG1 := (HGL.out y1 hty).1
    have hA1 : ErrAt y1 a := by rcases ha with rfl | rfl; exact hG1.ata; exact hG1.atb
    have Z := Lib.hid hty
    have HG1 := Lib.hid hG1
    have HA1 := Lib.hid hA1
    clear ha ht hG1 hA1 hty
    go_wp2_with fail
    go_ret
    exact ⟨HTF.out _ Z.out, .inr ⟨(fun f h => hA h.a), _, rfl⟩⟩
  by_cases hB : x0 = 16382
  rotate_left
  · have hsync : ((x0 : Int) != 16382) = true := by simp; omega
    have cS := fun wx h => (HGL.out wx h).2
    have HCS := Lib.hid cS
    clear cS
    have hrd := br_read HR2.out HBY.out w4 (N + 3) 14 0 X0.out.2.1 (by decide) (by omega) HGBD.out
    rw [HX0.out] at hrd
    have HRD : Hid (Calls Tryd.prog 27 #[.pointer (some ⟨N + 3, 0, none⟩), .int .u64 14] w4 fun e w' => e = .returned (.tuple #[.int .u64 x0, .nilIface]) ∧ Touch ((N + 3) :: S2) w4 w' ∧ Br 88 (N + 2) (N + 3) l St2 w' 14) := Lib.hid hrd
    clear hrd
    refine HRD.out.mono ?_
    rintro e z1 ⟨rfl, ht, hbr⟩
    have hfx := ht.heap X0.out.2.2 (fun hm => by
      rcases List.mem_cons.1 hm with h | h
      · omega
      · exact HGFD.out (HR2.out.sub _ h))
    have X1 := Lib.hid (And.intro (X0.out.1.trans (ht.mono (fun k _ hk => List.mem_cons_of_mem _ hk))) (And.intro hbr hfx))
    clear HRD ht hbr hfx
    have cS := HCS.out z1 X1.out.1
    go_wp2_with fail
    go_ret
    exact ⟨HTF.out _ X1.out.1, .inr ⟨fun f h => hB (by rw [← HX0.out]; exact h.b), _, rfl⟩⟩
  subst hB
  have hrd := br_read HR2.out HBY.out w4 (N + 3) 14 0 X0.out.2.1 (by decide) (by omega) HGBD.out
  rw [HX0.out] at hrd
  have HRD : Hid (Calls Tryd.prog 27 #[.pointer (some ⟨N + 3, 0, none⟩), .int .u64 14] w4 fun e w' => e = .returned (.tuple #[.int .u64 16382, .nilIface]) ∧ Touch ((N + 3) :: S2) w4 w' ∧ Br 88 (N + 2) (N + 3) l St2 w' 14) := Lib.hid hrd
  clear hrd
  refine HRD.out.mono ?_
  rintro e z1 ⟨rfl, ht, hbr⟩
  have hfx := ht.heap X0.out.2.2 (fun hm => by
    rcases List.mem_cons.1 hm with h | h
    · omega
    · exact HGFD.out (HR2.out.sub _ h))
  have X1 := Lib.hid (And.intro (X0.out.1.trans (ht.mono (fun k _ hk => List.mem_cons_of_mem _ hk))) (And.intro hbr hfx))
  clear HRD ht hbr hfx
  go_wp2_with fail
  by_cases hC : x1 = 0
  rotate_left
  · obtain rfl : x1 = 1 := by have := num_lt l 14 1; rw [HX1.out] at this; omega
    have hrd := br_read HR2.out HBY.out z1 (N + 3) 1 14 X1.out.2.1 (by decide) (by omega) HGBD.out
    rw [HX1.out] at hrd
    have HRD : Hid (Calls Tryd.prog 27 #[.pointer (some ⟨N + 3, 0, none⟩), .int .u64 1] z1 fun e w' => e = .returned (.tuple #[.int .u64 1, .nilIface]) ∧ Touch ((N + 3) :: S2) z1 w' ∧ Br 88 (N + 2) (N + 3) l St2 w' 15) := Lib.hid hrd
    clear hrd
    refine HRD.out.mono ?_
    rintro e z2 ⟨rfl, ht, hbr⟩
    have hfx := ht.heap X1.out.2.2 (fun hm => by
      rcases List.mem_cons.1 hm with h | h
      · omega
      · exact HGFD.out (HR2.out.sub _ h))
    have X2 := Lib.hid (And.intro (X1.out.1.trans (ht.mono (fun k _ hk => List.mem_cons_of_mem _ hk))) (And.intro hbr hfx))
    clear HRD ht hbr hfx
    go_wp2_with fail
    refine (err_new _ z2).mono ?_
    rintro e y1 ⟨a, rfl, hb3, _⟩
    have Z := Lib.hid (X2.out.1.trans (Touch.of_below hb3))
    clear hb3
    go_wp2_with fail
    go_ret
    exact ⟨HTF.out _ Z.out, .inr ⟨(fun f h => hC (by rw [← HX1.out]; exact h.c)), _, rfl⟩⟩
  subst hC
  have hrd := br_read HR2.out HBY.out z1 (N + 3) 1 14 X1.out.2.1 (by decide) (by omega) HGBD.out
  rw [HX1.out] at hrd
  have HRD : Hid (Calls Tryd.prog 27 #[.pointer (some ⟨N + 3, 0, none⟩), .int .u64 1] z1 fun e w' => e = .returned (.tuple #[.int .u64 0, .nilIface]) ∧ Touch ((N + 3) :: S2) z1 w' ∧ Br 88 (N + 2) (N + 3) l St2 w' 15) := Lib.hid hrd
  clear hrd
  refine HRD.out.mono ?_
  rintro e z2 ⟨rfl, ht, hbr⟩
  have hfx := ht.heap X1.out.2.2 (fun hm => by
    rcases List.mem_cons.1 hm with h | h
    · omega
    · exact HGFD.out (HR2.out.sub _ h))
  have X2 := Lib.hid (And.intro (X1.out.1.trans (ht.mono (fun k _ hk => List.mem_cons_of_mem _ hk))) (And.intro hbr hfx))
  clear HRD ht hbr hfx
  go_wp2_with fail
  have hx2b : x2 = 0 ∨ x2 = 1 := by have := num_lt l 15 1; rw [HX2.out] at this; omega
  rcases hx2b with h20 | h21
  · -- fixed
    subst h20
    have hrd := br_read HR2.out HBY.out z2 (N + 3) 1 15 X2.out.2.1 (by decide) (by omega) HGBD.out
    rw [HX2.out] at hrd
    have HRD : Hid (Calls Tryd.prog 27 #[.pointer (some ⟨N + 3, 0, none⟩), .int .u64 1] z2 fun e w' => e = .returned (.tuple #[.int .u64 0, .nilIface]) ∧ Touch ((N + 3) :: S2) z2 w' ∧ Br 88 (N + 2) (N + 3) l St2 w' 16) := Lib.hid hrd
    clear hrd
    refine HRD.out.mono ?_
    rintro e z3 ⟨rfl, ht, hbr⟩
    have hfx := ht.heap X2.out.2.2 (fun hm => by
      rcases List.mem_cons.1 hm with h | h
      · omega
      · exact HGFD.out (HR2.out.sub _ h))
    have X3 := Lib.hid (And.intro (X2.out.1.trans (ht.mono (fun k _ hk => List.mem_cons_of_mem _ hk))) (And.intro hbr hfx))
    clear HRD ht hbr hfx
    have hfz := X3.out.2.2
    have f0 : z3.frozen? ⟨gf, 0, none⟩ = false := by simp [World.frozen?, hfz]
    have c0 : z3.cell? ⟨gf, 0, none⟩ = some (.bool false) := by rw [cell_of_row z3 gf 0 _ _ _ hfz]; rfl
    clear hfz
    go_wp2_with fail
    obtain ⟨zf, hzf⟩ : ∃ zf, z3.setCell ⟨gf, 0, none⟩ (.bool true) = zf := ⟨_, rfl⟩
    rw [hzf]
    have tz : Touch [gf] z3 zf := by rw [← hzf]; exact (Touch.refl _ _).setCell (.inl (by simp)) _
    have hz : zf.heap[gf]? = some (.cells (frA true 0 0 0 0 0 v6 v7 (.pointer (some ⟨N + 3, 0, none⟩)) (.iface ty1 (.pointer (some ⟨g1, 0, none⟩))) v10) 74 (0, 0)) := by
      rw [← hzf, blk_set X3.out.2.2 0]; rfl
    have X10 := Lib.hid (And.intro (X3.out.1.trans (tz.mono (fun k _ hk => by simp at hk; simp [hk]))) (And.intro (X3.out.2.1.move HR2.out tz (fun k hk => by simp at hk; subst hk; exact ⟨by omega, HGFD.out⟩)) hz))
    have HFX : Hid (true = decide (num l 15 1 = 0)) := Lib.hid (by rw [HX2.out]; rfl)
    obtain ⟨fx, hfx⟩ : ∃ b, true = b := ⟨_, rfl⟩
    rw [hfx] at X10 HFX
    clear hzf tz hz f0 c0 hfx X0 X1 X2 X3 HX2
    by_cases hD : 20 ≤ 8 * l.length
    rotate_left
    · refine (br_fail HR2.out zf (N + 3) 4 16 ea eb X10.out.2.1 (by decide) (by omega) HGBD.out (HGL.out zf X10.out.1).1 (fun k hk => (HSF2.out k (List.mem_cons_of_mem _ hk)).1)).mono ?_
      rintro e y1 ⟨a, ha, rfl, ht⟩
      have hty := X10.out.1.trans (ht.mono (fun k _ hk => List.mem_cons_of_mem _ hk))
      have hG1 := (HGL.out y1 hty).1
      have hA1 : ErrAt y1 a := by rcases ha with rfl | rfl; exact hG1.ata; exact hG1.atb
      have Z := Lib.hid hty
      have HG1 := Lib.hid hG1
      have HA1 := Lib.hid hA1
      clear ha ht hG1 hA1 hty
      go_wp2_with fail
      refine (unexp a ea eb y1 HG1.out HA1.out).mono ?_
      rintro e y2 ⟨⟨a2, ha2, rfl⟩, rfl⟩
      clear ha2
      go_wp2_with fail
      go_ret
      exact ⟨HTF.out _ Z.out, .inr ⟨(fun f h => by have := h.d; omega), _, rfl⟩⟩
    have hrd := br_read HR2.out HBY.out zf (N + 3) 4 16 X10.out.2.1 (by decide) (by omega) HGBD.out
    rw [HX3.out] at hrd
    have HRD : Hid (Calls Tryd.prog 27 #[.pointer (some ⟨N + 3, 0, none⟩), .int .u64 4] zf fun e w' => e = .returned (.tuple #[.int .u64 x3, .nilIface]) ∧ Touch ((N + 3) :: S2) zf w' ∧ Br 88 (N + 2) (N + 3) l St2 w' 20) := Lib.hid hrd
    clear hrd
    refine HRD.out.mono ?_
    rintro e z11 ⟨rfl, ht, hbr⟩
    have hfx := ht.heap X10.out.2.2 (fun hm => by
      rcases List.mem_cons.1 hm with h | h
      · omega
      · exact HGFD.out (HR2.out.sub _ h))
    have X11 := Lib.hid (And.intro (X10.out.1.trans (ht.mono (fun k _ hk => List.mem_cons_of_mem _ hk))) (And.intro hbr hfx))
    clear HRD ht hbr hfx
    go_wp2_with fail
    have hrd := br_read HR2.out HBY.out z11 (N + 3) 4 20 X11.out.2.1 (by decide) (by omega) HGBD.out
    rw [HX4.out] at hrd
    have HRD : Hid (Calls Tryd.prog 27 #[.pointer (some ⟨N + 3, 0, none⟩), .int .u64 4] z11 fun e w' => e = .returned (.tuple #[.int .u64 x4, .nilIface]) ∧ Touch ((N + 3) :: S2) z11 w' ∧ Br 88 (N + 2) (N + 3) l St2 w' 24) := Lib.hid hrd
    clear hrd
    refine HRD.out.mono ?_
    rintro e z12 ⟨rfl, ht, hbr⟩
    have hfx := ht.heap X11.out.2.2 (fun hm => by
      rcases List.mem_cons.1 hm with h | h
      · omega
      · exact HGFD.out (HR2.out.sub _ h))
    have X12 := Lib.hid (And.intro (X11.out.1.trans (ht.mono (fun k _ hk => List.mem_cons_of_mem _ hk))) (And.intro hbr hfx))
    clear HRD ht hbr hfx
    go_wp2_with fail
    by_cases hE : 24 + 4 ≤ 8 * l.length ∧ num l 24 4 < 11
    rotate_left
    · refine (pChan_err HR2.out HBY.out z12 gf (N + 3) 24 fx 0 0 0 0 0 v6 v7 (.pointer (some ⟨N + 3, 0, none⟩)) (.iface ty1 (.pointer (some ⟨g1, 0, none⟩))) v10 ea eb X12.out.2.1 HGBD.out X12.out.2.2 (by omega) HGFD.out (HGL.out z12 X12.out.1).1 (fun k hk => (HSF2.out k hk).1) hE).mono ?_
      rintro e y1 ⟨⟨a, ha, rfl⟩, ht⟩
      have Z := Lib.hid (X12.out.1.trans ht)
      clear ha ht
      go_wp2_with fail
      go_ret
      exact ⟨HTF.out _ Z.out, .inr ⟨(fun f h => hE ⟨by have := h.d; omega, h.ch2⟩), _, rfl⟩⟩
    refine (pChan_ok HR2.out HBY.out z12 gf (N + 3) 24 fx 0 0 0 0 0 v6 v7 (.pointer (some ⟨N + 3, 0, none⟩)) (.iface ty1 (.pointer (some ⟨g1, 0, none⟩))) v10 ea eb X12.out.2.1 HGBD.out X12.out.2.2 (by omega) HGFD.out (HGL.out z12 X12.out.1).1 (fun k hk => (HSF2.out k hk).1) hE.1 hE.2).mono ?_
    rintro e z13 ⟨rfl, ht, hbr, hfr⟩
    have X13 := Lib.hid (And.intro (X12.out.1.trans ht) (And.intro hbr hfr))
    clear ht hbr hfr
    go_wp2_with fail
    have hE1 := hE.1
    have HE2 := Lib.hid hE.2
    clear hE
    rcases hb5 : bpsOf (num l 28 3) with _ | v5
    · refine (pBps_err HR2.out HBY.out z13 gf (N + 3) 28 fx 0 0 (num l 24 4 : Nat) 0 v6 v7 (.pointer (some ⟨N + 3, 0, none⟩)) (.iface ty1 (.pointer (some ⟨g1, 0, none⟩))) v10 ea eb X13.out.2.1 HGBD.out X13.out.2.2 (by omega) HGFD.out (HGL.out z13 X13.out.1).1 (fun k hk => (HSF2.out k hk).1) (.inr hb5)).mono ?_
      rintro e y1 ⟨⟨a, ha, rfl⟩, ht⟩
      have Z := Lib.hid (X13.out.1.trans ht)
      clear ha ht
      go_wp2_with fail
      go_ret
      exact ⟨HTF.out _ Z.out, .inr ⟨(fun f h => by have := h.bits; rw [hb5] at this; cases this), _, rfl⟩⟩
    have HB5 := Lib.hid hb5
    refine (pBps_ok HR2.out HBY.out z13 gf (N + 3) 28 fx 0 0 (num l 24 4 : Nat) 0 v6 v7 (.pointer (some ⟨N + 3, 0, none⟩)) (.iface ty1 (.pointer (some ⟨g1, 0, none⟩))) v10 ea eb X13.out.2.1 HGBD.out X13.out.2.2 (by omega) HGFD.out (HGL.out z13 X13.out.1).1 (fun k hk => (HSF2.out k hk).1) (by omega) v5 hb5).mono ?_
    rintro e z14 ⟨rfl, ht, hbr, hfr⟩
    have X14 := Lib.hid (And.intro (X13.out.1.trans ht) (And.intro hbr hfr))
    clear ht hbr hfr
    clear hb5
    go_wp2_with fail
    by_cases hF : x6 = 0
    rotate_left
    · obtain rfl : x6 = 1 := by have := num_lt l 31 1; rw [HX6.out] at this; omega
      have hrd := br_read HR2.out HBY.out z14 (N + 3) 1 31 X14.out.2.1 (by decide) (by omega) HGBD.out
      rw [HX6.out] at hrd
      have HRD : Hid (Calls Tryd.prog 27 #[.pointer (some ⟨N + 3, 0, none⟩), .int .u64 1] z14 fun e w' => e = .returned (.tuple #[.int .u64 1, .nilIface]) ∧ Touch ((N + 3) :: S2) z14 w' ∧ Br 88 (N + 2) (N + 3) l St2 w' 32) := Lib.hid hrd
      clear hrd
      refine HRD.out.mono ?_
      rintro e z15 ⟨rfl, ht, hbr⟩
      have hfx := ht.heap X14.out.2.2 (fun hm => by
        rcases List.mem_cons.1 hm with h | h
        · omega
        · exact HGFD.out (HR2.out.sub _ h))
      have X15 := Lib.hid (And.intro (X14.out.1.trans (ht.mono (fun k _ hk => List.mem_cons_of_mem _ hk))) (And.intro hbr hfx))
      clear HRD ht hbr hfx
      go_wp2_with fail
      refine (err_new _ z15).mono ?_
      rintro e y1 ⟨a, rfl, hb3, _⟩
      have Z := Lib.hid (X15.out.1.trans (Touch.of_below hb3))
      clear hb3
      go_wp2_with fail
      go_ret
      exact ⟨HTF.out _ Z.out, .inr ⟨(fun f h => hF (by rw [← HX6.out]; exact h.free)), _, rfl⟩⟩
    subst hF
    have hrd := br_read HR2.out HBY.out z14 (N + 3) 1 31 X14.out.2.1 (by decide) (by omega) HGBD.out
    rw [HX6.out] at hrd
    have HRD : Hid (Calls Tryd.prog 27 #[.pointer (some ⟨N + 3, 0, none⟩), .int .u64 1] z14 fun e w' => e = .returned (.tuple #[.int .u64 0, .nilIface]) ∧ Touch ((N + 3) :: S2) z14 w' ∧ Br 88 (N + 2) (N + 3) l St2 w' 32) := Lib.hid hrd
    clear hrd
    refine HRD.out.mono ?_
    rintro e z15 ⟨rfl, ht, hbr⟩
    have hfx := ht.heap X14.out.2.2 (fun hm => by
      rcases List.mem_cons.1 hm with h | h
      · omega
      · exact HGFD.out (HR2.out.sub _ h))
    have X15 := Lib.hid (And.intro (X14.out.1.trans (ht.mono (fun k _ hk => List.mem_cons_of_mem _ hk))) (And.intro hbr hfx))
    clear HRD ht hbr hfx
    go_wp2_with fail
    obtain ⟨p, nb, xb, buf, hst, hat, hnb, hxb, hxx, hbl, hblk⟩ := X15.out.2.1
    obtain rfl : nb = 0 := by omega
    obtain rfl : p = 4 := by omega
    have HST := Lib.hid hst
    have HBLK := Lib.hid hblk
    clear hst hblk hxx hat hnb
    refine (dec_all HR2.out HBY2.out z15 4 ea eb HST.out (fun k hk => by have := HD2.out k hk; have := HSZ.out z15 X15.out.1; omega) (HGL.out z15 X15.out.1).1 (fun k hk => (HSF2.out k (by simp [hk])).1)).mono ?_
    rintro e y0 ⟨ht, hor⟩
    have hfz := ht.heap X15.out.2.2 (fun hm => HGFD.out (HR2.out.sub _ hm))
    have f5 : y0.frozen? ⟨gf, 5, none⟩ = false := by simp [World.frozen?, hfz]
    have c5 : y0.cell? ⟨gf, 5, none⟩ = some (.int .u64 0) := by rw [cell_of_row y0 gf 5 _ _ _ hfz]; rfl
    have HFZ := Lib.hid hfz
    have HT := Lib.hid (X15.out.1.trans (ht.mono (fun k _ hk => List.mem_cons_of_mem _ (List.mem_cons_of_mem _ hk))))
    have HB0 := Lib.hid (ht.heap HBLK.out (fun hm => HGBD.out (HR2.out.sub _ hm)))
    clear ht hfz
    rcases hor with ⟨v, n, hu, rfl, hst2⟩ | ⟨hno, a, ha, rfl⟩
    rotate_left
    · have HA := Lib.hid (ha.set gf 5 (.int .u64 0))
      have HNO := Lib.hid hno
      clear ha hno
      go_wp2_with fail
      obtain ⟨y1, hy1⟩ : ∃ y1, y0.setCell ⟨gf, 5, none⟩ (.int .u64 0) = y1 := ⟨_, rfl⟩
      have hty : Touch (gf :: (N + 3) :: S2) w4 y1 := by rw [← hy1]; exact HT.out.setCell (.inl (by simp)) _
      rw [hy1] at HA
      rw [hy1]
      have Z := Lib.hid hty
      clear hy1 hty f5 c5
      refine (unexp a ea eb y1 (HGL.out y1 Z.out).1 HA.out).mono ?_
      rintro e y2 ⟨⟨a2, ha2, rfl⟩, rfl⟩
      clear ha2
      go_wp2_with fail
      go_ret
      exact ⟨HTF.out _ Z.out, .inr ⟨(fun f h => by obtain ⟨n, _, _, hu, _⟩ := h.ex; exact HNO.out _ _ hu), _, rfl⟩⟩
    have HU := Lib.hid hu
    have HST2 := Lib.hid hst2
    clear hu hst2
    go_wp2_with fail
    obtain ⟨z16, hz16⟩ : ∃ y1, y0.setCell ⟨gf, 5, none⟩ (.int .u64 v) = y1 := ⟨_, rfl⟩
    rw [hz16]
    have tz : Touch [gf] y0 z16 := by rw [← hz16]; exact (Touch.refl _ _).setCell (.inl (by simp)) _
    have hz2 : z16.heap[gf]? = some (.cells (frA fx 0 0 (num l 24 4 : Nat) v5 v v6 v7 (.pointer (some ⟨N + 3, 0, none⟩)) (.iface ty1 (.pointer (some ⟨g1, 0, none⟩))) v10) 74 (0, 0)) := by
      rw [← hz16, blk_set HFZ.out 5]; rfl
    have hbr2 : Br 88 (N + 2) (N + 3) l St2 z16 (32 + 8 * n) :=
      ⟨4 + n, 0, xb, buf, HR2.out.move [gf] y0 _ _ HST2.out (fun k hk => by simp at hk; subst hk; exact HGFD.out) tz, by omega, by omega, hxb, fun h => by omega, hbl, tz.heap HB0.out (fun hm => by simp at hm; omega)⟩
    have X16 := Lib.hid (And.intro (HT.out.trans (tz.mono (fun k _ hk => by simp at hk; simp [hk]))) (And.intro hbr2 hz2))
    clear hz16 tz hz2 hbr2 f5 c5 hbl hxb
    rcases hbs : bsAt l (32 + 8 * n) x3 with _ | ⟨v1, at2⟩
    · refine (pBs_err HR2.out HBY.out z16 gf (N + 3) (32 + 8 * n) fx 0 0 (num l 24 4 : Nat) v5 v v6 v7 (.pointer (some ⟨N + 3, 0, none⟩)) (.iface ty1 (.pointer (some ⟨g1, 0, none⟩))) v10 ea eb X16.out.2.1 HGBD.out X16.out.2.2 (by omega) HGFD.out (HGL.out z16 X16.out.1).1 (fun k hk => (HSF2.out k hk).1) x3 hb3 hbs).mono ?_
      rintro e y1 ⟨⟨a, ha, rfl⟩, ht⟩
      have Z := Lib.hid (X16.out.1.trans ht)
      clear ha ht
      go_wp2_with fail
      go_ret
      exact ⟨HTF.out _ Z.out, .inr ⟨(fun f h => by obtain ⟨_, _, _, h1, _⟩ := h.at4 HU.out; rw [HX3.out, hbs] at h1; cases h1), _, rfl⟩⟩
    have HBS := Lib.hid hbs
    refine (pBs_ok HR2.out HBY.out z16 gf (N + 3) (32 + 8 * n) fx 0 0 (num l 24 4 : Nat) v5 v v6 v7 (.pointer (some ⟨N + 3, 0, none⟩)) (.iface ty1 (.pointer (some ⟨g1, 0, none⟩))) v10 ea eb X16.out.2.1 HGBD.out X16.out.2.2 (by omega) HGFD.out (HGL.out z16 X16.out.1).1 (fun k hk => (HSF2.out k hk).1) x3 v1 at2 hb3 hbs).mono ?_
    rintro e z17 ⟨rfl, ht, hbr, hfr⟩
    have X17 := Lib.hid (And.intro (X16.out.1.trans ht) (And.intro hbr hfr))
    clear ht hbr hfr
    clear hbs
    go_wp2_with fail
    rcases hsr : srAt l at2 x4 with _ | ⟨v2, at3⟩
    · refine (pSr_err HR2.out HBY.out z17 gf (N + 3) at2 fx v1 (num l 24 4 : Nat) v5 v v6 v7 (.pointer (some ⟨N + 3, 0, none⟩)) (.iface ty1 (.pointer (some ⟨g1, 0, none⟩))) v10 ea eb X17.out.2.1 HGBD.out X17.out.2.2 (by omega) HGFD.out (HGL.out z17 X17.out.1).1 (fun k hk => (HSF2.out k hk).1) x4 hb4 hsr).mono ?_
      rintro e y1 ⟨⟨a, ha, rfl⟩, ht⟩
      have Z := Lib.hid (X17.out.1.trans ht)
      clear ha ht
      go_wp2_with fail
      go_ret
      exact ⟨HTF.out _ Z.out, .inr ⟨(fun f h => by obtain ⟨_, _, _, h1, h2, _⟩ := h.at4 HU.out; rw [HX3.out, HBS.out] at h1; injection h1 with h1; injection h1 with _ h1; subst h1; rw [HX4.out, hsr] at h2; cases h2), _, rfl⟩⟩
    have HSR := Lib.hid hsr
    refine (pSr_ok HR2.out HBY.out z17 gf (N + 3) at2 fx v1 (num l 24 4 : Nat) v5 v v6 v7 (.pointer (some ⟨N + 3, 0, none⟩)) (.iface ty1 (.pointer (some ⟨g1, 0, none⟩))) v10 ea eb X17.out.2.1 HGBD.out X17.out.2.2 (by omega) HGFD.out (HGL.out z17 X17.out.1).1 (fun k hk => (HSF2.out k hk).1) x4 v2 at3 hb4 hsr).mono ?_
    rintro e z18 ⟨rfl, ht, hbr, hfr⟩
    have X18 := Lib.hid (And.intro (X17.out.1.trans ht) (And.intro hbr hfr))
    clear ht hbr hfr
    have c9 : (z18.alloc (.cells #[.int .u8 0] 5)).cell? ⟨gf, 9, none⟩ = some (.iface ty1 (.pointer (some ⟨g1, 0, none⟩))) := by
      rw [cell_of_row _ gf 9 _ _ _ ((Below.heap_alloc z18 (.cells #[.int .u8 0] 5) gf (Array.getElem?_eq_some_iff.1 X18.out.2.2).1).trans X18.out.2.2)]; rfl
    have hwd := fun {f : HF} (h : HdrIs l f) => h.at4 HU.out
    have hwh : ∀ f, HdrIs l f → f.num = v ∧ f.size = v1 ∧ f.rate = v2 ∧ at3 / 8 < l.length ∧ l.getD (at3 / 8) 0 = up8 (f8 7) 0 (l.take (at3 / 8)) := fun f h => by
      obtain ⟨h0, a2, a3, h1, h2, h3⟩ := h.at4 HU.out
      rw [HX3.out, HBS.out] at h1
      injection h1 with h1; injection h1 with h1 h1'
      subst h1'
      rw [HX4.out, HSR.out] at h2
      injection h2 with h2; injection h2 with h2 h2'
      subst h2'
      exact ⟨h0, h1.symm, h2.symm, h3⟩
    have HWH := Lib.hid hwh
    obtain ⟨p3, nb3, xb3, buf3, hst3, hat3, hnb3, hxb3, hxx3, hbl3, hblk3⟩ := X18.out.2.1
    have h2a := bs_at HBS.out
    have h3a := sr_at HSR.out
    obtain rfl : nb3 = 0 := by omega
    have hp3 : at3 / 8 = p3 := by omega
    have hle3 := HR2.out.le _ _ hst3
    have hdn := HDN.out _ _ hst3
    have HST3 := Lib.hid hdn.1
    have HDG := Lib.hid hdn.2
    have HP3 := Lib.hid hp3
    rw [hp3] at HWH
    have hsz := HSZ.out z18 X18.out.1
    clear hwd hwh hsr hst3 hat3 hnb3 hxb3 hxx3 hbl3 hblk3 h2a h3a hdn hp3
    go_wp2_with fail
    -- the sum
    have hal : Below z18.heap.size z18 (z18.alloc (.cells #[.int .u8 0] 5)) := (Below.refl _ _).alloc (Nat.le_refl _) _
    obtain ⟨q0, hq0⟩ : ∃ q0, z18.alloc (.cells #[.int .u8 0] 5) = q0 := ⟨_, rfl⟩
    obtain ⟨gx, hgx⟩ : ∃ gx, z18.heap.size = gx := ⟨_, rfl⟩
    have hxw : q0.heap[gx]? = some (.cells #[.int .u8 0] 5 (0, 0)) := by rw [← hq0, ← hgx]; exact heap_alloc_new _ _
    have htq : ∀ U, Touch U z18 q0 := fun U => by rw [← hq0]; exact Touch.of_below hal
    have hqs : q0.heap.size = gx + 1 := by rw [← hq0, World.size_alloc, hgx]
    rw [hq0, hgx]
    rw [hgx] at hsz
    have XQ := Lib.hid (X18.out.1.trans (htq _))
    have HQF := Lib.hid ((htq []).heap X18.out.2.2 (by simp))
    have HQD : Hid (Dig8 (N + 1) N q0 (l.take p3)) := Lib.hid ⟨(htq []).heap HDG.out.1 (by simp), (htq []).heap HDG.out.2 (by simp)⟩
    have HQS := Lib.hid (HR1.out.move [] z18 q0 p3 HST3.out (by simp) (htq []))
    have HXW := Lib.hid hxw
    clear hal hq0 hgx hxw htq c9
    by_cases hP : p3 < l.length
    rotate_left
    · have hpe : p3 = l.length := by omega
      refine (read8_err HR1.out q0 p3 _ ea eb HQS.out hpe (fun k hk => by have := HDL.out k hk; omega) (HGL.out q0 XQ.out).1 (fun k hk => (HSF.out k (.inl (by simp [hk]))).1)).mono ?_
      rintro e y1 ⟨⟨a, ha, rfl⟩, ht⟩
      have hTq : Touch (gf :: S1) w y1 := (HTF.out _ XQ.out).trans (ht.mono (fun k _ hk => List.mem_cons_of_mem _ hk))
      have HA := Lib.hid ha
      have HZ := Lib.hid hTq
      have HGY := Lib.hid (HG.out.touch hTq (fun k hk => (HSF.out k (.inl hk)).1))
      clear ha ht hTq
      go_wp2_with fail
      refine (unexp a ea eb y1 HGY.out HA.out).mono ?_
      rintro e y2 ⟨⟨a2, ha2, rfl⟩, rfl⟩
      clear ha2
      go_wp2_with fail
      go_ret
      exact ⟨HZ.out, .inr ⟨(fun f h => by have := (HWH.out f h).2.2.2.1; omega), _, rfl⟩⟩
    refine (read8_ok HR1.out HBY.out q0 p3 gx _ _ HQS.out hP (fun k hk => by have := HDL.out k hk; omega) HXW.out (fun h => by have := HDL.out gx h; omega)).mono ?_
    rintro e y1 ⟨rfl, ht, hs1, hx1⟩
    have hgne : ∀ k, k ≤ N + 1 → N ≤ k → k ∉ gx :: S1 := fun k hk hk2 hm => by
      rcases List.mem_cons.1 hm with h | h
      · omega
      · have := HS1.out k h; omega
    have hdy : Dig8 (N + 1) N y1 (l.take p3) := ⟨ht.heap HQD.out.1 (hgne _ (by omega) (by omega)), ht.heap HQD.out.2 (hgne _ (by omega) (by omega))⟩
    have hfy := ht.heap HQF.out (fun hm => by
      rcases List.mem_cons.1 hm with h | h
      · omega
      · exact HGF1.out (HR1.out.sub _ h))
    have hTq : Touch (gf :: S1) w y1 := by
      have h1 : Touch (gf :: gx :: S1) w y1 := ((HTF.out _ XQ.out).mono (fun k _ hk => by rcases List.mem_cons.1 hk with h | h <;> simp [h])).trans (ht.mono (fun k _ hk => List.mem_cons_of_mem _ hk))
      refine h1.mono (fun k hk hm => ?_)
      rcases List.mem_cons.1 hm with h | h
      · simp [h]
      · rcases List.mem_cons.1 h with h | h
        · have := HNN.out; omega
        · simp [h]
    obtain ⟨cw, hcw⟩ : ∃ cw, l.getD p3 0 = cw := ⟨_, rfl⟩
    obtain ⟨cg, hcg⟩ : ∃ cg, up8 (f8 7) 0 (l.take p3) = cg := ⟨_, rfl⟩
    rw [hcw] at hx1
    have cx : y1.cell? ⟨gx, 0, none⟩ = some (.int .u8 cw) := by rw [cell_of_row y1 gx 0 _ _ _ hx1]; rfl
    have hsum := sum8 (N + 1) N y1 (l.take p3) hdy
    rw [hcg] at hsum
    have HSUM := Lib.hid hsum
    have HZ := Lib.hid hTq
    have HFY := Lib.hid hfy
    have HCW := Lib.hid (And.intro hcw hcg)
    have q1 : ∀ w : World, (nilAhead 264 136 (.pointer (some ⟨N + 1, 0, none⟩)) "Sum8").run Tryd.prog w = .ok (some false) w := fun w => by kernel_rfl
    have q2 : ∀ w : World, (method 264 136 (.pointer (some ⟨N + 1, 0, none⟩)) "Sum8").run Tryd.prog w = .ok (78, .pointer (some ⟨N + 1, 0, none⟩)) w := fun w => by kernel_rfl
    have q3 : ∀ (args : Array Value) (w : World), Sem.run Tryd.prog (callFunc 78 args) w = .ok (Next.enter 78 args) w := fun args w => by kernel_rfl
    clear ht hs1 hx1 hgne hdy hfy hTq hcw hcg hsum
    go_wp2_with fail
    refine HSUM.out.mono ?_
    rintro e y2 ⟨rfl, rfl⟩
    by_cases hS : cw = cg
    rotate_left
    · have hne2 : ((cw : Int) != cg) = true := by simp; exact hS
      go_wp2_with fail
      refine (err_new _ y2).mono ?_
      rintro e y3 ⟨a, rfl, hb3, _⟩
      have HB3 := Lib.hid hb3
      clear hb3
      go_wp2_with fail
      go_ret
      exact ⟨HZ.out.trans (Touch.of_below HB3.out), .inr ⟨(fun f h => by have := (HWH.out f h).2.2.2.2; rw [HCW.out.1, HCW.out.2] at this; exact hS this), _, rfl⟩⟩
    subst hS
    go_wp2_with fail
    go_ret
    refine ⟨HZ.out, .inl ⟨⟨fx, v1, v2, num l 24 4, v5, v⟩, _, ⟨by omega, HX0.out, HX1.out, HFX.out, by omega, rfl, HE2.out, HB5.out, HX6.out, n, at2, at3, HU.out, by rw [HX3.out]; exact HBS.out, by rw [HX4.out]; exact HSR.out, by rw [HP3.out]; exact hP, by rw [HP3.out, HCW.out.1, HCW.out.2]⟩, rfl, HFY.out⟩⟩
  · -- varying
    subst h21
    have hrd := br_read HR2.out HBY.out z2 (N + 3) 1 15 X2.out.2.1 (by decide) (by omega) HGBD.out
    rw [HX2.out] at hrd
    have HRD : Hid (Calls Tryd.prog 27 #[.pointer (some ⟨N + 3, 0, none⟩), .int .u64 1] z2 fun e w' => e = .returned (.tuple #[.int .u64 1, .nilIface]) ∧ Touch ((N + 3) :: S2) z2 w' ∧ Br 88 (N + 2) (N + 3) l St2 w' 16) := Lib.hid hrd
    clear hrd
    refine HRD.out.mono ?_
    rintro e z3 ⟨rfl, ht, hbr⟩
    have hfx := ht.heap X2.out.2.2 (fun hm => by
      rcases List.mem_cons.1 hm with h | h
      · omega
      · exact HGFD.out (HR2.out.sub _ h))
    have X3 := Lib.hid (And.intro (X2.out.1.trans (ht.mono (fun k _ hk => List.mem_cons_of_mem _ hk))) (And.intro hbr hfx))
    clear HRD ht hbr hfx
    go_wp2_with fail
    have X10 := X3
    have HFX : Hid (false = decide (num l 15 1 = 0)) := Lib.hid (by rw [HX2.out]; rfl)
    obtain ⟨fx, hfx⟩ : ∃ b, false = b := ⟨_, rfl⟩
    rw [hfx] at X10 HFX
    clear hfx X0 X1 X2 X3 HX2
    by_cases hD : 20 ≤ 8 * l.length
    rotate_left
    · refine (br_fail HR2.out z3 (N + 3) 4 16 ea eb X10.out.2.1 (by decide) (by omega) HGBD.out (HGL.out z3 X10.out.1).1 (fun k hk => (HSF2.out k (List.mem_cons_of_mem _ hk)).1)).mono ?_
      rintro e y1 ⟨a, ha, rfl, ht⟩
      have hty := X10.out.1.trans (ht.mono (fun k _ hk => List.mem_cons_of_mem _ hk))
      have hG1 := (HGL.out y1 hty).1
      have hA1 : ErrAt y1 a := by rcases ha with rfl | rfl; exact hG1.ata; exact hG1.atb
      have Z := Lib.hid hty
      have HG1 := Lib.hid hG1
      have HA1 := Lib.hid hA1
      clear ha ht hG1 hA1 hty
      go_wp2_with fail
      refine (unexp a ea eb y1 HG1.out HA1.out).mono ?_
      rintro e y2 ⟨⟨a2, ha2, rfl⟩, rfl⟩
      clear ha2
      go_wp2_with fail
      go_ret
      exact ⟨HTF.out _ Z.out, .inr ⟨(fun f h => by have := h.d; omega), _, rfl⟩⟩
    have hrd := br_read HR2.out HBY.out z3 (N + 3) 4 16 X10.out.2.1 (by decide) (by omega) HGBD.out
    rw [HX3.out] at hrd
    have HRD : Hid (Calls Tryd.prog 27 #[.pointer (some ⟨N + 3, 0, none⟩), .int .u64 4] z3 fun e w' => e = .returned (.tuple #[.int .u64 x3, .nilIface]) ∧ Touch ((N + 3) :: S2) z3 w' ∧ Br 88 (N + 2) (N + 3) l St2 w' 20) := Lib.hid hrd
    clear hrd
    refine HRD.out.mono ?_
    rintro e z11 ⟨rfl, ht, hbr⟩
    have hfx := ht.heap X10.out.2.2 (fun hm => by
      rcases List.mem_cons.1 hm with h | h
      · omega
      · exact HGFD.out (HR2.out.sub _ h))
    have X11 := Lib.hid (And.intro (X10.out.1.trans (ht.mono (fun k _ hk => List.mem_cons_of_mem _ hk))) (And.intro hbr hfx))
    clear HRD ht hbr hfx
    go_wp2_with fail
    have hrd := br_read HR2.out HBY.out z11 (N + 3) 4 20 X11.out.2.1 (by decide) (by omega) HGBD.out
    rw [HX4.out] at hrd
    have HRD : Hid (Calls Tryd.prog 27 #[.pointer (some ⟨N + 3, 0, none⟩), .int .u64 4] z11 fun e w' => e = .returned (.tuple #[.int .u64 x4, .nilIface]) ∧ Touch ((N + 3) :: S2) z11 w' ∧ Br 88 (N + 2) (N + 3) l St2 w' 24) := Lib.hid hrd
    clear hrd
    refine HRD.out.mono ?_
    rintro e z12 ⟨rfl, ht, hbr⟩
    have hfx := ht.heap X11.out.2.2 (fun hm => by
      rcases List.mem_cons.1 hm with h | h
      · omega
      · exact HGFD.out (HR2.out.sub _ h))
    have X12 := Lib.hid (And.intro (X11.out.1.trans (ht.mono (fun k _ hk => List.mem_cons_of_mem _ hk))) (And.intro hbr hfx))
    clear HRD ht hbr hfx
    go_wp2_with fail
    by_cases hE : 24 + 4 ≤ 8 * l.length ∧ num l 24 4 < 11
    rotate_left
    · refine (pChan_err HR2.out HBY.out z12 gf (N + 3) 24 fx 0 0 0 0 0 v6 v7 (.pointer (some ⟨N + 3, 0, none⟩)) (.iface ty1 (.pointer (some ⟨g1, 0, none⟩))) v10 ea eb X12.out.2.1 HGBD.out X12.out.2.2 (by omega) HGFD.out (HGL.out z12 X12.out.1).1 (fun k hk => (HSF2.out k hk).1) hE).mono ?_
      rintro e y1 ⟨⟨a, ha, rfl⟩, ht⟩
      have Z := Lib.hid (X12.out.1.trans ht)
      clear ha ht
      go_wp2_with fail
      go_ret
      exact ⟨HTF.out _ Z.out, .inr ⟨(fun f h => hE ⟨by have := h.d; omega, h.ch2⟩), _, rfl⟩⟩
    refine (pChan_ok HR2.out HBY.out z12 gf (N + 3) 24 fx 0 0 0 0 0 v6 v7 (.pointer (some ⟨N + 3, 0, none⟩)) (.iface ty1 (.pointer (some ⟨g1, 0, none⟩))) v10 ea eb X12.out.2.1 HGBD.out X12.out.2.2 (by omega) HGFD.out (HGL.out z12 X12.out.1).1 (fun k hk => (HSF2.out k hk).1) hE.1 hE.2).mono ?_
    rintro e z13 ⟨rfl, ht, hbr, hfr⟩
    have X13 := Lib.hid (And.intro (X12.out.1.trans ht) (And.intro hbr hfr))
    clear ht hbr hfr
    go_wp2_with fail
    have hE1 := hE.1
    have HE2 := Lib.hid hE.2
    clear hE
    rcases hb5 : bpsOf (num l 28 3) with _ | v5
    · refine (pBps_err HR2.out HBY.out z13 gf (N + 3) 28 fx 0 0 (num l 24 4 : Nat) 0 v6 v7 (.pointer (some ⟨N + 3, 0, none⟩)) (.iface ty1 (.pointer (some ⟨g1, 0, none⟩))) v10 ea eb X13.out.2.1 HGBD.out X13.out.2.2 (by omega) HGFD.out (HGL.out z13 X13.out.1).1 (fun k hk => (HSF2.out k hk).1) (.inr hb5)).mono ?_
      rintro e y1 ⟨⟨a, ha, rfl⟩, ht⟩
      have Z := Lib.hid (X13.out.1.trans ht)
      clear ha ht
      go_wp2_with fail
      go_ret
      exact ⟨HTF.out _ Z.out, .inr ⟨(fun f h => by have := h.bits; rw [hb5] at this; cases this), _, rfl⟩⟩
    have HB5 := Lib.hid hb5
    refine (pBps_ok HR2.out HBY.out z13 gf (N + 3) 28 fx 0 0 (num l 24 4 : Nat) 0 v6 v7 (.pointer (some ⟨N + 3, 0, none⟩)) (.iface ty1 (.pointer (some ⟨g1, 0, none⟩))) v10 ea eb X13.out.2.1 HGBD.out X13.out.2.2 (by omega) HGFD.out (HGL.out z13 X13.out.1).1 (fun k hk => (HSF2.out k hk).1) (by omega) v5 hb5).mono ?_
    rintro e z14 ⟨rfl, ht, hbr, hfr⟩
    have X14 := Lib.hid (And.intro (X13.out.1.trans ht) (And.intro hbr hfr))
    clear ht hbr hfr
    clear hb5
    go_wp2_with fail
    by_cases hF : x6 = 0
    rotate_left
    · obtain rfl : x6 = 1 := by have := num_lt l 31 1; rw [HX6.out] at this; omega
      have hrd := br_read HR2.out HBY.out z14 (N + 3) 1 31 X14.out.2.1 (by decide) (by omega) HGBD.out
      rw [HX6.out] at hrd
      have HRD : Hid (Calls Tryd.prog 27 #[.pointer (some ⟨N + 3, 0, none⟩), .int .u64 1] z14 fun e w' => e = .returned (.tuple #[.int .u64 1, .nilIface]) ∧ Touch ((N + 3) :: S2) z14 w' ∧ Br 88 (N + 2) (N + 3) l St2 w' 32) := Lib.hid hrd
      clear hrd
      refine HRD.out.mono ?_
      rintro e z15 ⟨rfl, ht, hbr⟩
      have hfx := ht.heap X14.out.2.2 (fun hm => by
        rcases List.mem_cons.1 hm with h | h
        · omega
        · exact HGFD.out (HR2.out.sub _ h))
      have X15 := Lib.hid (And.intro (X14.out.1.trans (ht.mono (fun k _ hk => List.mem_cons_of_mem _ hk))) (And.intro hbr hfx))
      clear HRD ht hbr hfx
      go_wp2_with fail
      refine (err_new _ z15).mono ?_
      rintro e y1 ⟨a, rfl, hb3, _⟩
      have Z := Lib.hid (X15.out.1.trans (Touch.of_below hb3))
      clear hb3
      go_wp2_with fail
      go_ret
      exact ⟨HTF.out _ Z.out, .inr ⟨(fun f h => hF (by rw [← HX6.out]; exact h.free)), _, rfl⟩⟩
    subst hF
    have hrd := br_read HR2.out HBY.out z14 (N + 3) 1 31 X14.out.2.1 (by decide) (by omega) HGBD.out
    rw [HX6.out] at hrd
    have HRD : Hid (Calls Tryd.prog 27 #[.pointer (some ⟨N + 3, 0, none⟩), .int .u64 1] z14 fun e w' => e = .returned (.tuple #[.int .u64 0, .nilIface]) ∧ Touch ((N + 3) :: S2) z14 w' ∧ Br 88 (N + 2) (N + 3) l St2 w' 32) := Lib.hid hrd
    clear hrd
    refine HRD.out.mono ?_
    rintro e z15 ⟨rfl, ht, hbr⟩
    have hfx := ht.heap X14.out.2.2 (fun hm => by
      rcases List.mem_cons.1 hm with h | h
      · omega
      · exact HGFD.out (HR2.out.sub _ h))
    have X15 := Lib.hid (And.intro (X14.out.1.trans (ht.mono (fun k _ hk => List.mem_cons_of_mem _ hk))) (And.intro hbr hfx))
    clear HRD ht hbr hfx
    go_wp2_with fail
    obtain ⟨p, nb, xb, buf, hst, hat, hnb, hxb, hxx, hbl, hblk⟩ := X15.out.2.1
    obtain rfl : nb = 0 := by omega
    obtain rfl : p = 4 := by omega
    have HST := Lib.hid hst
    have HBLK := Lib.hid hblk
    clear hst hblk hxx hat hnb
    refine (dec_all HR2.out HBY2.out z15 4 ea eb HST.out (fun k hk => by have := HD2.out k hk; have := HSZ.out z15 X15.out.1; omega) (HGL.out z15 X15.out.1).1 (fun k hk => (HSF2.out k (by simp [hk])).1)).mono ?_
    rintro e y0 ⟨ht, hor⟩
    have hfz := ht.heap X15.out.2.2 (fun hm => HGFD.out (HR2.out.sub _ hm))
    have f5 : y0.frozen? ⟨gf, 5, none⟩ = false := by simp [World.frozen?, hfz]
    have c5 : y0.cell? ⟨gf, 5, none⟩ = some (.int .u64 0) := by rw [cell_of_row y0 gf 5 _ _ _ hfz]; rfl
    have HFZ := Lib.hid hfz
    have HT := Lib.hid (X15.out.1.trans (ht.mono (fun k _ hk => List.mem_cons_of_mem _ (List.mem_cons_of_mem _ hk))))
    have HB0 := Lib.hid (ht.heap HBLK.out (fun hm => HGBD.out (HR2.out.sub _ hm)))
    clear ht hfz
    rcases hor with ⟨v, n, hu, rfl, hst2⟩ | ⟨hno, a, ha, rfl⟩
    rotate_left
    · have HA := Lib.hid (ha.set gf 5 (.int .u64 0))
      have HNO := Lib.hid hno
      clear ha hno
      go_wp2_with fail
      obtain ⟨y1, hy1⟩ : ∃ y1, y0.setCell ⟨gf, 5, none⟩ (.int .u64 0) = y1 := ⟨_, rfl⟩
      have hty : Touch (gf :: (N + 3) :: S2) w4 y1 := by rw [← hy1]; exact HT.out.setCell (.inl (by simp)) _
      rw [hy1] at HA
      rw [hy1]
      have Z := Lib.hid hty
      clear hy1 hty f5 c5
      refine (unexp a ea eb y1 (HGL.out y1 Z.out).1 HA.out).mono ?_
      rintro e y2 ⟨⟨a2, ha2, rfl⟩, rfl⟩
      clear ha2
      go_wp2_with fail
      go_ret
      exact ⟨HTF.out _ Z.out, .inr ⟨(fun f h => by obtain ⟨n, _, _, hu, _⟩ := h.ex; exact HNO.out _ _ hu), _, rfl⟩⟩
    have HU := Lib.hid hu
    have HST2 := Lib.hid hst2
    clear hu hst2
    go_wp2_with fail
    obtain ⟨z16, hz16⟩ : ∃ y1, y0.setCell ⟨gf, 5, none⟩ (.int .u64 v) = y1 := ⟨_, rfl⟩
    rw [hz16]
    have tz : Touch [gf] y0 z16 := by rw [← hz16]; exact (Touch.refl _ _).setCell (.inl (by simp)) _
    have hz2 : z16.heap[gf]? = some (.cells (frA fx 0 0 (num l 24 4 : Nat) v5 v v6 v7 (.pointer (some ⟨N + 3, 0, none⟩)) (.iface ty1 (.pointer (some ⟨g1, 0, none⟩))) v10) 74 (0, 0)) := by
      rw [← hz16, blk_set HFZ.out 5]; rfl
    have hbr2 : Br 88 (N + 2) (N + 3) l St2 z16 (32 + 8 * n) :=
      ⟨4 + n, 0, xb, buf, HR2.out.move [gf] y0 _ _ HST2.out (fun k hk => by simp at hk; subst hk; exact HGFD.out) tz, by omega, by omega, hxb, fun h => by omega, hbl, tz.heap HB0.out (fun hm => by simp at hm; omega)⟩
    have X16 := Lib.hid (And.intro (HT.out.trans (tz.mono (fun k _ hk => by simp at hk; simp [hk]))) (And.intro hbr2 hz2))
    clear hz16 tz hz2 hbr2 f5 c5 hbl hxb
    rcases hbs : bsAt l (32 + 8 * n) x3 with _ | ⟨v1, at2⟩
    · refine (pBs_err HR2.out HBY.out z16 gf (N + 3) (32 + 8 * n) fx 0 0 (num l 24 4 : Nat) v5 v v6 v7 (.pointer (some ⟨N + 3, 0, none⟩)) (.iface ty1 (.pointer (some ⟨g1, 0, none⟩))) v10 ea eb X16.out.2.1 HGBD.out X16.out.2.2 (by omega) HGFD.out (HGL.out z16 X16.out.1).1 (fun k hk => (HSF2.out k hk).1) x3 hb3 hbs).mono ?_
      rintro e y1 ⟨⟨a, ha, rfl⟩, ht⟩
      have Z := Lib.hid (X16.out.1.trans ht)
      clear ha ht
      go_wp2_with fail
      go_ret
      exact ⟨HTF.out _ Z.out, .inr ⟨(fun f h => by obtain ⟨_, _, _, h1, _⟩ := h.at4 HU.out; rw [HX3.out, hbs] at h1; cases h1), _, rfl⟩⟩
    have HBS := Lib.hid hbs
    refine (pBs_ok HR2.out HBY.out z16 gf (N + 3) (32 + 8 * n) fx 0 0 (num l 24 4 : Nat) v5 v v6 v7 (.pointer (some ⟨N + 3, 0, none⟩)) (.iface ty1 (.pointer (some ⟨g1, 0, none⟩))) v10 ea eb X16.out.2.1 HGBD.out X16.out.2.2 (by omega) HGFD.out (HGL.out z16 X16.out.1).1 (fun k hk => (HSF2.out k hk).1) x3 v1 at2 hb3 hbs).mono ?_
    rintro e z17 ⟨rfl, ht, hbr, hfr⟩
    have X17 := Lib.hid (And.intro (X16.out.1.trans ht) (And.intro hbr hfr))
    clear ht hbr hfr
    clear hbs
    go_wp2_with fail
    rcases hsr : srAt l at2 x4 with _ | ⟨v2, at3⟩
    · refine (pSr_err HR2.out HBY.out z17 gf (N + 3) at2 fx v1 (num l 24 4 : Nat) v5 v v6 v7 (.pointer (some ⟨N + 3, 0, none⟩)) (.iface ty1 (.pointer (some ⟨g1, 0, none⟩))) v10 ea eb X17.out.2.1 HGBD.out X17.out.2.2 (by omega) HGFD.out (HGL.out z17 X17.out.1).1 (fun k hk => (HSF2.out k hk).1) x4 hb4 hsr).mono ?_
      rintro e y1 ⟨⟨a, ha, rfl⟩, ht⟩
      have Z := Lib.hid (X17.out.1.trans ht)
      clear ha ht
      go_wp2_with fail
      go_ret
      exact ⟨HTF.out _ Z.out, .inr ⟨(fun f h => by obtain ⟨_, _, _, h1, h2, _⟩ := h.at4 HU.out; rw [HX3.out, HBS.out] at h1; injection h1 with h1; injection h1 with _ h1; subst h1; rw [HX4.out, hsr] at h2; cases h2), _, rfl⟩⟩
    have HSR := Lib.hid hsr
    refine (pSr_ok HR2.out HBY.out z17 gf (N + 3) at2 fx v1 (num l 24 4 : Nat) v5 v v6 v7 (.pointer (some ⟨N + 3, 0, none⟩)) (.iface ty1 (.pointer (some ⟨g1, 0, none⟩))) v10 ea eb X17.out.2.1 HGBD.out X17.out.2.2 (by omega) HGFD.out (HGL.out z17 X17.out.1).1 (fun k hk => (HSF2.out k hk).1) x4 v2 at3 hb4 hsr).mono ?_
    rintro e z18 ⟨rfl, ht, hbr, hfr⟩
    have X18 := Lib.hid (And.intro (X17.out.1.trans ht) (And.intro hbr hfr))
    clear ht hbr hfr
    have c9 : (z18.alloc (.cells #[.int .u8 0] 5)).cell? ⟨gf, 9, none⟩ = some (.iface ty1 (.pointer (some ⟨g1, 0, none⟩))) := by
      rw [cell_of_row _ gf 9 _ _ _ ((Below.heap_alloc z18 (.cells #[.int .u8 0] 5) gf (Array.getElem?_eq_some_iff.1 X18.out.2.2).1).trans X18.out.2.2)]; rfl
    have hwd := fun {f : HF} (h : HdrIs l f) => h.at4 HU.out
    have hwh : ∀ f, HdrIs l f → f.num = v ∧ f.size = v1 ∧ f.rate = v2 ∧ at3 / 8 < l.length ∧ l.getD (at3 / 8) 0 = up8 (f8 7) 0 (l.take (at3 / 8)) := fun f h => by
      obtain ⟨h0, a2, a3, h1, h2, h3⟩ := h.at4 HU.out
      rw [HX3.out, HBS.out] at h1
      injection h1 with h1; injection h1 with h1 h1'
      subst h1'
      rw [HX4.out, HSR.out] at h2
      injection h2 with h2; injection h2 with h2 h2'
      subst h2'
      exact ⟨h0, h1.symm, h2.symm, h3⟩
    have HWH := Lib.hid hwh
    obtain ⟨p3, nb3, xb3, buf3, hst3, hat3, hnb3, hxb3, hxx3, hbl3, hblk3⟩ := X18.out.2.1
    have h2a := bs_at HBS.out
    have h3a := sr_at HSR.out
    obtain rfl : nb3 = 0 := by omega
    have hp3 : at3 / 8 = p3 := by omega
    have hle3 := HR2.out.le _ _ hst3
    have hdn := HDN.out _ _ hst3
    have HST3 := Lib.hid hdn.1
    have HDG := Lib.hid hdn.2
    have HP3 := Lib.hid hp3
    rw [hp3] at HWH
    have hsz := HSZ.out z18 X18.out.1
    clear hwd hwh hsr hst3 hat3 hnb3 hxb3 hxx3 hbl3 hblk3 h2a h3a hdn hp3
    go_wp2_with fail
    -- the sum
    have hal : Below z18.heap.size z18 (z18.alloc (.cells #[.int .u8 0] 5)) := (Below.refl _ _).alloc (Nat.le_refl _) _
    obtain ⟨q0, hq0⟩ : ∃ q0, z18.alloc (.cells #[.int .u8 0] 5) = q0 := ⟨_, rfl⟩
    obtain ⟨gx, hgx⟩ : ∃ gx, z18.heap.size = gx := ⟨_, rfl⟩
    have hxw : q0.heap[gx]? = some (.cells #[.int .u8 0] 5 (0, 0)) := by rw [← hq0, ← hgx]; exact heap_alloc_new _ _
    have htq : ∀ U, Touch U z18 q0 := fun U => by rw [← hq0]; exact Touch.of_below hal
    have hqs : q0.heap.size = gx + 1 := by rw [← hq0, World.size_alloc, hgx]
    rw [hq0, hgx]
    rw [hgx] at hsz
    have XQ := Lib.hid (X18.out.1.trans (htq _))
    have HQF := Lib.hid ((htq []).heap X18.out.2.2 (by simp))
    have HQD : Hid (Dig8 (N + 1) N q0 (l.take p3)) := Lib.hid ⟨(htq []).heap HDG.out.1 (by simp), (htq []).heap HDG.out.2 (by simp)⟩
    have HQS := Lib.hid (HR1.out.move [] z18 q0 p3 HST3.out (by simp) (htq []))
    have HXW := Lib.hid hxw
    clear hal hq0 hgx hxw htq c9
    by_cases hP : p3 < l.length
    rotate_left
    · have hpe : p3 = l.length := by omega
      refine (read8_err HR1.out q0 p3 _ ea eb HQS.out hpe (fun k hk => by have := HDL.out k hk; omega) (HGL.out q0 XQ.out).1 (fun k hk => (HSF.out k (.inl (by simp [hk]))).1)).mono ?_
      rintro e y1 ⟨⟨a, ha, rfl⟩, ht⟩
      have hTq : Touch (gf :: S1) w y1 := (HTF.out _ XQ.out).trans (ht.mono (fun k _ hk => List.mem_cons_of_mem _ hk))
      have HA := Lib.hid ha
      have HZ := Lib.hid hTq
      have HGY := Lib.hid (HG.out.touch hTq (fun k hk => (HSF.out k (.inl hk)).1))
      clear ha ht hTq
      go_wp2_with fail
      refine (unexp a ea eb y1 HGY.out HA.out).mono ?_
      rintro e y2 ⟨⟨a2, ha2, rfl⟩, rfl⟩
      clear ha2
      go_wp2_with fail
      go_ret
      exact ⟨HZ.out, .inr ⟨(fun f h => by have := (HWH.out f h).2.2.2.1; omega), _, rfl⟩⟩
    refine (read8_ok HR1.out HBY.out q0 p3 gx _ _ HQS.out hP (fun k hk => by have := HDL.out k hk; omega) HXW.out (fun h => by have := HDL.out gx h; omega)).mono ?_
    rintro e y1 ⟨rfl, ht, hs1, hx1⟩
    have hgne : ∀ k, k ≤ N + 1 → N ≤ k → k ∉ gx :: S1 := fun k hk hk2 hm => by
      rcases List.mem_cons.1 hm with h | h
      · omega
      · have := HS1.out k h; omega
    have hdy : Dig8 (N + 1) N y1 (l.take p3) := ⟨ht.heap HQD.out.1 (hgne _ (by omega) (by omega)), ht.heap HQD.out.2 (hgne _ (by omega) (by omega))⟩
    have hfy := ht.heap HQF.out (fun hm => by
      rcases List.mem_cons.1 hm with h | h
      · omega
      · exact HGF1.out (HR1.out.sub _ h))
    have hTq : Touch (gf :: S1) w y1 := by
      have h1 : Touch (gf :: gx :: S1) w y1 := ((HTF.out _ XQ.out).mono (fun k _ hk => by rcases List.mem_cons.1 hk with h | h <;> simp [h])).trans (ht.mono (fun k _ hk => List.mem_cons_of_mem _ hk))
      refine h1.mono (fun k hk hm => ?_)
      rcases List.mem_cons.1 hm with h | h
      · simp [h]
      · rcases List.mem_cons.1 h with h | h
        · have := HNN.out; omega
        · simp [h]
    obtain ⟨cw, hcw⟩ : ∃ cw, l.getD p3 0 = cw := ⟨_, rfl⟩
    obtain ⟨cg, hcg⟩ : ∃ cg, up8 (f8 7) 0 (l.take p3) = cg := ⟨_, rfl⟩
    rw [hcw] at hx1
    have cx : y1.cell? ⟨gx, 0, none⟩ = some (.int .u8 cw) := by rw [cell_of_row y1 gx 0 _ _ _ hx1]; rfl
    have hsum := sum8 (N + 1) N y1 (l.take p3) hdy
    rw [hcg] at hsum
    have HSUM := Lib.hid hsum
    have HZ := Lib.hid hTq
    have HFY := Lib.hid hfy
    have HCW := Lib.hid (And.intro hcw hcg)
    have q1 : ∀ w : World, (nilAhead 264 136 (.pointer (some ⟨N + 1, 0, none⟩)) "Sum8").run Tryd.prog w = .ok (some false) w := fun w => by kernel_rfl
    have q2 : ∀ w : World, (method 264 136 (.pointer (some ⟨N + 1, 0, none⟩)) "Sum8").run Tryd.prog w = .ok (78, .pointer (some ⟨N + 1, 0, none⟩)) w := fun w => by kernel_rfl
    have q3 : ∀ (args : Array Value) (w : World), Sem.run Tryd.prog (callFunc 78 args) w = .ok (Next.enter 78 args) w := fun args w => by kernel_rfl
    clear ht hs1 hx1 hgne hdy hfy hTq hcw hcg hsum
    go_wp2_with fail
    refine HSUM.out.mono ?_
    rintro e y2 ⟨rfl, rfl⟩
    by_cases hS : cw = cg
    rotate_left
    · have hne2 : ((cw : Int) != cg) = true := by simp; exact hS
      go_wp2_with fail
      refine (err_new _ y2).mono ?_
      rintro e y3 ⟨a, rfl, hb3, _⟩
      have HB3 := Lib.hid hb3
      clear hb3
      go_wp2_with fail
      go_ret
      exact ⟨HZ.out.trans (Touch.of_below HB3.out), .inr ⟨(fun f h => by have := (HWH.out f h).2.2.2.2; rw [HCW.out.1, HCW.out.2] at this; exact hS this), _, rfl⟩⟩
    subst hS
    go_wp2_with fail
    go_ret
    refine ⟨HZ.out, .inl ⟨⟨fx, v1, v2, num l 24 4, v5, v⟩, _, ⟨by omega, HX0.out, HX1.out, HFX.out, by omega, rfl, HE2.out, HB5.out, HX6.out, n, at2, at3, HU.out, by rw [HX3.out]; exact HBS.out, by rw [HX4.out]; exact HSR.out, by rw [HP3.out]; exact hP, by rw [HP3.out, HCW.out.1, HCW.out.2]⟩, rfl, HFY.out⟩⟩
end Go.Proofs.YtcdfbcanebjmfaaDoor.Walk
