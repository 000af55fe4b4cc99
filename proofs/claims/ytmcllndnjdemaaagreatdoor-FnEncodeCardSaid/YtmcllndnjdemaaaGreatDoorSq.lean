/- (*spec.writer).word, at any number: how many bits stand there (what they say is not told). Turned out of XSw. -/
import Derived.Test.YtmcllndnjdemaaaGreatDoorRa
import Derived.IntWalk
namespace Go.Proofs.YtmcllndnjdemaaaGreatDoor.Walk
set_option linter.unusedVariables false
set_option linter.unusedSimpArgs false
open Go Go.RowKit Go.Proofs.YtmcllndnjdemaaaGreatDoorW.PrintWords Go.Proofs.YtmcllndnjdemaaaGreatDoor.Num
theorem own_block {w : World} {base size n : Nat} {e : TypeId} {v : Value} {xs : List Value} (h : w.ownsRow base e size v n xs) (hn : 0 < n) : ∃ g cap, v = .slice (some ⟨g, 0, none⟩) n cap ∧ base ≤ g ∧ n ≤ cap := by
 rcases h.2 with ⟨_, h0⟩ | ⟨g, cap, cur, hv, hb, _, hc, _⟩
 ·omega
 ·exact ⟨g, cap, hv, hb, hc⟩
def WS.bytes (s : WS) : List Int := if s.nb = 0 then s.out else s.out ++ [((s.c * 2 ^ (8 - s.nb) : Nat) : Int)]
theorem WS.bytes_len (s : WS) : s.bytes.length = if s.nb = 0 then s.out.length else s.out.length + 1 := by
 unfold WS.bytes; split <;> simp
structure Sw (K : List (Nat × Obj)) (B gw : Nat) (s : WS) (w : World) : Prop where
 ok : s.Ok
 base : B ≤ gw
 ex : ∃ v, w.heap[gw]? = some (.cells #[v, .int .i64 (8 * s.out.length + s.nb : Nat)] 101 (0, 0)) ∧ w.ownsRow B 5 1 v s.bytes.length (nums .u8 s.bytes) ∧ (∀ k, v.ownBlock = some k → k ≠ gw) ∧ ∀ q ∈ K, v.ownBlock ≠ some q.1 ∧ q.1 ≠ gw ∧ w.heap[q.1]? = some q.2
theorem WS.put_bytes7 (s : WS) (t : Nat) (h : s.nb = 7) : (s.put t).bytes = s.bytes.set s.out.length ((2 * s.c + t : Nat) : Int) := by
 obtain ⟨out, c, nb⟩ := s
 simp only at h; subst h
 show out ++ [_] = (out ++ [_]).set out.length _
 simp
theorem WS.put_bytes (s : WS) (t : Nat) (h0 : s.nb ≠ 0) (hk : s.nb < 7) : (s.put t).bytes = s.bytes.set s.out.length (((2 * s.c + t) * 2 ^ (7 - s.nb) : Nat) : Int) := by
 obtain ⟨out, c, nb⟩ := s
 simp only at h0 hk
 have e1 : (⟨out, c, nb⟩ : WS).put t = ⟨out, 2 * c + t, nb + 1⟩ := by unfold WS.put; rw [if_neg (by show ¬ nb = 7; omega)]
 have e2 : (⟨out, c, nb⟩ : WS).bytes = out ++ [((c * 2 ^ (8 - nb) : Nat) : Int)] := by unfold WS.bytes; rw [if_neg h0]
 have e3 : (⟨out, 2 * c + t, nb + 1⟩ : WS).bytes = out ++ [(((2 * c + t) * 2 ^ (8 - (nb + 1)) : Nat) : Int)] := by unfold WS.bytes; rw [if_neg (by show ¬ nb + 1 = 0; omega)]
 rw [e1, e2, e3, show 8 - (nb + 1) = 7 - nb by omega, List.set_append_right _ _ (Nat.le_refl _), Nat.sub_self]
 rfl
theorem WS.put_bytes0 (s : WS) (t : Nat) (h0 : s.nb = 0) : (s.put t).bytes = (s.bytes ++ [0]).set s.out.length (((2 * s.c + t) * 2 ^ (7 - s.nb) : Nat) : Int) := by
 obtain ⟨out, c, nb⟩ := s
 simp only at h0; subst h0
 show out ++ [_] = (out ++ [0]).set out.length _
 rw [List.set_append_right _ _ (Nat.le_refl _), Nat.sub_self]
 rfl
theorem WS.put_at (s : WS) (t : Nat) (h : s.nb < 8) : 8 * (s.put t).out.length + (s.put t).nb = 8 * s.out.length + s.nb + 1 := by
 unfold WS.put
 split
 ·simp; omega
 ·simp; omega
theorem or_at (c t nb : Nat) (hnb : nb < 8) (hc : c < 2 ^ nb) (ht : t < 2) : Go.bits .or .u8 ((c * 2 ^ (8 - nb) : Nat) : Int) ((t * 2 ^ (7 - nb) : Nat) : Int) = (((2 * c + t) * 2 ^ (7 - nb) : Nat) : Int) := by
 have key : ∀ nb : Fin 8, ∀ c : Fin 128, ∀ t : Fin 2, c.val < 2 ^ nb.val → Go.bits .or .u8 ((c.val * 2 ^ (8 - nb.val) : Nat) : Int) ((t.val * 2 ^ (7 - nb.val) : Nat) : Int) = (((2 * c.val + t.val) * 2 ^ (7 - nb.val) : Nat) : Int) := by decide +kernel
 have hc2 : c < 128 := Nat.lt_of_lt_of_le hc (Nat.pow_le_pow_right (by decide) (by omega : nb ≤ 7))
 exact key ⟨nb, hnb⟩ ⟨c, hc2⟩ ⟨t, ht⟩ hc
theorem and1_int (a : Int) (h1 : -4611686018427387904 ≤ a) (h2 : a < 4611686018427387904) : Go.bits .and .i64 a 1 = (((a % 2).toNat : Nat) : Int) := by
 have h3 : Go.bits .and .i64 a 1 = IntKind.i64.wrap ((BitVec.ofInt 64 a &&& BitVec.ofInt 64 1).toNat : Int) := rfl
 have h4 : (BitVec.ofInt 64 a).toNat &&& 1 = (BitVec.ofInt 64 a).toNat % 2 := Nat.and_one_is_mod _
 rw [h3, show BitVec.ofInt 64 1 = BitVec.ofNat 64 1 from rfl, BitVec.toNat_and, BitVec.toNat_ofNat, show 1 % 2 ^ 64 = 1 from rfl, h4, BitVec.toNat_ofInt, IntKind.wrap_i64]
 omega
theorem blk2 {w : World} {g gw L L2 M cap : Nat} {u u2 : Value} {q : Nat × Obj} (z : (Value.slice (some ⟨g, 0, none⟩) M cap).ownBlock ≠ some q.1 ∧ q.1 ≠ gw ∧ w.heap[q.1]? = some q.2) :
  (Value.slice (some ⟨g, 0, none⟩) M cap).ownBlock ≠ some q.1 ∧ q.1 ≠ gw ∧ ((w.setCell ⟨g, L, none⟩ u).setCell ⟨gw, L2, none⟩ u2).heap[q.1]? = some q.2 :=
 ⟨z.1, z.2.1, ((((Touch.refl [g, gw] w).setCell (p := ⟨g, L, none⟩) (.inl (by simp)) u).setCell (p := ⟨gw, L2, none⟩) (.inl (by simp)) u2).heap z.2.2 (fun hm => by
  simp at hm
  rcases hm with hm | hm
  ·exact z.1 (congrArg some hm.symm)
  ·exact z.2.1 hm))⟩
def Wk (K : List (Nat × Obj)) (B gw n : Nat) (w : World) : Prop := ∃ s : WS, Sw K B gw s w ∧ 8 * s.out.length + s.nb = n ∧ ∀ x ∈ s.out, 0 ≤ x ∧ x ≤ 255
set_option maxHeartbeats 4000000 in
set_option maxRecDepth 100000 in
theorem wk_word (K : List (Nat × Obj)) (B gw n n0 : Nat) (v : Int) (w0 w : World) (h : Wk K B gw n0 w) (hB : Below B w0 w) (hv1 : -4611686018427387904 ≤ v) (hv2 : v < 4611686018427387904) (hn : n ≤ 62) (hlim : n0 ≤ 7000000) :
  Calls Tryz.prog 30 #[.pointer (some ⟨gw, 0, none⟩), .int .i64 v, .int .i64 n] w fun e w' =>
   e = .returned (.tuple #[]) ∧ Wk K B gw (n0 + n) w' ∧ Below B w0 w' := by
 obtain ⟨s, hs1, hs2, hs3⟩ := h
 have HH := Lib.hid (And.intro hs1 (And.intro hs2 hs3))
 have HB := Lib.hid hB
 clear hs1 hs2 hs3 hB
 go_enter Tryz.func30, Tryz.ntmps30
 go_wp2_with fail
 go_loopw [6] (fun nv wr => ∃ (m : Nat) (u : WS), nv = .int .i64 ((m : Int) - 1) ∧ m ≤ n ∧ (∀ x ∈ u.out, 0 ≤ x ∧ x ≤ 255) ∧ Sw K B gw u wr ∧ Below B w0 wr ∧ 8 * u.out.length + u.nb + m = n0 + n) (fun nv _ => (intOf nv + 1).toNat)
 case atStart => exact ⟨n, s, rfl, Nat.le_refl _, HH.out.2.2, HH.out.1, HB.out, by rw [HH.out.2.1]⟩
 case round =>
  obtain ⟨m, u, rfl, hm, hp, hsw, hbe, hl⟩ := hrel
  rcases m with _ | k
  ·have X := Lib.hid (And.intro hp (And.intro hsw hbe))
   clear hp hsw hbe
   go_wp2_with fail
   go_end0
   exact ⟨rfl, ⟨u, X.out.2.1, by omega, X.out.1⟩, X.out.2.2⟩
  ·have hok := hsw.ok
   have hc128 := hok.c_lt
   obtain ⟨v9, hblk, hown, hvne, hkc⟩ := hsw.ex
   obtain ⟨nb, hnb⟩ : ∃ nb, u.nb = nb := ⟨_, rfl⟩
   obtain ⟨L, hL⟩ : ∃ L, u.out.length = L := ⟨_, rfl⟩
   have hnb8 : nb < 8 := by rw [← hnb]; exact hok.nb
   obtain ⟨q, hq⟩ : ∃ q, v / 2 ^ k = q := ⟨_, rfl⟩
   have hqv : -4611686018427387904 ≤ q ∧ q < 4611686018427387904 := by
    have hp1 : (0 : Int) < 2 ^ k := Int.pow_pos (by decide)
    rw [← hq]
    refine ⟨(Int.le_ediv_iff_mul_le hp1).2 ?_, Int.ediv_lt_of_lt_mul hp1 ?_⟩
    ·exact Int.le_trans (Int.mul_le_mul_of_nonpos_left (by decide) (show (1 : Int) ≤ 2 ^ k by omega)) (by omega)
    ·exact Int.lt_of_lt_of_le hv2 (Int.le_trans (by decide) (Int.mul_le_mul_of_nonneg_left (show (1 : Int) ≤ 2 ^ k by omega) (by decide)))
   obtain ⟨at_, hat⟩ : ∃ a, 8 * L + nb = a := ⟨_, rfl⟩
   have hatb : at_ ≤ 8000000 := by omega
   have hblk2 := hblk
   rw [hL, hnb, hat] at hblk2
   have c1 : wr.cell? ⟨gw, 1, none⟩ = some (.int .i64 at_) := by rw [cell_of_row wr gw 1 _ _ _ hblk2]; rfl
   have c0 : wr.cell? ⟨gw, 0, none⟩ = some v9 := by rw [cell_of_row wr gw 0 _ _ _ hblk2]; rfl
   have f0 : wr.frozen? ⟨gw, 0, none⟩ = false := by simp [World.frozen?, hblk2]
   have f1 : wr.frozen? ⟨gw, 1, none⟩ = false := by simp [World.frozen?, hblk2]
   have h7 := and7_i64 at_ (by omega)
   have h71 : at_ % 8 = nb := by omega
   rw [h71] at h7
   have HP := Lib.hid hp
   have HSW := Lib.hid hsw
   have HBE := Lib.hid hbe
   have HBLK := Lib.hid hblk2
   have HOWN := Lib.hid hown
   have HVNE := Lib.hid hvne
   have HKC := Lib.hid hkc
   clear hkc
   have HNB := Lib.hid hnb
   have HLL := Lib.hid hL
   have HQ := Lib.hid hq
   have HAT := Lib.hid hat
   have HOK := Lib.hid hok
   obtain ⟨t, ht⟩ : ∃ t, (q % 2).toNat = t := ⟨_, rfl⟩
   have ht2 : t < 2 := by omega
   have hand1 := and1_int q hqv.1 hqv.2
   rw [ht] at hand1
   obtain ⟨c, hc⟩ : ∃ c, u.c = c := ⟨_, rfl⟩
   obtain ⟨r, hr⟩ : ∃ r, 7 - nb = r := ⟨_, rfl⟩
   have hr7 : r ≤ 7 := by omega
   obtain ⟨x, hx⟩ : ∃ x, c * 2 ^ (8 - nb) = x := ⟨_, rfl⟩
   obtain ⟨z, hz⟩ : ∃ z, t * 2 ^ r = z := ⟨_, rfl⟩
   obtain ⟨y, hy⟩ : ∃ y, (2 * c + t) * 2 ^ r = y := ⟨_, rfl⟩
   have hcnb : c < 2 ^ nb := by rw [← hc, ← hnb]; exact hok.c
   have hor : Go.bits .or .u8 (x : Int) (z : Int) = (y : Int) := by
    have h := or_at c t nb hnb8 hcnb ht2
    rw [hr, hx, hz, hy] at h; exact h
   have hz256 : z < 256 := by
    have h1 : 2 ^ r ≤ 2 ^ 7 := Nat.pow_le_pow_right (by decide) hr7
    have h2 : t * 2 ^ r ≤ 1 * 2 ^ r := Nat.mul_le_mul_right _ (by omega)
    rw [hz] at h2; omega
   have hx256 : x < 256 := by
    have h1 : c * 2 ^ (8 - nb) < 2 ^ nb * 2 ^ (8 - nb) := Nat.mul_lt_mul_of_pos_right hcnb (Nat.two_pow_pos _)
    rw [← Nat.pow_add, show nb + (8 - nb) = 8 by omega, hx] at h1; exact h1
   have hpt := WS.put_bytes_ok hok hp ht2
   have HTT := Lib.hid hpt
   clear hpt
   have HC := Lib.hid hc
   have HY := Lib.hid hy
   have HR := Lib.hid hr
   have hshl : IntKind.u8.wrap ((t : Int) * 2 ^ r) = (z : Int) := by
    have e : ((t : Int) * 2 ^ r) = ((t * 2 ^ r : Nat) : Int) := by simp
    rw [e, hz, IntKind.wrap_u8']; omega
   have e1 : (at_ : Int) / 8 = (L : Int) := by omega
   have e2 : v / 2 ^ k = q := hq
   have e2b : v / 2 ^ min k 64 = q := by rw [Nat.min_eq_left (by omega)]; exact e2
   have e3 : (t : Int) % 256 = (t : Int) := by omega
   have e3b : IntKind.u8.wrap (t : Int) = (t : Int) := by rw [IntKind.wrap_u8']; omega
   have e4 : (7 : Int) - (nb : Int) = (r : Int) := by omega
   have e5 : IntKind.i64.wrap (r : Int) = (r : Int) := by rw [IntKind.wrap_i64]; omega
   have ek : (((k + 1 : Nat) : Int) - 1) = (k : Int) := by omega
   rw [ek]
   have hpre7 : nb ≠ 0 → (u.put t).bytes = u.bytes.set L (y : Int) := fun h => by
    rcases Nat.lt_or_ge nb 7 with h7 | h7
    ·have := WS.put_bytes u t (by rw [hnb]; exact h) (by rw [hnb]; exact h7)
     rw [hc, hnb, hr, hy, hL] at this; exact this
    ·have := WS.put_bytes7 u t (by rw [hnb]; omega)
     have e0 : r = 0 := by omega
     rw [e0, Nat.pow_zero, Nat.mul_one] at hy
     rw [hc, hy, hL] at this; exact this
   have hpre0 : nb = 0 → (u.put t).bytes = (u.bytes ++ [0]).set L (y : Int) := fun h => by
    have := WS.put_bytes0 u t (by rw [hnb]; exact h)
    rw [hc, hnb, hr, hy, hL] at this; exact this
   have HP7 := Lib.hid hpre7
   have HP0 := Lib.hid hpre0
   have HX := Lib.hid hx
   obtain ⟨M, hM⟩ : ∃ M, L + 1 = M := ⟨_, rfl⟩
   have hLM : L < M := by omega
   have HMM := Lib.hid hM
   by_cases h0 : nb = 0
   ·have HZ0 := Lib.hid h0
    have hb0 : (((nb : Nat) : Int) == 0) = true := by rw [h0]; rfl
    clear hp hsw hbe hblk hblk2 hown hvne hnb hL hq hat hok hc hy hr hx hz ht hpre7 hpre0 h0 hcnb h71 hM
    go_wp2_with (with_reducible refine stop_dst (N := 25) rfl ?_)
    refine unstop ?_
    refine print_append_num (w0 := w0) B rfl (.tmp 23) (.tmp 24) 23 5 .u8 1 rfl Tryz.underlying23 infoU8 (by decide) v9 u.bytes 0 rfl rfl HOWN.out HBE.out (Nat.le_trans (Nat.le_of_lt (Nat.lt_of_le_of_lt HSW.out.base (Array.getElem?_eq_some_iff.1 HBLK.out).1)) (Nat.le_refl _)) (by rw [WS.bytes_len]; split <;> omega) ?_
    intro v1 w1 hO1 hB1 hgr hat1
    obtain ⟨A1, cp1, hv1e, _⟩ := own_reads hO1
    have hbl0 : (u.bytes ++ [0]).length = M := by rw [List.length_append, WS.bytes_len, HNB.out, HZ0.out, HLL.out, ← HMM.out]; rfl
    rw [hbl0] at hv1e hO1
    subst hv1e
    have hgt := touch_grown hgr
    have hk1 := hgt.heap HBLK.out (fun hm => by
     rcases h : v9.ownBlock with _ | k9
     ·rw [h] at hm; simp at hm
     ·rw [h] at hm; simp at hm; exact HVNE.out k9 h hm.symm)
    have hv1 : ∀ k, (Value.slice A1 M cp1).ownBlock = some k → k ≠ gw := fun k9 hk => by
     rcases hat1 with h | ⟨b, h, hb⟩
     ·exact HVNE.out k9 (by rw [← h]; exact hk)
     ·rw [h] at hk
      obtain rfl := Option.some.inj hk
      have := (Array.getElem?_eq_some_iff.1 HBLK.out).1; omega
    have hkc1 : ∀ q ∈ K, (Value.slice A1 M cp1).ownBlock ≠ some q.1 ∧ q.1 ≠ gw ∧ w1.heap[q.1]? = some q.2 := fun q hq => by
     obtain ⟨a1, a2, a3⟩ := HKC.out q hq
     refine ⟨fun hk => ?_, a2, hgt.heap a3 (fun hm => ?_)⟩
     ·rcases hat1 with h | ⟨b, h, hb⟩
      ·exact a1 (by rw [← h]; exact hk)
      ·rw [h] at hk
       obtain rfl := Option.some.inj hk
       have := (Array.getElem?_eq_some_iff.1 a3).1; omega
     ·rcases h : v9.ownBlock with _ | k9
      ·rw [h] at hm; simp at hm
      ·rw [h] at hm; simp at hm; exact a1 (by rw [h, hm])
    have HKC1 := Lib.hid hkc1
    clear hkc1
    have c0' : w1.cell? ⟨gw, 0, none⟩ = some v9 := by rw [cell_of_row w1 gw 0 _ _ _ hk1]; rfl
    have f0' : w1.frozen? ⟨gw, 0, none⟩ = false := by simp [World.frozen?, hk1]
    have HK1 := Lib.hid hk1
    have HV1 := Lib.hid hv1
    have HO1 := Lib.hid hO1
    have HB1 := Lib.hid hB1
    clear hO1 hB1 hgr hat1 hgt hk1 hv1 c0 c1 f0 f1 hbl0
    go_wp2_with fail
    obtain ⟨wb, hwb⟩ : ∃ wb, w1.setCell ⟨gw, 0, none⟩ (.slice A1 M cp1) = wb := ⟨_, rfl⟩
    have tb : Touch [gw] w1 wb := by rw [← hwb]; exact (Touch.refl _ _).setCell (.inl (by simp)) _
    have hkb : wb.heap[gw]? = some (.cells #[.slice A1 M cp1, .int .i64 at_] 101 (0, 0)) := by rw [← hwb, blk_set HK1.out 0]; rfl
    have HKCB := Lib.hid (show ∀ q ∈ K, (Value.slice A1 M cp1).ownBlock ≠ some q.1 ∧ q.1 ≠ gw ∧ wb.heap[q.1]? = some q.2 from fun q hq => ⟨(HKC1.out q hq).1, (HKC1.out q hq).2.1, tb.heap (HKC1.out q hq).2.2 (fun hm => by simp at hm; exact (HKC1.out q hq).2.1 hm)⟩)
    have hob := own_touch HO1.out tb (fun k hk hm => by simp at hm; exact HV1.out k hk hm)
    have hbb : Below B w0 wb := by rw [← hwb]; exact HB1.out.setCell (p := ⟨gw, 0, none⟩) HSW.out.base _
    obtain ⟨pre, hpre⟩ : ∃ pre, u.bytes ++ [0] = pre := ⟨_, rfl⟩
    have hpl : pre.length = M := by rw [← hpre, List.length_append, WS.bytes_len, HNB.out, HZ0.out, HLL.out, ← HMM.out]; rfl
    rw [hpre] at hob
    have HPRE := Lib.hid (show pre.length = M ∧ pre.getD L 0 = (x : Int) ∧ (u.put t).bytes = pre.set L (y : Int) by
     refine ⟨hpl, ?_, by rw [← hpre]; exact HP0.out HZ0.out⟩
     have hbl : u.bytes.length = L := by rw [WS.bytes_len, HNB.out, HZ0.out, HLL.out]; rfl
     have hx0 : x = 0 := by
      have h1 := HX.out
      have h2 : c < 1 := by have h := HOK.out.c; rw [HC.out, HNB.out, HZ0.out] at h; exact h
      rw [show c = 0 by omega, Nat.zero_mul] at h1; exact h1.symm
     rw [← hpre, List.getD_eq_getElem?_getD, List.getElem?_append_right (by omega), hbl, hx0]; simp)
    have HOB := Lib.hid hob
    have HBB := Lib.hid hbb
    have HKB := Lib.hid hkb
    have HVB := Lib.hid HV1.out
    rw [hwb]
    clear hwb tb hkb hob hbb hpre hpl c0' f0' HO1 HB1 HK1
    obtain ⟨g, cap, hvv, hgB, hgc⟩ := own_block HOB.out (by omega)
    injection hvv with hvv1 hvv2 hvv3
    subst hvv1
    subst cp1
    have cq : wb.cell? ⟨g, L, none⟩ = some (.int .u8 x) := by
     rw [HOB.out.cellAt L (by omega)]
     have hL1 : L < pre.length := by rw [HPRE.out.1]; omega
     have := HPRE.out.2.1
     rw [List.getD_eq_getElem?_getD, List.getElem?_eq_getElem hL1] at this
     simp [nums, hL1] at this ⊢; exact this
    have fq : wb.frozen? ⟨g, L, none⟩ = false := HOB.out.frozenAt L
    have c1 : wb.cell? ⟨gw, 1, none⟩ = some (.int .i64 at_) := by rw [cell_of_row wb gw 1 _ _ _ HKB.out]; rfl
    have c0 : wb.cell? ⟨gw, 0, none⟩ = some (.slice (some ⟨g, 0, none⟩) M cap) := by rw [cell_of_row wb gw 0 _ _ _ HKB.out]; rfl
    have f1 : wb.frozen? ⟨gw, 1, none⟩ = false := by simp [World.frozen?, HKB.out]
    go_still_tail 25, (by kernel_rfl)
    obtain ⟨wd, hwd⟩ : ∃ wd, wb.drew = wd := ⟨_, rfl⟩
    have td : Touch [] wb wd := by rw [← hwd]; exact (Touch.refl _ _).drew
    change wpList _ _ _ _ _ wb.drew
    rw [hwd]
    have cqd : wd.cell? ⟨g, L, none⟩ = some (.int .u8 x) := td.cell cq (by simp)
    have HKCD := Lib.hid (show ∀ q ∈ K, (Value.slice (some ⟨g, 0, none⟩) M cap).ownBlock ≠ some q.1 ∧ q.1 ≠ gw ∧ wd.heap[q.1]? = some q.2 from fun q hq => ⟨(HKCB.out q hq).1, (HKCB.out q hq).2.1, td.heap (HKCB.out q hq).2.2 (by simp)⟩)
    have hkd := td.heap HKB.out (by simp)
    have fqd : wd.frozen? ⟨g, L, none⟩ = false := by rw [← hwd]; exact fq
    have hod := own_touch HOB.out td (by simp)
    have HKD := Lib.hid hkd
    have HOD := Lib.hid hod
    have HBD := Lib.hid (show Below B w0 wd by rw [← hwd]; exact HBB.out.drew)
    have c1d : wd.cell? ⟨gw, 1, none⟩ = some (.int .i64 at_) := by rw [cell_of_row wd gw 1 _ _ _ hkd]; rfl
    have f1d : wd.frozen? ⟨gw, 1, none⟩ = false := by simp [World.frozen?, hkd]
    clear hwd td hkd hod c0 c1 f1 cq fq
    have hggw : g ≠ gw := HVB.out g rfl
    go_wp2_with fail
    go_roundw
    case rel =>
     have hst := (World.ownsRow.stored (w := wd) HOD.out L (.int .u8 y)).1
     have e : (nums .u8 pre).set L (.int .u8 y) = nums .u8 (pre.set L (y : Int)) := by simp [nums, List.map_set]
     have hln : (pre.set L (y : Int)).length = M := by rw [List.length_set]; exact HPRE.out.1
     have tw : Touch [gw] (wd.setCell ⟨g, L, none⟩ (.int .u8 y)) ((wd.setCell ⟨g, L, none⟩ (.int .u8 y)).setCell ⟨gw, 1, none⟩ (.int .i64 ((at_ : Int) + 1))) := (Touch.refl _ _).setCell (.inl (by simp)) _
     rw [e] at hst
     have hat2 : 8 * (u.put t).out.length + (u.put t).nb = at_ + 1 := by rw [WS.put_at u t HOK.out.nb, HLL.out, HNB.out, HAT.out]
     refine ⟨k, u.put t, by go_num, by omega, HTT.out, ⟨HOK.out.put ht2, HSW.out.base, .slice (some ⟨g, 0, none⟩) M cap, ?_, ?_, HVB.out, fun q hq => blk2 (HKCD.out q hq)⟩, ?_, ?_⟩
     ·rw [blk_set (blk_far HKD.out (p := ⟨g, L, none⟩) (Ne.symm hggw) (.int .u8 y)) 1, hat2]; rfl
     ·rw [HPRE.out.2.2, hln]
      exact own_touch hst tw (fun k hk hm => by simp at hm; exact HVB.out k hk hm)
     ·exact (HBD.out.setCell (p := ⟨g, L, none⟩) hgB _).setCell (p := ⟨gw, 1, none⟩) HSW.out.base _
     ·have h1 := WS.put_at u t HOK.out.nb; omega
    case measure => simp [intOf]
   ·have hb1 : (((nb : Nat) : Int) == 0) = false := by simp; omega
    have HZ0 := Lib.hid h0
    obtain ⟨pre, hpre⟩ : ∃ pre, u.bytes = pre := ⟨_, rfl⟩
    have hpl : pre.length = M := by rw [← hpre, WS.bytes_len, if_neg (by rw [hnb]; exact h0), hL, hM]
    have hown2 := hown
    rw [hpre, hpl] at hown2
    have HPRE := Lib.hid (show pre.length = M ∧ pre.getD L 0 = (x : Int) ∧ (u.put t).bytes = pre.set L (y : Int) by
     refine ⟨hpl, ?_, by rw [← hpre]; exact hpre7 h0⟩
     rw [← hpre]
     unfold WS.bytes
     rw [if_neg (by rw [hnb]; exact h0), List.getD_eq_getElem?_getD, List.getElem?_append_right (by omega), hL, Nat.sub_self, hc, hnb, hx]; rfl)
    have HOB := Lib.hid hown2
    have HBB := Lib.hid hbe
    have HKB := Lib.hid hblk2
    have HVB := Lib.hid hvne
    clear hp hsw hbe hblk hblk2 hown hvne hnb hL hq hat hok hc hy hr hx hz ht hpre7 hpre0 h0 hcnb h71 hpre hpl hown2 hM
    go_wp2_with fail
    obtain ⟨wb, hwb⟩ : ∃ wb, wr = wb := ⟨_, rfl⟩
    obtain ⟨v1, hv1⟩ : ∃ v1, v9 = v1 := ⟨_, rfl⟩
    subst hwb hv1
    clear c0 c1 f0 f1
    obtain ⟨g, cap, rfl, hgB, hgc⟩ := own_block HOB.out (by omega)
    have cq : wr.cell? ⟨g, L, none⟩ = some (.int .u8 x) := by
     rw [HOB.out.cellAt L (by omega)]
     have hL1 : L < pre.length := by rw [HPRE.out.1]; omega
     have := HPRE.out.2.1
     rw [List.getD_eq_getElem?_getD, List.getElem?_eq_getElem hL1] at this
     simp [nums, hL1] at this ⊢; exact this
    have fq : wr.frozen? ⟨g, L, none⟩ = false := HOB.out.frozenAt L
    have c1 : wr.cell? ⟨gw, 1, none⟩ = some (.int .i64 at_) := by rw [cell_of_row wr gw 1 _ _ _ HKB.out]; rfl
    have c0 : wr.cell? ⟨gw, 0, none⟩ = some (.slice (some ⟨g, 0, none⟩) M cap) := by rw [cell_of_row wr gw 0 _ _ _ HKB.out]; rfl
    have f1 : wr.frozen? ⟨gw, 1, none⟩ = false := by simp [World.frozen?, HKB.out]
    go_still_tail 25, (by kernel_rfl)
    obtain ⟨wd, hwd⟩ : ∃ wd, wr.drew = wd := ⟨_, rfl⟩
    have td : Touch [] wr wd := by rw [← hwd]; exact (Touch.refl _ _).drew
    change wpList _ _ _ _ _ wr.drew
    rw [hwd]
    have cqd : wd.cell? ⟨g, L, none⟩ = some (.int .u8 x) := td.cell cq (by simp)
    have HKCD := Lib.hid (show ∀ q ∈ K, (Value.slice (some ⟨g, 0, none⟩) M cap).ownBlock ≠ some q.1 ∧ q.1 ≠ gw ∧ wd.heap[q.1]? = some q.2 from fun q hq => ⟨(HKC.out q hq).1, (HKC.out q hq).2.1, td.heap (HKC.out q hq).2.2 (by simp)⟩)
    have hkd := td.heap HKB.out (by simp)
    have fqd : wd.frozen? ⟨g, L, none⟩ = false := by rw [← hwd]; exact fq
    have hod := own_touch HOB.out td (by simp)
    have HKD := Lib.hid hkd
    have HOD := Lib.hid hod
    have HBD := Lib.hid (show Below B w0 wd by rw [← hwd]; exact HBB.out.drew)
    have c1d : wd.cell? ⟨gw, 1, none⟩ = some (.int .i64 at_) := by rw [cell_of_row wd gw 1 _ _ _ hkd]; rfl
    have f1d : wd.frozen? ⟨gw, 1, none⟩ = false := by simp [World.frozen?, hkd]
    clear hwd td hkd hod c0 c1 f1 cq fq
    have hggw : g ≠ gw := HVB.out g rfl
    go_wp2_with fail
    go_roundw
    case rel =>
     have hst := (World.ownsRow.stored (w := wd) HOD.out L (.int .u8 y)).1
     have e : (nums .u8 pre).set L (.int .u8 y) = nums .u8 (pre.set L (y : Int)) := by simp [nums, List.map_set]
     have hln : (pre.set L (y : Int)).length = M := by rw [List.length_set]; exact HPRE.out.1
     have tw : Touch [gw] (wd.setCell ⟨g, L, none⟩ (.int .u8 y)) ((wd.setCell ⟨g, L, none⟩ (.int .u8 y)).setCell ⟨gw, 1, none⟩ (.int .i64 ((at_ : Int) + 1))) := (Touch.refl _ _).setCell (.inl (by simp)) _
     rw [e] at hst
     have hat2 : 8 * (u.put t).out.length + (u.put t).nb = at_ + 1 := by rw [WS.put_at u t HOK.out.nb, HLL.out, HNB.out, HAT.out]
     refine ⟨k, u.put t, by go_num, by omega, HTT.out, ⟨HOK.out.put ht2, HSW.out.base, .slice (some ⟨g, 0, none⟩) M cap, ?_, ?_, HVB.out, fun q hq => blk2 (HKCD.out q hq)⟩, ?_, ?_⟩
     ·rw [blk_set (blk_far HKD.out (p := ⟨g, L, none⟩) (Ne.symm hggw) (.int .u8 y)) 1, hat2]; rfl
     ·rw [HPRE.out.2.2, hln]
      exact own_touch hst tw (fun k hk hm => by simp at hm; exact HVB.out k hk hm)
     ·exact (HBD.out.setCell (p := ⟨g, L, none⟩) hgB _).setCell (p := ⟨gw, 1, none⟩) HSW.out.base _
     ·have h1 := WS.put_at u t HOK.out.nb; omega
    case measure => simp [intOf]
end Go.Proofs.YtmcllndnjdemaaaGreatDoor.Walk
