/- spec.WriteFrame, all channels as they stand: it ends, with some bytes. -/
import Derived.Test.YtmcllndnjdemaaaGreatDoorAp
namespace Go.Proofs.YtmcllndnjdemaaaGreatDoor.Walk
set_option linter.unusedVariables false
set_option linter.unusedSimpArgs false
open Go Go.RowKit Go.Proofs.YtmcllndnjdemaaaGreatDoorW.PrintWords Go.Proofs.YtmcllndnjdemaaaGreatDoorW.PrintLast Go.Proofs.YtmcllndnjdemaaaGreatDoorW.PrintMore Go.Proofs.YtmcllndnjdemaaaGreatDoor.Num Go.Proofs.YtmcllndnjdemaaaGreatDoor.Crc Go.Proofs.YtmcllndnjdemaaaGreatDoor.PFnEncode
def LstOk (w0 : World) (B : Nat) (K : List (Nat × Obj)) (lv : Value) (m sz : Nat) : Prop := ∃ A c, lv = .slice A m c ∧ ∀ j, j < m → ∃ (ad : Addr) (Aj : Option Addr) (cj : Nat) (xs : List Int), A = some ad ∧ sz ≤ cj ∧ Sml xs ∧ ∀ W, Below B w0 W → Pins K W → W.cell? (ad.add j) = some (.slice Aj sz cj) ∧ ReadsInt W .i64 Aj sz xs
theorem side_any (asg c : Nat) (ha : asg ≤ 10) (hc : c ≤ 7) (w : World) : Calls Tryz.prog 27 #[.int .i64 asg, .int .i64 c] w fun e w' => ∃ b : Bool, e = .returned (.bool b) ∧ ∃ n, w' = w.drewN n := by
 have key : ∀ (k : Fin 11) (c : Fin 8), ∃ b, spec_sideOf.f (k.val : Int) (c.val : Int) = some b := by decide +kernel
 obtain ⟨b, hb⟩ := key ⟨asg, by omega⟩ ⟨c, by omega⟩
 exact (spec_sideOf.calls (asg : Int) (c : Int) _ w hb).mono fun e w' h => ⟨b, h.1, h.2.out⟩
theorem wk_begin {B gw : Nat} {w : World} {v : Value} {l : List Int} (hB : B ≤ gw) (hb : ∀ x ∈ l, 0 ≤ x ∧ x ≤ 255) (h1 : w.heap[gw]? = some (.cells #[v, .int .i64 (8 * l.length : Nat)] 101 (0, 0))) (h2 : w.ownsRow B 5 1 v l.length (nums .u8 l)) : Wk [] B gw (8 * l.length) w :=
 ⟨⟨l, 0, 0⟩, ⟨⟨show 0 < 8 by decide, show 0 < 2 ^ 0 by decide⟩, hB, v, h1, h2, fun k hk he => by
  obtain ⟨_, cs, h3⟩ := own_ty h2 k (by rw [hk]; simp)
  rw [he, h1] at h3
  injection h3 with h3
  injection h3 with _ h4 _
  exact absurd h4 (by decide), by simp⟩, rfl, hb⟩
theorem add_at (g j : Nat) : (⟨g, 0, none⟩ : Addr).add j = ⟨g, j, none⟩ := by unfold Addr.add; split <;> simp_all
theorem Wk.pinL {K : List (Nat × Obj)} {B gw n : Nat} {w0 w : World} (h : Wk K B gw n w0) (t : Touch [] w0 w) (ps : List (Nat × Obj)) (hp : ∀ q ∈ ps, w0.heap.size ≤ q.1 ∧ w.heap[q.1]? = some q.2) : Wk (ps ++ K) B gw n w := by
 obtain ⟨s, hs, h5, h6⟩ := h
 obtain ⟨v, h1, h2, h3, h4⟩ := hs.ex
 have hlt := (Array.getElem?_eq_some_iff.1 h1).1
 refine ⟨s, ⟨hs.ok, hs.base, v, t.heap h1 (by simp), own_touch h2 t (by simp), h3, fun q hq => ?_⟩, h5, h6⟩
 rcases List.mem_append.1 hq with hq | hq
 ·obtain ⟨k1, k2⟩ := hp q hq
  exact ⟨fun hk => by have := (h2.lt _ hk).2; omega, fun e => by omega, k2⟩
 ·exact ⟨(h4 q hq).1, (h4 q hq).2.1, t.heap (h4 q hq).2.2 (by simp)⟩
theorem lst_two {wh w2 w3 : World} {B G n sz : Nat} {u v : Value} {r1 r2 : List Int} (hk : Wk [] B G n w2) (hsz : 0 < sz) (o1 : w3.ownsRow w2.heap.size 3 1 u sz (nums .i64 r1)) (o2 : w3.ownsRow w2.heap.size 3 1 v sz (nums .i64 r2)) (m1 : Sml r1) (m2 : Sml r2) (b : Below w2.heap.size w2 w3) :
  ∃ K, LstOk wh B K (.slice (some ⟨w3.heap.size, 0, none⟩) 2 2) 2 sz ∧ Wk K B G n (w3.alloc (.cells #[u, v] 44)) := by
 obtain ⟨gu, cu, ou, rfl, hgu, hou, hpu⟩ := own_pin o1 hsz
 obtain ⟨gv, cv, ov, rfl, hgv, hov, hpv⟩ := own_pin o2 hsz
 have hbA := below_alloc (Below.refl w3.heap.size w3) (.cells #[.slice (some ⟨gu, 0, none⟩) sz cu, .slice (some ⟨gv, 0, none⟩) sz cv] 44)
 refine ⟨[(gu, ou), (gv, ov), (w3.heap.size, .cells #[.slice (some ⟨gu, 0, none⟩) sz cu, .slice (some ⟨gv, 0, none⟩) sz cv] 44)] ++ [], ⟨_, _, rfl, fun j hj => ?_⟩, hk.pinL ((Touch.of_below b).trans (Touch.of_below hbA)) _ (fun q hq => ?_)⟩
 ·rcases j with _ | _ | j
  ·refine ⟨⟨w3.heap.size, 0, none⟩, some ⟨gu, 0, none⟩, cu, r1, rfl, own_cap' o1, m1, fun W hb hp => ⟨?_, ?_⟩⟩
   ·rw [add_at, cell_of_row W _ 0 _ _ _ (hp (w3.heap.size, .cells #[.slice (some ⟨gu, 0, none⟩) sz cu, .slice (some ⟨gv, 0, none⟩) sz cv] 44) (by simp))]; rfl
   ·obtain ⟨A, c, he, hr⟩ := own_reads (hpu W (hp (gu, ou) (by simp)))
    injection he with h1 h2 h3
    subst h1; exact hr
  ·refine ⟨⟨w3.heap.size, 0, none⟩, some ⟨gv, 0, none⟩, cv, r2, rfl, own_cap' o2, m2, fun W hb hp => ⟨?_, ?_⟩⟩
   ·rw [add_at, cell_of_row W _ 1 _ _ _ (hp (w3.heap.size, .cells #[.slice (some ⟨gu, 0, none⟩) sz cu, .slice (some ⟨gv, 0, none⟩) sz cv] 44) (by simp))]; rfl
   ·obtain ⟨A, c, he, hr⟩ := own_reads (hpv W (hp (gv, ov) (by simp)))
    injection he with h1 h2 h3
    subst h1; exact hr
  ·omega
 ·simp only [List.mem_cons, List.not_mem_nil, or_false] at hq
  rcases hq with rfl | rfl | rfl
  ·exact ⟨hgu, (Touch.of_below (S := []) hbA).heap hou (by simp)⟩
  ·exact ⟨hgv, (Touch.of_below (S := []) hbA).heap hov (by simp)⟩
  ·exact ⟨b.size, heap_alloc_new _ _⟩
theorem lst_in {w wh : World} {N B0 m sz cc : Nat} {Ac : Option Addr} {vs : List Value} {subs : List Sb} (hN : w.heap.size = N) (hbh : Below N w wh) (h1 : w.ownsRow B0 44 1 (.slice Ac m cc) m vs) (h2 : ∀ c, c < m → ∃ u, vs[c]? = some u ∧ w.ownsRow B0 3 1 u (subs.getD c ⟨0, 0, []⟩).xs.length (nums .i64 (subs.getD c ⟨0, 0, []⟩).xs))
  (h3 : ∀ s ∈ subs, s.xs.length = sz ∧ ∀ x ∈ s.xs, -16777216 ≤ x ∧ x ≤ 16777216) (hm : subs.length = m) : LstOk wh (N + 1) [] (.slice Ac m cc) m sz := by
 refine ⟨Ac, cc, rfl, fun j hj => ?_⟩
 obtain ⟨u, k1, k2⟩ := h2 j hj
 have hs := h3 (subs.getD j ⟨0, 0, []⟩) (by rw [List.getD_eq_getElem?_getD, List.getElem?_eq_getElem (by omega)]; exact List.getElem_mem _)
 rw [hs.1] at k2
 obtain ⟨Aj, cj, rfl, hr⟩ := own_reads k2
 obtain ⟨g, cap, hv, _, _⟩ := h1.form (by omega)
 injection hv with hv1 hv2 hv3
 subst hv1
 refine ⟨⟨g, 0, none⟩, Aj, cj, _, rfl, own_cap' k2, fun x hx => by have := hs.2 x hx; omega, fun W hb hp => ?_⟩
 have hbw : Below w.heap.size w W := by
  rw [hN]
  exact hbh.trans ⟨hb.os, hb.tape, hb.output, hb.size, fun k hk => hb.block k (by omega)⟩
 refine ⟨?_, hr.below hbw⟩
 rw [add_at]
 refine cell_below hbw ?_
 rw [h1.cellAt j (by omega)]; exact k1
set_option maxHeartbeats 16000000 in
set_option maxRecDepth 100000 in
theorem write_frame_any {vr pl : Bool} {sz rt asg bp nm m B0 gy : Nat} {cv : Value} {subs : List Sb} {w : World} (hch : Chans w B0 cv subs) (hlen : ∀ s ∈ subs, s.xs.length = sz ∧ ∀ x ∈ s.xs, -16777216 ≤ x ∧ x ≤ 16777216) (hsz : 1 ≤ sz) (hsz2 : sz ≤ 256) (hasg : asg ≤ 10) (hm : subs.length = m) (hm1 : asg ≤ 7 → m = asg + 1) (hm2 : 7 < asg → m = 2) (hrt : rt ≤ 655350) (hbp : bp ≤ 24) (hnm : nm < 68719476736) :
  Calls Tryz.prog 11 #[.agg #[.bool vr, .int .i64 sz, .int .i64 rt, .int .i64 asg, .int .i64 bp, .int .u64 nm], cv, .int .i64 bp, .slice (some ⟨gy, 0, none⟩) 0 0, .bool pl] w fun e w' => Below w.heap.size w w' ∧ ∃ x l, e = .returned x ∧ w'.ownsRow w.heap.size 5 1 x l.length (nums .u8 l) ∧ l.length ≤ 10000 := by
 obtain ⟨N, hN⟩ : ∃ N, w.heap.size = N := ⟨_, rfl⟩
 obtain ⟨vs, hch1, hch2⟩ := hch
 obtain ⟨Ac, cc, rfl⟩ := own_slice hch1
 rw [hm] at hch1 hch2 ⊢
 have HC := Lib.hid (And.intro hch1 (And.intro hch2 (And.intro hlen hm)))
 clear hch1 hch2 hlen hm
 rw [hN]
 go_enter Tryz.func11, Tryz.ntmps11
 go_wp2_with fail
 obtain ⟨wh, hwh⟩ : ∃ wh, w.alloc (.cells #[.bool vr, .int .i64 sz, .int .i64 rt, .int .i64 asg, .int .i64 bp, .int .u64 nm] 32) = wh := ⟨_, rfl⟩
 have hsh : wh.heap.size = N + 1 := by rw [← hwh, World.size_alloc, hN]
 have hh0 : wh.heap[N]? = some (.cells #[.bool vr, .int .i64 sz, .int .i64 rt, .int .i64 asg, .int .i64 bp, .int .u64 nm] 32 (0, 0)) := by rw [← hwh, ← hN]; exact heap_alloc_new _ _
 have hbh : Below N w wh := by rw [← hwh, ← hN]; exact below_alloc (Below.refl _ _) _
 rw [hwh]
 refine (write_head vr pl sz rt asg bp nm wh hsz (by omega) hrt (by omega) hnm).mono ?_
 rintro e w1 ⟨hb1, x1, l1, rfl, ho1, hl1, hl0, hl30⟩
 obtain ⟨A1, c1, rfl, _⟩ := own_reads ho1
 rw [hsh] at hb1 ho1
 have HD := Lib.hid (fun wx (hb : Below (N + 1) wh wx) => show wx.cell? ⟨N, 3, none⟩ = some (.int .i64 asg) by
  rw [cell_of_row wx N 3 _ _ _ ((hb.block N (by omega)).trans hh0)]; rfl)
 have HSH := Lib.hid (And.intro hsh hbh)
 clear hwh hsh hh0 hbh
 obtain ⟨G, hG⟩ : ∃ G, w1.heap.size = G := ⟨_, rfl⟩
 obtain ⟨n1, hn1⟩ : ∃ n1, l1.length = n1 := ⟨_, rfl⟩
 have X1 := Lib.hid (And.intro hb1 (And.intro ho1 (And.intro hl1 (And.intro hG hn1))))
 rw [hn1] at hl0 hl30 ⊢
 clear hb1 ho1 hl1 hG hn1
 obtain ⟨w2, hw2⟩ : ∃ w2, w1.alloc (.cells #[.slice A1 n1 c1, .int .i64 (8 * (n1 : Int))] 101) = w2 := ⟨_, rfl⟩
 have hb2 : Below (N + 1) wh w2 := by
  rw [← hw2]
  exact X1.out.1.alloc (Nat.le_trans (by rw [HSH.out.1]; exact Nat.le_refl _) X1.out.1.size) _
 have hk2 : Wk [] (N + 1) G (8 * n1) w2 := by
  have hr := X1.out.2.1.alloc (.cells #[.slice A1 n1 c1, .int .i64 (8 * (n1 : Int))] 101)
  rw [hw2] at hr
  have h := wk_begin (B := N + 1) (gw := G) (w := w2) (v := .slice A1 n1 c1) (l := l1) (by have h1 := X1.out.1.size; have h2 := HSH.out.1; have h3 := X1.out.2.2.2.1; omega) X1.out.2.2.1 (by
   rw [X1.out.2.2.2.2, ← hw2, ← X1.out.2.2.2.1, show ((8 * n1 : Nat) : Int) = 8 * (n1 : Int) by omega]; exact heap_alloc_new _ _) (by rw [X1.out.2.2.2.2] at hr ⊢; exact hr)
  rw [X1.out.2.2.2.2] at h; exact h
 have X2 := Lib.hid (And.intro hb2 hk2)
 have d3 := HD.out w2 hb2
 clear hb2 hk2
 go_upto_region 4 with fail
 rw [X1.out.2.2.2.1]
 clear hw2
 go_upto_if 37 with fail
 go_cut [12] (fun y wx => ∃ K, LstOk wh (N + 1) K y m sz ∧ Wk K (N + 1) G (8 * n1) wx ∧ Below (N + 1) wh wx)
 case first =>
  by_cases h7 : 7 < asg
  ·have g7 : decide ((7 : Int) < (asg : Int)) = true := by simp; omega
   obtain rfl := hm2 h7
   obtain ⟨u0, k0, o0⟩ := HC.out.2.1 0 (by decide)
   obtain ⟨u1, k1, o1⟩ := HC.out.2.1 1 (by decide)
   have s0 := HC.out.2.2.1 (subs.getD 0 ⟨0, 0, []⟩) (by rw [List.getD_eq_getElem?_getD, List.getElem?_eq_getElem (by have := HC.out.2.2.2; omega)]; exact List.getElem_mem _)
   have s1 := HC.out.2.2.1 (subs.getD 1 ⟨0, 0, []⟩) (by rw [List.getD_eq_getElem?_getD, List.getElem?_eq_getElem (by have := HC.out.2.2.2; omega)]; exact List.getElem_mem _)
   rw [s0.1] at o0
   rw [s1.1] at o1
   obtain ⟨B0a, d0, rfl, r0⟩ := own_reads o0
   obtain ⟨B1a, d1, rfl, r1⟩ := own_reads o1
   obtain ⟨gc, capc, hvc, _, _⟩ := HC.out.1.form (by decide)
   injection hvc with hv1 hv2 hv3
   subst hv1
   have hw2b : Below w.heap.size w w2 := by
    rw [hN]
    exact HSH.out.2.trans ⟨X2.out.1.os, X2.out.1.tape, X2.out.1.output, X2.out.1.size, fun k hk => X2.out.1.block k (by omega)⟩
   have e0 : w2.cell? ⟨gc, 0, none⟩ = some (.slice B0a sz d0) := cell_below hw2b (by rw [HC.out.1.cellAt 0 (by decide)]; exact k0)
   have e1 : w2.cell? ⟨gc, 1, none⟩ = some (.slice B1a sz d1) := cell_below hw2b (by rw [HC.out.1.cellAt 1 (by decide)]; exact k1)
   have HAP := Lib.hid (fun W (b : Below w.heap.size w W) => apart_call (a0 := (asg : Int)) (w := W) (r0.below b) (own_cap' o0) (r1.below b) (own_cap' o1) (show sz ≤ 1000 by omega) s0.2 s1.2)
   have HW := Lib.hid hw2b
   clear k0 k1 o0 o1 s0 s1 r0 r1 hv2 hv3 hw2b
   go_upto_region 5 with fail
   go_cut [13, 14] (fun y z wx => ∃ r1 r2, wx.ownsRow w2.heap.size 3 1 y sz (nums .i64 r1) ∧ wx.ownsRow w2.heap.size 3 1 z sz (nums .i64 r2) ∧ Sml r1 ∧ Sml r2 ∧ Below w2.heap.size w2 wx)
   case first =>
    go_region_held3 (fun w' => w'.cell? ⟨N, 3, none⟩ = some (.int .i64 asg) ∧ w'.cell? ⟨gc, 0, none⟩ = some (.slice B0a sz d0) ∧ w'.cell? ⟨gc, 1, none⟩ = some (.slice B1a sz d1)) (first | exact ⟨d3, e0, e1⟩ | exact ⟨f3, f0, f1⟩) (first
     | (go_at_call 26; refine (HAP.out _ (by first | exact HW.out | exact HW.out.drew)).mono ?_; rintro e w3 ⟨u, v, r1, r2, rfl, o1, o2, m1, m2, b3⟩; have f3 := cell_below b3 d3; have f0 := cell_below b3 e0; have f1 := cell_below b3 e1))
    go_wp2_with fail
    go_meet
    exact ⟨r1, r2, o1, o2, m1, m2, ⟨b3.os, b3.tape, b3.output, b3.size, b3.block⟩⟩
   case rest =>
    obtain ⟨r1, r2, o1, o2, m1, m2, b3⟩ := hcut
    obtain ⟨Au, cu, rfl⟩ := own_slice o1
    obtain ⟨Av, cv, rfl⟩ := own_slice o2
    have X3 := Lib.hid (And.intro o1 (And.intro o2 (And.intro m1 (And.intro m2 b3))))
    clear o1 o2 m1 m2 b3 d3 e0 e1
    go_wp2_with fail
    go_meet
    obtain ⟨K, hl, hk⟩ := lst_two (wh := wh) X2.out.2 hsz X3.out.1 X3.out.2.1 X3.out.2.2.1 X3.out.2.2.2.1 X3.out.2.2.2.2
    have hN2 : N + 1 ≤ w2.heap.size := by have h1 := X2.out.1.size; have h2 := HSH.out.1; omega
    exact ⟨K, hl, hk, (below_then X2.out.1 hN2 X3.out.2.2.2.2).alloc (Nat.le_trans hN2 X3.out.2.2.2.2.size) _⟩
  ·have g7 : decide ((7 : Int) < (asg : Int)) = false := by simp; omega
   go_wp2_with fail
   go_meet
   exact ⟨[], lst_in hN HSH.out.2 HC.out.1 HC.out.2.1 HC.out.2.2.1 HC.out.2.2.2, X2.out.2, X2.out.1⟩
 case rest =>
  obtain ⟨K, ⟨Al, cl, rfl, hls⟩, hk, hb⟩ := hcut
  have X3 := Lib.hid (And.intro hk hb)
  have HL := Lib.hid hls
  have hm8 : m ≤ 8 ∧ 0 < m := by
   by_cases h7 : 7 < asg
   ·have := hm2 h7; omega
   ·have := hm1 (by omega); omega
  have hm8a := hm8.1
  clear hk hb hls d3 X2 hm1 hm2 hm8
  go_wp2_with fail
  go_loopw [55] (fun iv wx => ∃ j n2 : Nat, iv = .int .i64 j ∧ j ≤ m ∧ n2 ≤ 240 + 7000 * j ∧ Wk K (N + 1) G n2 wx ∧ Below (N + 1) wh wx) (fun iv _ => m - (intOf iv).toNat)
  case atStart => exact ⟨0, 8 * n1, rfl, by omega, by omega, X3.out.1, X3.out.2⟩
  case round =>
   obtain ⟨j, n2, rfl, hj, hn2, hk, hb⟩ := hrel
   have X := Lib.hid (And.intro hk hb)
   by_cases hlt : j < m
   ·obtain ⟨ad, Aj, cj, xs, rfl, hcj, hsm, hW⟩ := HL.out j hlt
    have e1 := (hW wr hb hk.pins).1
    have d3 := HD.out wr hb
    have HR := Lib.hid (And.intro hsm hW)
    clear hk hb hsm hW
    go_upto_region 11 with fail
    go_cut [64] (fun y wx => (∃ b : Bool, y = .bool b) ∧ Touch [] wr wx)
    case first =>
     go_wp2_with fail
     refine (side_any asg j hasg (by omega) _).mono ?_
     rintro e w5 ⟨b, rfl, q, rfl⟩
     go_wp2_with fail
     go_meet
     exact ⟨⟨b, rfl⟩, (Touch.refl _ _).drewN _⟩
    case rest =>
    obtain ⟨⟨b, rfl⟩, tw⟩ := hcut
    have TW := Lib.hid tw
    clear tw
    go_upto_if 64 with fail
    go_cut [17] (fun y wx => ∃ nb : Nat, nb ≤ 25 ∧ y = .int .i64 nb ∧ wx = wc)
    case first =>
     cases b
     ·go_wp2_with fail
      go_meet
      exact ⟨bp, by omega, rfl, rfl⟩
     ·go_wp2_with fail
      go_meet
      exact ⟨bp + 1, by omega, by simp, rfl⟩
    case rest =>
     obtain ⟨nb, hnb, rfl, rfl⟩ := hcut
     have tw := TW.out
     have X4 := Lib.hid (And.intro (X.out.1.move tw (by simp) (by simp)) (X.out.2.touch0 tw (by rw [HSH.out.1]; exact Nat.le_refl _)))
     clear tw TW e1 d3 X
     go_upto_region 16 with fail
     obtain ⟨w6, hw6⟩ : ∃ w6, wc.alloc (.cells #[.int .i64 1, .int .i64 0, .int .i64 0, .slice none 0 0, .int .i64 0, .int .i64 0, .int .i64 0, .int .i64 0, .bool false, .int .i64 0] 51) = w6 := ⟨_, rfl⟩
     have hy6 : w6.heap[wc.heap.size]? = some (.cells #[.int .i64 1, .int .i64 0, .int .i64 0, .slice none 0 0, .int .i64 0, .int .i64 0, .int .i64 0, .int .i64 0, .bool false, .int .i64 0] 51 (0, 0)) := by rw [← hw6]; exact heap_alloc_new _ _
     have hb6 : Below wc.heap.size wc w6 := by rw [← hw6]; exact below_alloc (Below.refl _ _) _
     have hk6 := X4.out.1.move (U := []) (Touch.of_below hb6) (by simp) (by simp)
     have hbN6 : Below (N + 1) wh w6 := X4.out.2.touch0 (Touch.of_below (S := []) hb6) (by rw [HSH.out.1]; exact Nat.le_refl _)
     rw [hw6]
     obtain ⟨Y, hY⟩ : ∃ Y, wc.heap.size = Y := ⟨_, rfl⟩
     rw [hY] at hy6 ⊢
     have c0 : w6.cell? ⟨Y, 0, none⟩ = some (.int .i64 1) := by rw [cell_of_row w6 Y 0 _ _ _ hy6]; rfl
     have c1 : w6.cell? ⟨Y, 1, none⟩ = some (.int .i64 0) := by rw [cell_of_row w6 Y 1 _ _ _ hy6]; rfl
     have c2 : w6.cell? ⟨Y, 2, none⟩ = some (.int .i64 0) := by rw [cell_of_row w6 Y 2 _ _ _ hy6]; rfl
     have c3 : w6.cell? ⟨Y, 3, none⟩ = some (.slice none 0 0) := by rw [cell_of_row w6 Y 3 _ _ _ hy6]; rfl
     have c4 : w6.cell? ⟨Y, 4, none⟩ = some (.int .i64 0) := by rw [cell_of_row w6 Y 4 _ _ _ hy6]; rfl
     have c5 : w6.cell? ⟨Y, 5, none⟩ = some (.int .i64 0) := by rw [cell_of_row w6 Y 5 _ _ _ hy6]; rfl
     have c6 : w6.cell? ⟨Y, 6, none⟩ = some (.int .i64 0) := by rw [cell_of_row w6 Y 6 _ _ _ hy6]; rfl
     have c7 : w6.cell? ⟨Y, 7, none⟩ = some (.int .i64 0) := by rw [cell_of_row w6 Y 7 _ _ _ hy6]; rfl
     have c8 : w6.cell? ⟨Y, 8, none⟩ = some (.bool false) := by rw [cell_of_row w6 Y 8 _ _ _ hy6]; rfl
     have c9 : w6.cell? ⟨Y, 9, none⟩ = some (.int .i64 0) := by rw [cell_of_row w6 Y 9 _ _ _ hy6]; rfl
     have X6 := Lib.hid (And.intro hk6 hbN6)
     clear hw6 hy6 hb6 hk6 hbN6 hY X4
     go_wp2_with fail
     have hr6 := (HR.out.2 w6 X6.out.2 X6.out.1.pins).2
     refine (fit_1 (w := w6) (bits := nb) hr6 (by omega) (by omega)).mono ?_
     rintro e w7 ⟨hb7, rfl⟩
     have hk7 := X6.out.1.move (U := []) (Touch.of_below hb7) (by simp) (by simp)
     have hbN7 : Below (N + 1) wh w7 := X6.out.2.touch0 (Touch.of_below (S := []) hb7) (by rw [HSH.out.1]; exact Nat.le_refl _)
     have HCH := Lib.hid (channel_1 (bits := nb) (n := sz) (c := cj) (A := Aj) (xs := xs) hk7 hbN7 (by rw [HSH.out.1]; exact Nat.le_refl _) (fun W h1 h2 => (HR.out.2 W h1 h2).2) HR.out.1 hnb (by omega) (by omega))
     clear hr6 hb7 hk7 hbN7 c0 c1 c2 c3 c4 c5 c6 c7 c8 c9
     go_wp2_with fail
     refine HCH.out.mono ?_
     rintro e w8 ⟨rfl, hk8, hb8⟩
     have hns : nb * sz ≤ 6500 := Nat.le_trans (Nat.mul_le_mul hnb hsz2) (by decide)
     go_wp2_with fail
     go_roundw
     case rel => exact ⟨j + 1, _, by go_num, by omega, by omega, hk8, hb8⟩
     case measure => simp [intOf]; omega
   ·obtain rfl : j = m := by omega
    clear hk hb
    go_wp2_with fail
    obtain ⟨M2, hM2⟩ : ∃ M2, 8 * ((n2 + 7) / 8) = M2 := ⟨_, rfl⟩
    have hM8 : M2 % 8 = 0 := by omega
    have hMn : n2 ≤ M2 := by omega
    have hMb : M2 ≤ 57000 := by omega
    clear hM2 hn2
    rename World => wo
    go_loopw [] (fun wx => ∃ n3, n3 ≤ M2 ∧ Wk K (N + 1) G n3 wx ∧ Below (N + 1) wh wx) (fun wx => M2 - (intOf ((wx.cell? ⟨G, 1, none⟩).getD undef)).toNat)
    case atStart => exact ⟨n2, hMn, X.out.1, X.out.2⟩
    case round =>
     obtain ⟨n3, hn3, hk3, hb3⟩ := hrel
     obtain ⟨v, l, hg, ho, hlb, hll, _, _⟩ := hk3.row
     have q1 : wr.cell? ⟨G, 1, none⟩ = some (.int .i64 n3) := by rw [cell_of_row wr G 1 _ _ _ hg]; rfl
     obtain ⟨A9, c9, rfl, hr9⟩ := own_reads ho
     have q0 : wr.cell? ⟨G, 0, none⟩ = some (.slice A9 l.length c9) := by rw [cell_of_row wr G 0 _ _ _ hg]; rfl
     have hc9 := own_cap' ho
     have X3 := Lib.hid (And.intro hk3 (And.intro hb3 (And.intro hlb (And.intro hr9 hc9))))
     clear hk3 hb3 hlb hr9 hc9 ho hg
     by_cases h8 : n3 % 8 = 0
     ·have e0 : ((n3 : Int) % 8 != 0) = false := by simp; omega
      obtain ⟨n4, hn4⟩ : ∃ n4, l.length = n4 := ⟨_, rfl⟩
      have hn4b : n4 ≤ 8000 := by omega
      have hcrc : Calls Tryz.prog 31 #[.slice A9 n4 c9] wr fun e w' => e = .returned (.int .i64 (up16 (f16 32773) 0 l)) ∧ ∃ n, w' = wr.drewN n := by
       have h := crc16_call A9 c9 l wr X3.out.2.2.2.1 X3.out.2.2.2.2 (by omega) X3.out.2.2.1
       rw [hn4] at h; exact h
      obtain ⟨z, hz, hzb⟩ := sum_word l X3.out.2.2.1
      rw [hz] at hcrc
      rw [hn4] at q0
      have HCRC := Lib.hid hcrc
      clear hcrc hll hn4 hz
      go_wp2_with fail
      refine HCRC.out.mono ?_
      rintro e w5 ⟨rfl, q, rfl⟩
      clear q0 q1
      go_wp2_with fail
      refine (wk_word _ (N + 1) G 16 n3 z wh _ (X3.out.1.move (U := []) ((Touch.refl _ _).drewN q) (by simp) (by simp)) (X3.out.2.1.drewN' q) (by omega) (by omega) (by decide) (by omega)).mono ?_
      rintro e w6 ⟨rfl, hk6, hb6⟩
      obtain ⟨v, l6, hg6, ho6, hlb6, hll6, _, _⟩ := hk6.row
      obtain ⟨A6, c6, rfl, _⟩ := own_reads ho6
      have q6 : w6.cell? ⟨G, 0, none⟩ = some (.slice A6 l6.length c6) := by rw [cell_of_row w6 G 0 _ _ _ hg6]; rfl
      have X6 := Lib.hid (And.intro ho6 (And.intro hb6 hll6))
      clear hk6 hb6 hg6 ho6 hlb6 hll6
      go_wp2_with fail
      go_ret
      have hb := X6.out.2.1
      refine ⟨HSH.out.2.trans ⟨hb.os, hb.tape, hb.output, hb.size, fun k hk => hb.block k (by omega)⟩, _, l6, rfl, own_weak X6.out.1 (by omega), by have := X6.out.2.2; omega⟩
     ·have e0 : ((n3 : Int) % 8 != 0) = true := by simp; omega
      go_wp2_with fail
      refine (wk_word _ (N + 1) G 1 n3 0 wh _ X3.out.1 X3.out.2.1 (by omega) (by omega) (by decide) (by omega)).mono ?_
      rintro e w5 ⟨rfl, hk5, hb5⟩
      obtain ⟨v, l5, hg5, _⟩ := hk5.row
      have q5 : w5.cell? ⟨G, 1, none⟩ = some (.int .i64 (n3 + 1 : Nat)) := by rw [cell_of_row w5 G 1 _ _ _ hg5]; rfl
      have X5 := Lib.hid (And.intro hk5 (And.intro hb5 q5))
      clear hk5 hb5 hg5 q5
      go_wp2_with fail
      refine ⟨⟨n3 + 1, by omega, X5.out.1, X5.out.2.1⟩, ?_⟩
      rw [X5.out.2.2, q1]
      simp [intOf]; omega
end Go.Proofs.YtmcllndnjdemaaaGreatDoor.Walk
