/- spec.WriteHead: it ends, with some bytes. -/
import Derived.Test.YtmcllndnjdemaaaGreatDoorSq
namespace Go.Proofs.YtmcllndnjdemaaaGreatDoor.Walk
set_option linter.unusedVariables false
set_option linter.unusedSimpArgs false
open Go Go.RowKit Go.Proofs.YtmcllndnjdemaaaGreatDoorW.PrintWords Go.Proofs.YtmcllndnjdemaaaGreatDoorW.PrintLast Go.Proofs.YtmcllndnjdemaaaGreatDoorW.PrintMore Go.Proofs.YtmcllndnjdemaaaGreatDoor.Num Go.Proofs.YtmcllndnjdemaaaGreatDoor.Crc Go.Proofs.YtmcllndnjdemaaaGreatDoor.PFnEncode
theorem _root_.Go.RowKit.Below.drewN' {B : Nat} {a w : World} (h : Below B a w) (n : Nat) : Below B a (w.drewN n) := h.trans ⟨rfl, rfl, rfl, Nat.le_refl _, fun _ _ => rfl⟩
theorem _root_.Go.RowKit.Below.touch0 {B : Nat} {a w w' : World} (h : Below B a w) (t : Touch [] w w') (hB : B ≤ a.heap.size) : Below B a w' :=
 h.trans ⟨t.os, t.tape, t.output, t.size, fun k hk => t.block k (Nat.lt_of_lt_of_le hk (Nat.le_trans hB h.size)) (by simp)⟩
theorem Sw.move {K : List (Nat × Obj)} {B gw : Nat} {s : WS} {w w' : World} (h : Sw K B gw s w) {U : List Nat} (t : Touch U w w') (hU : ∀ k ∈ U, ∃ cs ty fz, w.heap[k]? = some (.cells cs ty fz) ∧ ty ≠ 5 ∧ ty ≠ 101) (hK : ∀ q ∈ K, q.1 ∉ U) : Sw K B gw s w' := by
 obtain ⟨v, h1, h2, h3, h4⟩ := h.ex
 refine ⟨h.ok, h.base, v, t.heap h1 (fun hm => ?_), own_touch h2 t (fun k hk hm => ?_), h3, fun q hq => ⟨(h4 q hq).1, (h4 q hq).2.1, t.heap (h4 q hq).2.2 (hK q hq)⟩⟩
 ·obtain ⟨cs, ty, fz, k1, k2, k3⟩ := hU _ hm
  rw [h1] at k1; injection k1 with k1; injection k1 with _ k4 _; exact k3 k4.symm
 ·obtain ⟨cs, ty, fz, k1, k2, k3⟩ := hU _ hm
  exact own_ne h2 k1 k2 hk.symm
theorem Wk.move {K : List (Nat × Obj)} {B gw n : Nat} {w w' : World} (h : Wk K B gw n w) {U : List Nat} (t : Touch U w w') (hU : ∀ k ∈ U, ∃ cs ty fz, w.heap[k]? = some (.cells cs ty fz) ∧ ty ≠ 5 ∧ ty ≠ 101) (hK : ∀ q ∈ K, q.1 ∉ U) : Wk K B gw n w' := by
 obtain ⟨s, h1, h2, h3⟩ := h
 exact ⟨s, h1.move t hU hK, h2, h3⟩
theorem Wk.pin {K : List (Nat × Obj)} {B gw g n : Nat} {o : Obj} {w0 w : World} (h : Wk K B gw n w0) (t : Touch [] w0 w) (hg : w0.heap.size ≤ g) (ho : w.heap[g]? = some o) : Wk ((g, o) :: K) B gw n w := by
 obtain ⟨s, hs, h5, h6⟩ := h
 obtain ⟨v, h1, h2, h3, h4⟩ := hs.ex
 have hlt := (Array.getElem?_eq_some_iff.1 h1).1
 refine ⟨s, ⟨hs.ok, hs.base, v, t.heap h1 (by simp), own_touch h2 t (by simp), h3, fun q hq => ?_⟩, h5, h6⟩
 rcases List.mem_cons.1 hq with rfl | hq
 ·exact ⟨fun hk => by have := (h2.lt _ hk).2; simp only at this; omega, fun e => by simp only at e; omega, ho⟩
 ·exact ⟨(h4 q hq).1, (h4 q hq).2.1, t.heap (h4 q hq).2.2 (by simp)⟩
theorem Wk.unpin {K : List (Nat × Obj)} {B gw n : Nat} {q : Nat × Obj} {w : World} (h : Wk (q :: K) B gw n w) : Wk K B gw n w := by
 obtain ⟨s, hs, h5, h6⟩ := h
 obtain ⟨v, h1, h2, h3, h4⟩ := hs.ex
 exact ⟨s, ⟨hs.ok, hs.base, v, h1, h2, h3, fun q hq => h4 q (List.mem_cons_of_mem _ hq)⟩, h5, h6⟩
theorem Wk.pinned {K : List (Nat × Obj)} {B gw n : Nat} {q : Nat × Obj} {w : World} (h : Wk K B gw n w) (hq : q ∈ K) : w.heap[q.1]? = some q.2 := by
 obtain ⟨s, hs, h5, h6⟩ := h
 obtain ⟨v, _, _, _, h4⟩ := hs.ex
 exact (h4 q hq).2.2
theorem Wk.row {K : List (Nat × Obj)} {B gw n : Nat} {w : World} (h : Wk K B gw n w) : ∃ (v : Value) (l : List Int), w.heap[gw]? = some (.cells #[v, .int .i64 n] 101 (0, 0)) ∧ w.ownsRow B 5 1 v l.length (nums .u8 l) ∧ (∀ x ∈ l, 0 ≤ x ∧ x ≤ 255) ∧ l.length = (n + 7) / 8 ∧ (∀ k, v.ownBlock = some k → k ≠ gw) ∧ B ≤ gw := by
 obtain ⟨s, hs, h5, h6⟩ := h
 obtain ⟨v, h1, h2, h3, h4⟩ := hs.ex
 have hnb := hs.ok.nb
 refine ⟨v, s.bytes, by rw [h1, h5], h2, ?_, ?_, h3, hs.base⟩
 ·unfold WS.bytes
  split
  ·exact h6
  ·intro x hx
   rcases List.mem_append.1 hx with hx | hx
   ·exact h6 x hx
   ·have hx := List.mem_singleton.1 hx
    rw [hx]
    have hc := hs.ok.c
    have h1 : s.c * 2 ^ (8 - s.nb) < 2 ^ s.nb * 2 ^ (8 - s.nb) := Nat.mul_lt_mul_of_pos_right hc (Nat.two_pow_pos _)
    rw [← Nat.pow_add, show s.nb + (8 - s.nb) = 8 by omega] at h1
    obtain ⟨y, hy⟩ : ∃ y, s.c * 2 ^ (8 - s.nb) = y := ⟨_, rfl⟩
    rw [hy] at h1 ⊢
    omega
 ·rw [WS.bytes_len]; split <;> omega
theorem own_cap' {w : World} {base size n c : Nat} {e : TypeId} {A : Option Addr} {xs : List Value} (h : w.ownsRow base e size (.slice A n c) n xs) : n ≤ c := by
 rcases h.2 with ⟨h0, h1⟩ | ⟨g, cap, cur, hv, hb, _, hc, _⟩
 ·omega
 ·injection hv with _ _ h3; omega
def bitsTab : List Nat := [0, 8, 12, 0, 16, 20, 24]
noncomputable def whTail (n : Nat) : Code := dropSeq n ((Tryz.f25.body).getD .skip)
set_option maxHeartbeats 32000000 in
set_option maxRecDepth 100000 in
theorem wh_tail {w wh wr : World} {vr pl : Bool} {N sz rt asg bt nm cs cr0 : Nat} {u3 u10 u11 u12 u13 u14 u15 u16 u17 u18 u19 u20 u21 u22 u23 u24 u25 u26 u27 u28 u29 u30 u31 u32 u33 u34 u35 u36 u37 u38 u39 u40 u41 u42 u43 u44 u45 u46 u47 u48 u49 u50 u51 u52 u53 u54 u55 u56 u57 u58 u59 u60 u61 u62 u63 u64 u65 u66 u67 u68 u69 u70 u71 u72 u73 u74 u75 u76 u77 u78 u79 u80 u81 u82 u83 u84 u85 u86 u87 u88 u89 u90 u91 u92 u93 u94 u95 u96 u97 u98 u99 u100 u101 u102 u103 u104 u105 u106 u107 u108 u109 u110 u111 u112 u113 u114 u115 u116 u117 u118 u119 u120 u121 u122 u123 u124 u125 u126 u127 u128 u129 u130 u131 u132 u133 u134 u135 u136 u137 u138 u139 u140 u141 u142 u143 u144 u145 u146 u147 u148 u149 u150 u151 u152 u153 u154 u155 u156 u157 u158 u159 u160 u161 u162 u163 u164 u165 u166 u167 u168 u169 u170 u171 u172 u173 u174 u175 : Value} (hsz : 1 ≤ sz) (hsz2 : sz ≤ 65535) (hrt : rt ≤ 655350) (hasg : asg ≤ 15) (hnm : nm < 68719476736) (hcs : cs < 16) (hcr0 : cr0 < 16)
  (HD : Hid (∀ wx, Below (N + 1) wh wx → wx.cell? ⟨N, 0, none⟩ = some (.bool vr) ∧ wx.cell? ⟨N, 1, none⟩ = some (.int .i64 sz) ∧ wx.cell? ⟨N, 2, none⟩ = some (.int .i64 rt) ∧ wx.cell? ⟨N, 3, none⟩ = some (.int .i64 asg) ∧ wx.cell? ⟨N, 4, none⟩ = some (.int .i64 bt) ∧ wx.cell? ⟨N, 5, none⟩ = some (.int .u64 nm))) (HSH : Hid (wh.heap.size = N + 1)) (HBH : Hid (Below N w wh)) (X : Hid (Wk [] (N + 1) (N + 1) 16 wr ∧ Below (N + 1) wh wr)) :
  Code.wp Tryz.prog (whTail 11) (bodyPost Tryz.prog Tryz.f25 (fun e w' => Below N w w' ∧ ∃ x l, e = .returned x ∧ w'.ownsRow N 5 1 x l.length (nums .u8 l) ∧ (∀ y ∈ l, 0 ≤ y ∧ y ≤ 255) ∧ 0 < l.length ∧ l.length ≤ 30)) ⟨List.toArray (.agg #[.bool vr, .int .i64 sz, .int .i64 rt, .int .i64 asg, .int .i64 bt, .int .u64 nm] :: .bool pl :: .pointer (some ⟨N, 0, none⟩) :: u3 :: .slice none 0 0 :: .pointer (some ⟨N + 1, 0, none⟩) :: .int .i64 vr.toNat :: .int .i64 cs :: .int .i64 (16 : Nat) :: .int .i64 cr0 :: u10 :: u11 :: u12 :: u13 :: u14 :: u15 :: u16 :: u17 :: u18 :: u19 :: u20 :: u21 :: u22 :: u23 :: u24 :: u25 :: u26 :: u27 :: u28 :: u29 :: u30 :: u31 :: u32 :: u33 :: u34 :: u35 :: u36 :: u37 :: u38 :: u39 :: u40 :: u41 :: u42 :: u43 :: u44 :: u45 :: u46 :: u47 :: u48 :: u49 :: u50 :: u51 :: u52 :: u53 :: u54 :: u55 :: u56 :: u57 :: u58 :: u59 :: u60 :: u61 :: u62 :: u63 :: u64 :: u65 :: u66 :: u67 :: u68 :: u69 :: u70 :: u71 :: u72 :: u73 :: u74 :: u75 :: u76 :: u77 :: u78 :: u79 :: u80 :: u81 :: u82 :: u83 :: u84 :: u85 :: u86 :: u87 :: u88 :: u89 :: u90 :: u91 :: u92 :: u93 :: u94 :: u95 :: u96 :: u97 :: u98 :: u99 :: u100 :: u101 :: u102 :: u103 :: u104 :: u105 :: u106 :: u107 :: u108 :: u109 :: u110 :: u111 :: u112 :: u113 :: u114 :: u115 :: u116 :: u117 :: u118 :: u119 :: u120 :: u121 :: u122 :: u123 :: u124 :: u125 :: u126 :: u127 :: u128 :: u129 :: u130 :: u131 :: u132 :: u133 :: u134 :: u135 :: u136 :: u137 :: u138 :: u139 :: u140 :: u141 :: u142 :: u143 :: u144 :: u145 :: u146 :: u147 :: u148 :: u149 :: u150 :: u151 :: u152 :: u153 :: u154 :: u155 :: u156 :: u157 :: u158 :: u159 :: u160 :: u161 :: u162 :: u163 :: u164 :: u165 :: u166 :: u167 :: u168 :: u169 :: u170 :: u171 :: u172 :: u173 :: u174 :: u175 :: []), []⟩ wr := by
 conv => arg 2; whnf
 go_wp2_with fail
 refine (rates_call _).mono ?_
 rintro e w4 ⟨x7, rfl, hO, hB⟩
 obtain ⟨A7, c7, rfl, hR7⟩ := own_reads hO
 have X4 := Lib.hid (And.intro (X.out.1.move (U := []) (Touch.of_below hB) (by simp) (by simp)) (below_then X.out.2 (by have := X.out.2.size; have := HSH.out; omega) hB))
 have HR7 := Lib.hid hR7
 clear hO hB hR7 X
 go_wp2_with fail
 go_loopw [9, 64] (fun crv iv wx => ∃ cr i : Nat, cr < 16 ∧ crv = .int .i64 cr ∧ i ≤ 12 ∧ iv = .int .i64 i ∧ wx = w4) (fun _ iv _ => 12 - (intOf iv).toNat)
 case atStart => exact ⟨cr0, 0, hcr0, rfl, by omega, rfl, rfl⟩
 case round =>
  obtain ⟨cr, i, hcr, rfl, hi12, rfl, rfl⟩ := hrel
  by_cases hi : i < 12
  ·obtain ⟨ad7, rfl, cell7⟩ := HR7.out.2.2 (by omega)
   obtain ⟨r, hr⟩ : ∃ r, rateTab.getD i 0 = r := ⟨_, rfl⟩
   have e7 : wr.cell? (ad7.add i) = some (.int .i64 r) := by
    rw [cell7 i hi, ← hr]
    have key : ∀ i : Fin 12, (rateTab.map fun x : Nat => (x : Int)).getD i.val 0 = ((rateTab.getD i.val 0 : Nat) : Int) := by decide
    rw [key ⟨i, hi⟩]
   have hd2 : wr.cell? ⟨N, 2, none⟩ = some (.int .i64 rt) := (HD.out wr X4.out.2).2.2.1
   clear hr cell7
   obtain ⟨g0b, g0⟩ : ∃ g0b, decide ((0 : Int) < (i : Int)) = g0b := ⟨_, rfl⟩
   obtain ⟨g1b, g1⟩ : ∃ g1b, ((r : Int) == (rt : Int)) = g1b := ⟨_, rfl⟩
   go_upto_region 25 with fail
   go_cut [80] (fun v wx => (∃ b, v = .bool b) ∧ wx = wr)
   case first =>
    cases g0b <;> cases g1b <;> cases pl <;> go_wp2_with fail
    all_goals
     go_meet
     exact ⟨⟨_, rfl⟩, rfl⟩
   case rest =>
    obtain ⟨⟨b, rfl⟩, rfl⟩ := hcut
    cases b <;> go_wp2_with fail
    all_goals
     go_roundw
     case rel => first | exact ⟨i, i + 1, by omega, rfl, by omega, by go_num, by trivial⟩ | exact ⟨cr, i + 1, hcr, rfl, by omega, by go_num, by trivial⟩
     case measure => simp [intOf]; omega
  ·obtain rfl : i = 12 := by omega
   go_wp2_with fail
   refine (wk_word [] (N + 1) (N + 1) 4 _ cs wh wr X4.out.1 X4.out.2 (by omega) (by omega) (by decide) (by decide)).mono ?_
   rintro e w5 ⟨rfl, hsw, hbe⟩
   have X5 := Lib.hid (And.intro hsw hbe)
   clear hsw hbe X4
   go_wp2_with fail
   refine (wk_word [] (N + 1) (N + 1) 4 _ cr wh w5 X5.out.1 X5.out.2 (by omega) (by omega) (by decide) (by decide)).mono ?_
   rintro e w6 ⟨rfl, hsw, hbe⟩
   have X6 := Lib.hid (And.intro hsw hbe)
   clear hsw hbe X5
   have h3 := (HD.out w6 X6.out.2).2.2.2.1
   go_wp2_with fail
   refine (wk_word [] (N + 1) (N + 1) 4 _ asg wh w6 X6.out.1 X6.out.2 (by omega) (by omega) (by decide) (by decide)).mono ?_
   rintro e w7 ⟨rfl, hsw, hbe⟩
   have X7 := Lib.hid (And.intro hsw hbe)
   clear hsw hbe X6 h3
   go_wp2_with fail
   obtain ⟨w8, hw8⟩ : ∃ w8, w7.alloc (.cells #[.int .i64 0, .int .i64 8, .int .i64 12, .int .i64 0, .int .i64 16, .int .i64 20, .int .i64 24] 3) = w8 := ⟨_, rfl⟩
   rw [hw8]
   have hs8 := X7.out.1.move (U := []) ((Touch.refl _ _).alloc (.cells #[.int .i64 0, .int .i64 8, .int .i64 12, .int .i64 0, .int .i64 16, .int .i64 20, .int .i64 24] 3)) (by simp) (by simp)
   rw [hw8] at hs8
   have hb8 : Below (N + 1) wh w8 := by rw [← hw8]; exact X7.out.2.alloc (by have := X7.out.2.size; have := HSH.out; omega) _
   have hk8 : w8.heap[w7.heap.size]? = some (.cells #[.int .i64 0, .int .i64 8, .int .i64 12, .int .i64 0, .int .i64 16, .int .i64 20, .int .i64 24] 3 (0, 0)) := by rw [← hw8]; exact heap_alloc_new _ _
   obtain ⟨M, hM⟩ : ∃ M, w7.heap.size = M := ⟨_, rfl⟩
   rw [hM] at hk8
   rw [hM]
   have X8 := Lib.hid (And.intro hs8 (And.intro hb8 hk8))
   clear hw8 hs8 hb8 hk8 hM X7
   have hd4 : w8.cell? ⟨N, 4, none⟩ = some (.int .i64 bt) := (HD.out w8 X8.out.2.1).2.2.2.2.1
   go_loopw [12, 95] (fun bv iv wx => ∃ cb i : Nat, cb < 8 ∧ bv = .int .i64 cb ∧ i ≤ 7 ∧ iv = .int .i64 i ∧ wx = w8) (fun _ iv _ => 7 - (intOf iv).toNat)
   case atStart => exact ⟨0, 0, by omega, rfl, by omega, rfl, rfl⟩
   case round =>
    obtain ⟨cb, i, hcb, rfl, hi7, rfl, rfl⟩ := hrel
    by_cases hi : i < 7
    ·obtain ⟨r, hr⟩ : ∃ r, bitsTab.getD i 0 = r := ⟨_, rfl⟩
     have e7 : wr.cell? ⟨M, i, none⟩ = some (.int .i64 r) := by
      rw [cell_of_row wr M i _ _ _ X8.out.2.2, ← hr]
      clear hr
      rcases i with _ | _ | _ | _ | _ | _ | _ | i
      ·rfl
      ·rfl
      ·rfl
      ·rfl
      ·rfl
      ·rfl
      ·rfl
      ·omega
     clear hr
     obtain ⟨g0b, g0⟩ : ∃ g0b, decide ((0 : Int) < (r : Int)) = g0b := ⟨_, rfl⟩
     obtain ⟨g1b, g1⟩ : ∃ g1b, ((r : Int) == (bt : Int)) = g1b := ⟨_, rfl⟩
     go_upto_region 35 with fail
     go_cut [107] (fun v wx => (∃ b, v = .bool b) ∧ wx = wr)
     case first =>
      cases g0b <;> cases g1b <;> go_wp2_with fail
      all_goals
       go_meet
       exact ⟨⟨_, rfl⟩, rfl⟩
     case rest =>
      obtain ⟨⟨b, rfl⟩, rfl⟩ := hcut
      cases b <;> go_wp2_with fail
      all_goals
       go_roundw
       case rel => first | exact ⟨i, i + 1, by omega, rfl, by omega, by go_num, by trivial⟩ | exact ⟨cb, i + 1, hcb, rfl, by omega, by go_num, by trivial⟩
       case measure => simp [intOf]; omega
    ·obtain rfl : i = 7 := by omega
     clear hd4
     go_wp2_with fail
     refine (wk_word [] (N + 1) (N + 1) 3 _ cb wh wr X8.out.1 X8.out.2.1 (by omega) (by omega) (by decide) (by decide)).mono ?_
     rintro e w9 ⟨rfl, hsw, hbe⟩
     have X9 := Lib.hid (And.intro hsw hbe)
     clear hsw hbe X8
     go_wp2_with fail
     refine (wk_word [] (N + 1) (N + 1) 1 _ 0 wh w9 X9.out.1 X9.out.2 (by omega) (by omega) (by decide) (by decide)).mono ?_
     rintro e w10 ⟨rfl, hsw, hbe⟩
     have X10 := Lib.hid (And.intro hsw hbe)
     clear hsw hbe X9
     have hd5 := (HD.out w10 X10.out.2).2.2.2.2.2
     go_wp2_with fail
     refine (coded_call nm _ hnm).mono ?_
     rintro e w11 ⟨x17, rfl, hO, hB⟩
     obtain ⟨g, cap, o, rfl, hgb, hgo, hpin⟩ := own_pin hO (by omega)
     have hs11 := X10.out.1.pin (Touch.of_below hB) hgb hgo
     have hb11 := below_then X10.out.2 (by have := X10.out.2.size; have := HSH.out; omega) hB
     obtain ⟨m, hm⟩ : ∃ m, more nm + 1 = m := ⟨_, rfl⟩
     have hm7 : m ≤ 7 := by have := more_le nm; omega
     have hcl : (coded nm).length = m := by rw [coded_len, hm]
     rw [hm] at hpin
     rw [hm]
     have X11 := Lib.hid (And.intro hs11 hb11)
     have HPIN := Lib.hid hpin
     have HCL := Lib.hid hcl
     clear hO hB hgb hgo hpin hs11 hb11 hm hd5 X10 hcl
     go_wp2_with fail
     go_loopw [119] (fun iv wx => ∃ i : Nat, i ≤ m ∧ iv = .int .i64 i ∧ Wk [(g, o)] (N + 1) (N + 1) (32 + 8 * i) wx ∧ Below (N + 1) wh wx) (fun iv _ => m - (intOf iv).toNat)
     case atStart => exact ⟨0, by omega, rfl, X11.out.1, X11.out.2⟩
     case round =>
      obtain ⟨i, him, rfl, hsw, hbe⟩ := hrel
      have hown := HPIN.out _ (hsw.pinned (q := (g, o)) (by simp))
      have X := Lib.hid (And.intro hsw hbe)
      clear hsw hbe
      by_cases hi : i < m
      ·obtain ⟨y, hy, hy2⟩ : ∃ y : Nat, (coded nm)[i]? = some (y : Int) ∧ y < 256 := by
        have hil : i < (coded nm).length := by rw [HCL.out]; exact hi
        have hb := coded_bytes nm hnm _ (List.getElem_mem hil)
        exact ⟨((coded nm)[i]).toNat, by rw [List.getElem?_eq_getElem hil]; congr 1; omega, by omega⟩
       have e7 : wr.cell? ⟨g, i, none⟩ = some (.int .u8 y) := by
        rw [hown.cellAt i (by omega)]
        simp [nums, hy]
       clear hown hy
       go_wp2_with fail
       refine (wk_word [(g, o)] (N + 1) (N + 1) 8 _ y wh _ X.out.1 X.out.2 (by omega) (by omega) (by decide) (by omega)).mono ?_
       rintro e wz ⟨rfl, hsw, hbe⟩
       go_wp2_with fail
       go_roundw
       case rel => exact ⟨i + 1, by omega, by go_num, hsw, hbe⟩
       case measure => simp [intOf]; omega
      ·obtain rfl : i = m := by omega
       have X12 := Lib.hid (And.intro X.out.1.unpin X.out.2)
       clear X hown
       go_upto_block 9 with fail
       go_cut [4] (fun v wx => v = .slice none 0 0 ∧ (∃ n, n ≤ 104 ∧ Wk [] (N + 1) (N + 1) (32 + n) wx) ∧ Below (N + 1) wh wx)
       case first =>
        have hd1 : wr.cell? ⟨N, 1, none⟩ = some (.int .i64 sz) := (HD.out wr X12.out.2).2.1
        obtain ⟨z, hz⟩ : ∃ z, sz - 1 = z := ⟨_, rfl⟩
        have ez : (sz : Int) - 1 = (z : Int) := by omega
        have hz2 : z < 65536 := by omega
        clear hz
        by_cases h6 : cs = 6
        ·have b6 : ((cs : Int) == 6) = true := by rw [h6]; rfl
         clear h6
         go_wp2_with fail
         refine (wk_word [] (N + 1) (N + 1) 8 _ z wh _ X12.out.1 X12.out.2 (by omega) (by omega) (by decide) (by omega)).mono ?_
         rintro e wz ⟨rfl, hsw, hbe⟩
         go_wp2_with fail
         go_meet
         exact ⟨rfl, ⟨8 * i + 8, by omega, hsw⟩, hbe⟩
        ·have b6 : ((cs : Int) == 6) = false := by simp; omega
         by_cases h7 : cs = 7
         ·have b7 : ((cs : Int) == 7) = true := by rw [h7]; rfl
          clear h6 h7
          go_wp2_with fail
          refine (wk_word [] (N + 1) (N + 1) 16 _ z wh _ X12.out.1 X12.out.2 (by omega) (by omega) (by decide) (by omega)).mono ?_
          rintro e wz ⟨rfl, hsw, hbe⟩
          go_wp2_with fail
          go_meet
          exact ⟨rfl, ⟨8 * i + 16, by omega, hsw⟩, hbe⟩
         ·have b7 : ((cs : Int) == 7) = false := by simp; omega
          clear h6 h7
          go_wp2_with fail
          go_meet
          exact ⟨rfl, ⟨8 * i, by omega, X12.out.1⟩, X12.out.2⟩
       case rest =>
        obtain ⟨rfl, ⟨n1, hn1, hsw⟩, hbe⟩ := hcut
        have X13 := Lib.hid (And.intro hsw hbe)
        clear hsw hbe X12 X11
        go_upto_block 10 with fail
        go_cut [4] (fun v wx => v = .slice none 0 0 ∧ (∃ n, n ≤ 120 ∧ Wk [] (N + 1) (N + 1) (32 + n) wx) ∧ Below (N + 1) wh wx)
        case first =>
         have hd2 : wc.cell? ⟨N, 2, none⟩ = some (.int .i64 rt) := (HD.out wc X13.out.2).2.2.1
         by_cases h12 : cr = 12
         ·obtain ⟨z, hz⟩ : ∃ z, rt / 1000 = z := ⟨_, rfl⟩
          have ez : (rt : Int) / 1000 = (z : Int) := by omega
          have b1 : ((cr : Int) == 12) = true := by rw [h12]; rfl
          have hzb : z ≤ 655350 := by omega
          clear h12 hz
          go_wp2_with fail
          refine (wk_word [] (N + 1) (N + 1) 8 _ z wh _ X13.out.1 X13.out.2 (by omega) (by omega) (by decide) (by omega)).mono ?_
          rintro e wz ⟨rfl, hsw, hbe⟩
          go_wp2_with fail
          go_meet
          exact ⟨rfl, ⟨n1 + 8, by omega, hsw⟩, hbe⟩
         ·have b1 : ((cr : Int) == 12) = false := by simp; omega
          by_cases h13 : cr = 13
          ·have b2 : ((cr : Int) == 13) = true := by rw [h13]; rfl
           clear h12 h13
           go_wp2_with fail
           refine (wk_word [] (N + 1) (N + 1) 16 _ rt wh _ X13.out.1 X13.out.2 (by omega) (by omega) (by decide) (by omega)).mono ?_
           rintro e wz ⟨rfl, hsw, hbe⟩
           go_wp2_with fail
           go_meet
           exact ⟨rfl, ⟨n1 + 16, by omega, hsw⟩, hbe⟩
          ·have b2 : ((cr : Int) == 13) = false := by simp; omega
           by_cases h14 : cr = 14
           ·obtain ⟨z, hz⟩ : ∃ z, rt / 10 = z := ⟨_, rfl⟩
            have ez : (rt : Int) / 10 = (z : Int) := by omega
            have b3 : ((cr : Int) == 14) = true := by rw [h14]; rfl
            have hzb : z ≤ 655350 := by omega
            clear h12 h13 h14 hz
            go_wp2_with fail
            refine (wk_word [] (N + 1) (N + 1) 16 _ z wh _ X13.out.1 X13.out.2 (by omega) (by omega) (by decide) (by omega)).mono ?_
            rintro e wz ⟨rfl, hsw, hbe⟩
            go_wp2_with fail
            go_meet
            exact ⟨rfl, ⟨n1 + 16, by omega, hsw⟩, hbe⟩
           ·have b3 : ((cr : Int) == 14) = false := by simp; omega
            clear h12 h13 h14
            go_wp2_with fail
            go_meet
            exact ⟨rfl, ⟨n1, by omega, X13.out.1⟩, X13.out.2⟩
        case rest =>
         obtain ⟨rfl, ⟨n2, hn2, hsw⟩, hbe⟩ := hcut
         obtain ⟨v, l, hk, hown, hbyte, hll, hne, _⟩ := hsw.row
         obtain ⟨A, c, rfl, hR⟩ := own_reads hown
         have c0 : wc.cell? ⟨N + 1, 0, none⟩ = some (.slice A l.length c) := by rw [cell_of_row wc (N + 1) 0 _ _ _ hk]; rfl
         obtain ⟨n, hn⟩ : ∃ n, l.length = n := ⟨_, rfl⟩
         rw [hn] at hown hR c0 hll
         have hnb : n ≤ 25 ∧ 0 < n := by omega
         clear hll
         have hc : n ≤ c := own_cap' hown
         obtain ⟨z, hz, hz2⟩ := sum_byte l hbyte
         have hbw : Below N w wc := HBH.out.trans ⟨hbe.os, hbe.tape, hbe.output, hbe.size, fun k hk => hbe.block k (by omega)⟩
         have hNw : N ≤ wc.heap.size := by have := hbe.size; have := HSH.out; omega
         have hcall : Calls Tryz.prog 53 #[.slice A n c] wc.drew fun e w' => e = .returned (.int .i64 z) ∧ w'.cell? ⟨N + 1, 0, none⟩ = some (.slice A n c) ∧ w'.ownsRow N 5 1 (.slice A n c) n (nums .u8 l) ∧ Below N w w' ∧ N ≤ w'.heap.size := by
          subst hn
          refine (crc8_call A c l wc.drew hR hc (by omega) hbyte).mono ?_
          rintro e w' ⟨he, q, rfl⟩
          exact ⟨by rw [he, hz], c0, (own_weaken hown (by omega : N ≤ N + 1)), (hbw.drew).drewN' q, hNw⟩
         have hwz : IntKind.u8.wrap (z : Int) = (z : Int) := by rw [IntKind.wrap_u8']; omega
         have HCALL := Lib.hid hcall
         have HBY := Lib.hid hbyte
         have HN2 := Lib.hid hn
         clear hown hbe hsw hk hne hR X13 hcall hbyte hbw hNw hz hn
         go_wp2_with fail
         go_region_law (first
          | (refine step_append_cells (w0 := w) N rfl (.tmp 167) (.tmp 174) 23 5 (.int .u8 0) 1 1 rfl rfl rfl rfl (by decide) (by decide) (.slice A n c) n (nums .u8 l) [.int .u8 z] rfl rfl rfl (by simp [Value.oneCell']) (by assumption) (by assumption) (by assumption) (by omega) ?_; intro v1 w1 hO1 hB1 hG1 hA1)
          | (go_simp; refine HCALL.out.mono ?_; rintro e w' ⟨rfl, k0, k1, k2, k3⟩; (have k4 := ((Touch.refl [] w').alloc (.cells #[.int .u8 z] 5)).cell k0 (by simp))))
         all_goals
          go_wp2_with fail
          go_ret
          refine ⟨by assumption, _, l ++ [(z : Int)], rfl, ?_, ?_, by simp, by have := HN2.out; simp; omega⟩
          ·have e : nums .u8 (l ++ [(z : Int)]) = nums .u8 l ++ [.int .u8 z] := by simp [nums]
           rw [e, List.length_append, HN2.out]
           assumption
          ·intro y hy
           rcases List.mem_append.1 hy with hy | hy
           ·exact HBY.out y hy
           ·rw [List.mem_singleton.1 hy]; omega
set_option maxHeartbeats 32000000 in
set_option maxRecDepth 100000 in
theorem write_head (vr pl : Bool) (sz rt asg bt nm : Nat) (w : World) (hsz : 1 ≤ sz) (hsz2 : sz ≤ 65535) (hrt : rt ≤ 655350) (hasg : asg ≤ 15) (hnm : nm < 68719476736) :
  Calls Tryz.prog 25 #[.agg #[.bool vr, .int .i64 sz, .int .i64 rt, .int .i64 asg, .int .i64 bt, .int .u64 nm], .bool pl] w fun e w' => Below w.heap.size w w' ∧ ∃ x l, e = .returned x ∧ w'.ownsRow w.heap.size 5 1 x l.length (nums .u8 l) ∧ (∀ y ∈ l, 0 ≤ y ∧ y ≤ 255) ∧ 0 < l.length ∧ l.length ≤ 30 := by
 obtain ⟨N, hN⟩ : ∃ N, w.heap.size = N := ⟨_, rfl⟩
 rw [hN]
 have HN := Lib.hid hN
 clear hN
 go_enter Tryz.func25, Tryz.ntmps25
 go_wp2_with fail
 obtain ⟨wh, hwh⟩ : ∃ wh, w.alloc (.cells #[.bool vr, .int .i64 sz, .int .i64 rt, .int .i64 asg, .int .i64 bt, .int .u64 nm] 32) = wh := ⟨_, rfl⟩
 have hsh : wh.heap.size = N + 1 := by rw [← hwh, World.size_alloc, HN.out]
 have hh0 : wh.heap[N]? = some (.cells #[.bool vr, .int .i64 sz, .int .i64 rt, .int .i64 asg, .int .i64 bt, .int .u64 nm] 32 (0, 0)) := by rw [← hwh, ← HN.out]; exact heap_alloc_new _ _
 have hbh : Below N w wh := by rw [← hwh]; exact (Below.refl _ _).alloc (by rw [HN.out]; omega) _
 rw [hwh, HN.out]
 obtain ⟨w1, hw1⟩ : ∃ w1, wh.alloc (.cells #[.slice none 0 0, .int .i64 0] 101) = w1 := ⟨_, rfl⟩
 rw [hw1]
 have hb1 : Below (N + 1) wh w1 := by rw [← hw1]; exact (Below.refl _ _).alloc (by omega) _
 have hs1 : Wk [] (N + 1) (N + 1) 0 w1 := ⟨⟨[], 0, 0⟩, ⟨⟨show 0 < 8 by decide, show 0 < 2 ^ 0 by decide⟩, Nat.le_refl _, .slice none 0 0, by rw [← hw1, ← hsh]; exact heap_alloc_new _ _, World.ownsRow_nil _ _ _ _, by simp [Value.ownBlock], by simp⟩, rfl, by simp⟩
 have HD := Lib.hid (fun wx (hb : Below (N + 1) wh wx) => show wx.cell? ⟨N, 0, none⟩ = some (.bool vr) ∧ wx.cell? ⟨N, 1, none⟩ = some (.int .i64 sz) ∧ wx.cell? ⟨N, 2, none⟩ = some (.int .i64 rt) ∧ wx.cell? ⟨N, 3, none⟩ = some (.int .i64 asg) ∧ wx.cell? ⟨N, 4, none⟩ = some (.int .i64 bt) ∧ wx.cell? ⟨N, 5, none⟩ = some (.int .u64 nm) by
  have h := (hb.block N (by omega)).trans hh0
  exact ⟨by rw [cell_of_row wx N 0 _ _ _ h]; rfl, by rw [cell_of_row wx N 1 _ _ _ h]; rfl, by rw [cell_of_row wx N 2 _ _ _ h]; rfl, by rw [cell_of_row wx N 3 _ _ _ h]; rfl, by rw [cell_of_row wx N 4 _ _ _ h]; rfl, by rw [cell_of_row wx N 5 _ _ _ h]; rfl⟩)
 have HSH := Lib.hid hsh
 have HBH := Lib.hid hbh
 have X1 := Lib.hid (And.intro hs1 hb1)
 clear hwh hsh hh0 hbh hw1 hb1 hs1
 refine (wk_word [] (N + 1) (N + 1) 15 _ 32764 wh w1 X1.out.1 X1.out.2 (by decide) (by decide) (by decide) (by decide)).mono ?_
 rintro e w2 ⟨rfl, hsw, hbe⟩
 have X2 := Lib.hid (And.intro hsw hbe)
 obtain ⟨h0, h1, h2, h3, h4, h5⟩ := HD.out w2 hbe
 clear hsw hbe X1
 go_upto_if 22 with fail
 go_cut [6] (fun v wx => v = .int .i64 (vr.toNat : Nat) ∧ wx = w2)
 case first =>
  cases vr
  ·go_wp2_with fail
   go_meet
   exact ⟨rfl, rfl⟩
  ·go_wp2_with fail
   go_meet
   exact ⟨rfl, rfl⟩
 case rest =>
  obtain ⟨rfl, rfl⟩ := hcut
  have hvr : vr.toNat < 2 := by cases vr <;> decide
  go_wp2_with fail
  refine (wk_word [] (N + 1) (N + 1) 1 _ vr.toNat wh wc X2.out.1 X2.out.2 (by omega) (by omega) (by decide) (by decide)).mono ?_
  rintro e w3 ⟨rfl, hsw, hbe⟩
  have X3 := Lib.hid (And.intro hsw hbe)
  clear h0 h1 h2 h3 h4 h5
  obtain ⟨h0, h1, h2, h3, h4, h5⟩ := HD.out w3 hbe
  clear hsw hbe X2
  go_upto_if 28 with fail
  go_cut [7] (fun v wx => ∃ cs : Nat, cs < 16 ∧ v = .int .i64 cs ∧ wx = w3)
  case first =>
   by_cases h256 : sz ≤ 256
   ·go_wp2_with fail
    go_meet
    exact ⟨6, by omega, rfl, rfl⟩
   ·go_wp2_with fail
    go_meet
    exact ⟨7, by omega, rfl, rfl⟩
  case rest =>
   obtain ⟨cs0, hcs0, rfl, rfl⟩ := hcut
   go_wp2_with fail
   go_loopw [7, 8] (fun sv kv wr => ∃ cs k : Nat, cs < 16 ∧ sv = .int .i64 cs ∧ kv = .int .i64 k ∧ 1 ≤ k ∧ k ≤ 16 ∧ Wk [] (N + 1) (N + 1) 16 wr ∧ Below (N + 1) wh wr) (fun _ kv _ => 16 - (intOf kv).toNat)
   case atStart => exact ⟨cs0, 1, hcs0, rfl, rfl, by omega, by omega, X3.out⟩
   case round =>
    obtain ⟨cs, k, hcs, rfl, rfl, hk1, hk16, hsw, hbe⟩ := hrel
    have X := Lib.hid (And.intro hsw hbe)
    clear hsw hbe h0 h1 h2 h3 h4 h5
    by_cases hk : k < 16
    ·obtain ⟨z, hz⟩ : ∃ z, szOf k = z := ⟨_, rfl⟩
     have hcall : ∀ wx, Calls Tryz.prog 51 #[.int .i64 k] wx fun e w' => e = .returned (.int .i64 z) ∧ ∃ n, w' = wx.drewN n := fun wx => by rw [← hz]; exact sizeOf_call k hk wx
     have HCALL := Lib.hid hcall
     clear hcall hz
     have hd1 : wr.drew.cell? ⟨N, 1, none⟩ = some (.int .i64 sz) := (HD.out wr X.out.2).2.1
     have hdn : ∀ n, (wr.drew.drewN n).cell? ⟨N, 1, none⟩ = some (.int .i64 sz) := fun n => hd1
     obtain ⟨gb, hgb⟩ : ∃ gb, ((z : Int) == (sz : Int)) = gb := ⟨_, rfl⟩
     go_upto_region 13 with fail
     go_cut [41] (fun v wx => (∃ b, v = .bool b) ∧ Touch [] wr wx)
     case first =>
      cases pl
      ·have hzq : ∀ n, (wr.drew.drewN n).drew = wr.drew.drewN (n + 1) := fun n => rfl
       go_region_with (first | (refine (HCALL.out _).mono ?_; rintro e w' ⟨rfl, hq⟩; (have kq : w'.cell? ⟨N, 1, none⟩ = some (.int .i64 sz) := by obtain ⟨n, rfl⟩ := hq; exact hd1); (have HQ := Lib.hid hq); clear hq))
       all_goals
        go_wp2_with fail
        go_meet
        obtain ⟨q, hq⟩ := HQ.out
        rw [hq]
        exact ⟨⟨_, rfl⟩, ((Touch.refl _ _).drew).drewN _⟩
      ·first | (go_region_with (fail)) | fail
       all_goals
        go_wp2_with fail
        go_meet
        exact ⟨⟨_, rfl⟩, (Touch.refl _ _).drew⟩
     case rest =>
      obtain ⟨⟨b, rfl⟩, tq⟩ := hcut
      cases b <;> go_wp2_with fail
      all_goals
       go_roundw
       case rel => first | exact ⟨k, k + 1, by omega, rfl, by go_num, by omega, by omega, X.out.1.move tq (by simp) (by simp), X.out.2.touch0 tq (by rw [HSH.out]; exact Nat.le_refl _)⟩ | exact ⟨cs, k + 1, by omega, rfl, by go_num, by omega, by omega, X.out.1.move tq (by simp) (by simp), X.out.2.touch0 tq (by rw [HSH.out]; exact Nat.le_refl _)⟩
       case measure => simp [intOf]; omega
    ·obtain rfl : k = 16 := by omega
     have hd2 : wr.cell? ⟨N, 2, none⟩ = some (.int .i64 rt) := (HD.out wr X.out.2).2.2.1
     go_upto_block 2 with fail
     go_cut [9] (fun v wx => ∃ cr : Nat, cr < 16 ∧ v = .int .i64 cr ∧ wx = wr)
     case first =>
      obtain ⟨m, hm⟩ : ∃ m, rt % 1000 = m := ⟨_, rfl⟩
      obtain ⟨d, hd⟩ : ∃ d, rt / 1000 = d := ⟨_, rfl⟩
      have em : (rt : Int) % 1000 = (m : Int) := by omega
      have ed : (rt : Int) / 1000 = (d : Int) := by omega
      clear hm hd
      by_cases hr0 : rt = 0
      ·have e0 : ((rt : Int) == 0) = true := by simp; omega
       clear hr0
       go_wp2_with fail
       go_meet
       exact ⟨0, by omega, rfl, rfl⟩
      ·have e0 : ((rt : Int) == 0) = false := by simp; omega
       by_cases hr1 : m = 0
       ·have e1 : ((m : Int) == 0) = true := by simp; omega
        clear hr1 hr0
        by_cases hr2 : d < 256
        ·have e2 : decide ((d : Int) < 256) = true := by simp; omega
         clear hr2
         go_wp2_with fail
         go_meet
         exact ⟨12, by omega, rfl, rfl⟩
        ·have e2 : decide ((d : Int) < 256) = false := by simp; omega
         clear hr2
         by_cases hr3 : rt < 65536
         ·have e3 : decide ((rt : Int) < 65536) = true := by simp; omega
          clear hr3
          go_wp2_with fail
          go_meet
          exact ⟨13, by omega, rfl, rfl⟩
         ·have e3 : decide ((rt : Int) < 65536) = false := by simp; omega
          clear hr3
          go_wp2_with fail
          go_meet
          exact ⟨14, by omega, rfl, rfl⟩
       ·have e1 : ((m : Int) == 0) = false := by simp; omega
        clear hr1 hr0
        by_cases hr3 : rt < 65536
        ·have e3 : decide ((rt : Int) < 65536) = true := by simp; omega
         clear hr3
         go_wp2_with fail
         go_meet
         exact ⟨13, by omega, rfl, rfl⟩
        ·have e3 : decide ((rt : Int) < 65536) = false := by simp; omega
         clear hr3
         go_wp2_with fail
         go_meet
         exact ⟨14, by omega, rfl, rfl⟩
     case rest =>
      obtain ⟨cr0, hcr0, rfl, rfl⟩ := hcut
      clear hd2
      rename_i hKK
      refine hKK _ _ ?_
      exact wh_tail hsz hsz2 hrt hasg hnm hcs hcr0 HD HSH HBH X
end Go.Proofs.YtmcllndnjdemaaaGreatDoor.Walk
