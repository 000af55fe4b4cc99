/- The package's subframes: encodeSubframe writes subBits. -/
import Derived.Test.YtmcllndnjdemaaaGreatDoorEl
import Derived.Defers
namespace Go.Proofs.YtmcllndnjdemaaaGreatDoor.Walk
set_option linter.unusedVariables false
set_option linter.unusedSimpArgs false
open Go Go.RowKit Go.Proofs.YtmcllndnjdemaaaGreatDoorW.PrintWords Go.Proofs.YtmcllndnjdemaaaGreatDoorW.PrintLast Go.Proofs.YtmcllndnjdemaaaGreatDoorW.PrintMore Go.Proofs.YtmcllndnjdemaaaGreatDoor.Num
variable {ty fn g B : Nat} {S : List Nat} {St : World → List Int → Prop}
theorem bts_low (x : Int) (n v : Nat) (hn : n ≤ 64) (hv : x % 18446744073709551616 = (v : Int)) : bts v n = bts (low x n) n := by
 have h : low x n = v % 2 ^ n := by
  unfold low
  have e : x % (2 ^ n : Int) = ((v % 2 ^ n : Nat) : Int) := by
   have h1 : ((2 ^ n : Int)) ∣ 18446744073709551616 := by
    refine ⟨(2 : Int) ^ (64 - n), ?_⟩
    rw [← Int.pow_add, show n + (64 - n) = 64 by omega]; rfl
   rw [← Int.emod_emod_of_dvd x h1, hv]
   simp
  rw [e, Int.toNat_natCast]
 rw [h, bts_mod v n n (Nat.le_refl _)]
theorem wrap_u64n (x : Int) : ∃ v : Nat, IntKind.u64.wrap x = (v : Int) ∧ v < 18446744073709551616 ∧ ∀ n, n ≤ 64 → bts v n = bts (low x n) n := by
 have h : IntKind.u64.wrap x = x % 18446744073709551616 := by simp [IntKind.wrap, IntKind.bits, IntKind.signed]
 refine ⟨(x % 18446744073709551616).toNat, by rw [h]; omega, by omega, fun n hn => bts_low x n _ hn (by omega)⟩
set_option maxHeartbeats 4000000 in
set_option maxRecDepth 100000 in
theorem enc_const {R : Snk ty fn g B S St} {pre : List Int} {gw : Nat} {bs : List Nat} {w : World} (h : Wb R pre gw bs w) (hB : B ≤ w.heap.size) (hp : pre.length ≤ 30000000000000) (hl : bs.length ≤ 20000000000000)
  {gs ga gr gp o bits size : Nat} {xs : List Int} (fx : Bool) (sz rt ch bp nm : Nat) (hm : SubMem w gs ga gr gp 0 o xs) (hn : ∀ q ∈ [gs, ga, gr, gp], q ∉ gw :: S) (ok : SubOk bits size 0 o xs) :
  Calls Tryz.prog 86 #[.pointer (some ⟨gw, 0, none⟩), .agg #[.bool fx, .int .u16 sz, .int .u32 rt, .int .u8 ch, .int .u8 bp, .int .u64 nm], .pointer (some ⟨gs, 0, none⟩), .int .u64 bits] w fun e w' =>
   e = .returned .nilIface ∧ Wb R pre gw (bs ++ bts (low (xs.getD 0 0) bits) bits) w' ∧ Kp B (gw :: S) w w' := by
 obtain ⟨wa, hwa⟩ : ∃ wa, w.alloc (.cells #[.bool fx, .int .u16 sz, .int .u32 rt, .int .u8 ch, .int .u8 bp, .int .u64 nm] 77) = wa := ⟨_, rfl⟩
 have ba : Below w.heap.size w wa := by rw [← hwa]; exact below_alloc (Below.refl _ _) _
 have ta : Touch [] w wa := Touch.of_below ba
 have hka : Kp B (gw :: S) w wa := (Kp.of_touch ta (by simp) hB).mono (by simp)
 have hgh : wa.heap[w.heap.size]? = some (.cells #[.bool fx, .int .u16 sz, .int .u32 rt, .int .u8 ch, .int .u8 bp, .int .u64 nm] 77 (0, 0)) := by rw [← hwa]; exact heap_alloc_new _ _
 have hma := hm.below ba
 obtain ⟨_, c1, _, ⟨ca, c8, hca⟩, c9⟩ := hma.cells
 have HH := Lib.hid (h.move ta (by simp))
 have HM := Lib.hid hma
 have HR := Lib.hid hma.row
 have HOK := Lib.hid ok
 have HN := Lib.hid hn
 have HKA := Lib.hid hka
 obtain ⟨n, hln⟩ : ∃ n, xs.length = n := ⟨_, rfl⟩
 have HNX := Lib.hid hln
 have HB := Lib.hid hB
 have hBa : B ≤ wa.heap.size := Nat.le_trans hB ta.size
 have hb1 := ok.b0
 have hb2 := ok.b1
 have hn1 := ok.s0
 have hn2 := ok.s1
 have hns := ok.len
 rw [hln] at c8 hca c9 hns
 rw [← hns] at hn1 hn2
 have HNS := Lib.hid hns
 have hc0 := HR.out.cell 0 (by rw [hln]; exact hn1)
 obtain ⟨x, hx⟩ : ∃ x, xs.getD 0 0 = x := ⟨_, rfl⟩
 rw [hx] at hc0
 have HX := Lib.hid hx
 obtain ⟨v, hv, hvl, hvb⟩ := wrap_u64n x
 have HBL := Lib.hid (hvb bits (by omega))
 have HV := Lib.hid (And.intro hv hvl)
 clear hvl hvb
 clear h hm hn ok hka hma hln hx hns ba ta hgh c9 c1 hB
 by_cases hc1 : ca = 1
 ·obtain rfl : n = 1 := by omega
  subst hc1
  go_enter Tryz.func86, Tryz.ntmps86
  go_wp2_with fail
  refine wp_loop_rounds 1 ?_
  rw [rounds_succ]
  go_wp2_with fail
  refine (wb_bits HH.out hBa v bits HV.out.2 (by omega) hp (by omega)).mono ?_
  rintro e w1 ⟨rfl, hb, hk⟩
  rw [HBL.out, ← HX.out] at hb
  have X1 := Lib.hid (And.intro hb (HKA.out.trans hk))
  clear hb hk
  go_wp2_with fail
  go_ret
  exact ⟨rfl, X1.out⟩
 ·go_enter Tryz.func86, Tryz.ntmps86
  go_wp2_with fail
  go_loop [24] (fun jv => ∃ j : Nat, j ≤ n - 1 ∧ jv = .int .i64 j) (fun jv => n - (intOf jv).toNat)
  case atStart => exact ⟨0, by omega, rfl⟩
  case round =>
   obtain ⟨j, hj, rfl⟩ := hrel
   by_cases hlt : j < n - 1
   ·have hcj := HR.out.cell (1 + j) (by rw [HNX.out]; omega)
    have hxj : xs.getD (1 + j) 0 = x := by
     rw [← HX.out]
     have h1 := HOK.out.same rfl (xs.getD (1 + j) 0) (by
      rw [List.getD_eq_getElem?_getD, List.getElem?_eq_getElem (by rw [HNX.out]; omega)]; exact List.getElem_mem _)
     exact h1
    rw [hxj] at hcj
    clear hxj
    go_wp2_with fail
    go_round
    case rel => exact ⟨j + 1, by omega, by go_num⟩
    case measure => simp [intOf]; omega
   ·obtain rfl : j = n - 1 := by omega
    go_wp2_with fail
    refine (wb_bits HH.out hBa v bits HV.out.2 (by omega) hp (by omega)).mono ?_
    rintro e w1 ⟨rfl, hb, hk⟩
    rw [HBL.out, ← HX.out] at hb
    have X1 := Lib.hid (And.intro hb (HKA.out.trans hk))
    clear hb hk
    go_wp2_with fail
    go_ret
    exact ⟨rfl, X1.out⟩
theorem sampBits_snoc (n : Nat) (x : Int) : ∀ l, sampBits n (l ++ [x]) = sampBits n l ++ bts (low x n) n
 | [] => by simp [sampBits]
 | y :: l => by rw [List.cons_append, sampBits, sampBits, sampBits_snoc n x l, List.append_assoc]
set_option maxHeartbeats 4000000 in
set_option maxRecDepth 100000 in
theorem enc_verb {R : Snk ty fn g B S St} {pre : List Int} {gw : Nat} {bs : List Nat} {w : World} (h : Wb R pre gw bs w) (hB : B ≤ w.heap.size) (hp : pre.length ≤ 30000000000000) (hl : bs.length ≤ 20000000000000)
  {gs ga gr gp o bits size : Nat} {xs : List Int} (fx : Bool) (sz rt ch bp nm : Nat) (hm : SubMem w gs ga gr gp 1 o xs) (hn : ∀ q ∈ [gs, ga, gr, gp], q ∉ gw :: S) (ok : SubOk bits size 1 o xs) (hsz : sz = xs.length) :
  Calls Tryz.prog 87 #[.pointer (some ⟨gw, 0, none⟩), .agg #[.bool fx, .int .u16 sz, .int .u32 rt, .int .u8 ch, .int .u8 bp, .int .u64 nm], .pointer (some ⟨gs, 0, none⟩), .int .u64 bits] w fun e w' =>
   e = .returned .nilIface ∧ Wb R pre gw (bs ++ sampBits bits xs) w' ∧ Kp B (gw :: S) w w' := by
 obtain ⟨wa, hwa⟩ : ∃ wa, w.alloc (.cells #[.bool fx, .int .u16 sz, .int .u32 rt, .int .u8 ch, .int .u8 bp, .int .u64 nm] 77) = wa := ⟨_, rfl⟩
 have ba : Below w.heap.size w wa := by rw [← hwa]; exact below_alloc (Below.refl _ _) _
 have ta : Touch [] w wa := Touch.of_below ba
 have hka : Kp B (gw :: S) w wa := (Kp.of_touch ta (by simp) hB).mono (by simp)
 have hgh : wa.heap[w.heap.size]? = some (.cells #[.bool fx, .int .u16 sz, .int .u32 rt, .int .u8 ch, .int .u8 bp, .int .u64 nm] 77 (0, 0)) := by rw [← hwa]; exact heap_alloc_new _ _
 have hma := hm.below ba
 obtain ⟨_, c1, _, ⟨ca, c8, hca⟩, c9⟩ := hma.cells
 have HH := Lib.hid (h.move ta (by simp))
 have HM := Lib.hid hma
 have HR := Lib.hid hma.row
 have HOK := Lib.hid ok
 have HN := Lib.hid hn
 have HKA := Lib.hid hka
 obtain ⟨n, hln⟩ : ∃ n, xs.length = n := ⟨_, rfl⟩
 have HNX := Lib.hid hln
 have HB := Lib.hid hB
 have hBa : B ≤ wa.heap.size := Nat.le_trans hB ta.size
 have hb1 := ok.b0
 have hb2 := ok.b1
 have hn1 := ok.s0
 have hn2 := ok.s1
 have hns := ok.len
 rw [hln] at c8 hca c9 hns
 rw [← hns] at hn1 hn2
 have HNS := Lib.hid hns
 have g1 : wa.cell? ⟨w.heap.size, 1, none⟩ = some (.int .u16 sz) := by rw [cell_of_row wa w.heap.size 1 _ _ _ hgh]; rfl
 rw [hsz, hln] at g1
 rw [hsz, hln] at hwa ⊢
 have X0 := Lib.hid (And.intro HH.out (And.intro hka hma))
 clear h hm hn ok hka hma hln hns ba ta hgh c9 c1 hB hsz
 go_enter Tryz.func87, Tryz.ntmps87
 go_wp2_with fail
 go_loopw [26] (fun jv wr => ∃ j : Nat, j ≤ n ∧ jv = .int .i64 j ∧ Wb R pre gw (bs ++ sampBits bits (xs.take j)) wr ∧ Kp B (gw :: S) w wr ∧ SubMem wr gs ga gr gp 1 o xs) (fun jv _ => n - (intOf jv).toNat)
 case atStart => exact ⟨0, by omega, rfl, by rw [List.take_zero, sampBits, List.append_nil]; exact X0.out⟩
 case round =>
  obtain ⟨j, hj, rfl, hb, hk, hm⟩ := hrel
  have X := Lib.hid (And.intro hb (And.intro hk hm))
  clear hb hk hm
  by_cases hlt : j < n
  ·have hdummy := hlt
   have hjr : j < xs.length := by rw [HNX.out]; omega
   obtain ⟨x, hxj⟩ : ∃ x, xs.getD j 0 = x := ⟨_, rfl⟩
   have hcj := X.out.2.2.row.cell j hjr
   rw [hxj] at hcj
   have hge : xs[j] = x := by rw [← hxj, List.getD_eq_getElem?_getD, List.getElem?_eq_getElem hjr]; rfl
   have ht1 : xs.take (j + 1) = xs.take j ++ [x] := by rw [← hge]; exact List.take_succ_eq_append_getElem hjr
   have HT := Lib.hid ht1
   obtain ⟨v, hv, hvl, hvb⟩ := wrap_u64n x
   have HBL := Lib.hid (hvb bits (by omega))
   have HV := Lib.hid (And.intro hv hvl)
   have hmul : bits * j ≤ 25 * 65536 := Nat.mul_le_mul hb2 (by omega)
   have HO := Lib.hid (wb_bits X.out.1 (Nat.le_trans HB.out X.out.2.1.bel.size) v bits hvl (by omega) hp (by rw [List.length_append, sampBits_len, List.length_take, Nat.min_eq_left (by omega)]; omega))
   clear hvl hvb hxj hge ht1 hjr hmul
   go_wp2_with fail
   refine HO.out.mono ?_
   rintro e w5 ⟨rfl, hb, hk⟩
   rw [HBL.out, List.append_assoc, ← sampBits_snoc, ← HT.out] at hb
   have Y := Lib.hid (And.intro hb (And.intro (X.out.2.1.trans hk) (X.out.2.2.keep hk HN.out)))
   clear hb hk HO
   go_wp2_with fail
   go_roundw
   case rel => exact ⟨j + 1, by omega, by go_num, Y.out⟩
   case measure => simp [intOf]; omega
  ·obtain rfl : j = n := by omega
   go_wp2_with fail
   go_ret
   have hb := X.out.1
   rw [List.take_of_length_le (by rw [HNX.out]; exact Nat.le_refl _)] at hb
   exact ⟨rfl, hb, X.out.2.1⟩
theorem lpc {gs ga gr gp K o : Nat} {xs : List Int} {w : World} {A : Option Addr} (hm : SubMem w gs ga gr gp K o xs) (ho4 : o ≤ 4) (hA : o = 0 → A = none) (hA2 : 0 < o → ∃ gc, A = some ⟨gc, 0, none⟩ ∧ Row32 w gc (cf o)) (hx : xs.length ≤ 65536) (hol : o < xs.length) (hb : ∀ m, -16777216 ≤ xs.getD m 0 ∧ xs.getD m 0 ≤ 16777216) :
  Calls Tryz.prog 108 #[.pointer (some ⟨gs, 0, none⟩), .slice A o o, .int .i32 0] w fun e w' => Below w.heap.size w w' ∧ ∃ ge cr, e = .returned (.tuple #[.slice (some ⟨ge, 0, none⟩) (rests o xs).length cr, .nilIface]) ∧ w.heap.size ≤ ge ∧ Row32 w' ge (rests o xs) := by
 by_cases h0 : o = 0
 ·obtain rfl := hA h0
  subst h0
  exact lpc_zero hm hx hol hb
 ·obtain ⟨gc, rfl, hc⟩ := hA2 (by omega)
  exact lpc_more hm (by omega) ho4 hc hx hol hb
set_option maxHeartbeats 4000000 in
set_option maxRecDepth 100000 in
theorem enc_fixed {R : Snk ty fn g B S St} {pre : List Int} {gw : Nat} {bs : List Nat} {w : World} (h : Wb R pre gw bs w) (hB : B ≤ w.heap.size) (hp : pre.length ≤ 30000000000000) (hl : bs.length ≤ 20000000000000)
  {gs ga gr gp o bits size : Nat} {xs : List Int} (fx : Bool) (sz rt ch bp nm : Nat) (hm : SubMem w gs ga gr gp 2 o xs) (hn : ∀ q ∈ [gs, ga, gr, gp], q ∉ gw :: S) (ok : SubOk bits size 2 o xs) :
  Calls Tryz.prog 88 #[.pointer (some ⟨gw, 0, none⟩), .agg #[.bool fx, .int .u16 sz, .int .u32 rt, .int .u8 ch, .int .u8 bp, .int .u64 nm], .pointer (some ⟨gs, 0, none⟩), .int .u64 bits] w fun e w' =>
   e = .returned .nilIface ∧ Wb R pre gw (bs ++ (sampBits bits (xs.take o) ++ (bts 0 2 ++ (bts 0 4 ++ (bts 12 4 ++ riceBits (rests o xs)))))) w' ∧ Kp B (gw :: S) w w' := by
 obtain ⟨wa, hwa⟩ : ∃ wa, w.alloc (.cells #[.bool fx, .int .u16 sz, .int .u32 rt, .int .u8 ch, .int .u8 bp, .int .u64 nm] 77) = wa := ⟨_, rfl⟩
 have ba : Below w.heap.size w wa := by rw [← hwa]; exact below_alloc (Below.refl _ _) _
 have ta : Touch [] w wa := Touch.of_below ba
 have hka : Kp B (gw :: S) w wa := (Kp.of_touch ta (by simp) hB).mono (by simp)
 have hgh : wa.heap[w.heap.size]? = some (.cells #[.bool fx, .int .u16 sz, .int .u32 rt, .int .u8 ch, .int .u8 bp, .int .u64 nm] 77 (0, 0)) := by rw [← hwa]; exact heap_alloc_new _ _
 have hma := hm.below ba
 obtain ⟨_, c1, _, ⟨ca, c8, hca⟩, c9⟩ := hma.cells
 have HH := Lib.hid (h.move ta (by simp))
 have HM := Lib.hid hma
 have HR := Lib.hid hma.row
 have HOK := Lib.hid ok
 have HN := Lib.hid hn
 have HKA := Lib.hid hka
 obtain ⟨n, hln⟩ : ∃ n, xs.length = n := ⟨_, rfl⟩
 have HNX := Lib.hid hln
 have HB := Lib.hid hB
 have hBa : B ≤ wa.heap.size := Nat.le_trans hB ta.size
 have hb1 := ok.b0
 have hb2 := ok.b1
 have hn1 := ok.s0
 have hn2 := ok.s1
 have hns := ok.len
 rw [hln] at c8 hca c9 hns
 rw [← hns] at hn1 hn2
 have HNS := Lib.hid hns
 have X0 := Lib.hid (And.intro HH.out (And.intro hka hma))
 obtain ⟨ho4, hon⟩ := ok.ord rfl
 rw [← hns] at hon
 clear h hm hn ok hka hma hln hns ba ta hgh c9 c1 hB
 go_enter Tryz.func88, Tryz.ntmps88
 go_wp2_with fail
 go_loopw [10] (fun jv wr => ∃ j : Nat, j ≤ o ∧ jv = .int .i64 j ∧ Wb R pre gw (bs ++ sampBits bits (xs.take j)) wr ∧ Kp B (gw :: S) w wr ∧ SubMem wr gs ga gr gp 2 o xs) (fun jv _ => o - (intOf jv).toNat)
 case atStart => exact ⟨0, by omega, rfl, by rw [List.take_zero, sampBits, List.append_nil]; exact X0.out⟩
 case round =>
  obtain ⟨j, hj, rfl, hb, hk, hm⟩ := hrel
  obtain ⟨_, c1, _, _, _⟩ := hm.cells
  have X := Lib.hid (And.intro hb (And.intro hk hm))
  clear hb hk hm
  by_cases hlt : j < o
  ·have hdummy := hlt
   have hjr : j < xs.length := by rw [HNX.out]; omega
   obtain ⟨x, hxj⟩ : ∃ x, xs.getD j 0 = x := ⟨_, rfl⟩
   have hcj := X.out.2.2.row.cell j hjr
   rw [hxj] at hcj
   have hge : xs[j] = x := by rw [← hxj, List.getD_eq_getElem?_getD, List.getElem?_eq_getElem hjr]; rfl
   have ht1 : xs.take (j + 1) = xs.take j ++ [x] := by rw [← hge]; exact List.take_succ_eq_append_getElem hjr
   have HT := Lib.hid ht1
   obtain ⟨v, hv, hvl, hvb⟩ := wrap_u64n x
   have HBL := Lib.hid (hvb bits (by omega))
   have HV := Lib.hid (And.intro hv hvl)
   have hmul : bits * j ≤ 25 * 65536 := Nat.mul_le_mul hb2 (by omega)
   have HO := Lib.hid (wb_bits X.out.1 (Nat.le_trans HB.out X.out.2.1.bel.size) v bits hvl (by omega) hp (by rw [List.length_append, sampBits_len, List.length_take, Nat.min_eq_left (by omega)]; omega))
   clear hvl hvb hxj hge ht1 hjr hmul
   go_wp2_with fail
   refine HO.out.mono ?_
   rintro e w5 ⟨rfl, hb, hk⟩
   rw [HBL.out, List.append_assoc, ← sampBits_snoc, ← HT.out] at hb
   have Y := Lib.hid (And.intro hb (And.intro (X.out.2.1.trans hk) (X.out.2.2.keep hk HN.out)))
   clear hb hk HO
   go_wp2_with fail
   go_roundw
   case rel => exact ⟨j + 1, by omega, by go_num, Y.out⟩
   case measure => simp [intOf]; omega
  ·obtain rfl : o = j := by omega
   go_wp2_with fail
   refine (fixed_cf o ho4 wr).mono ?_
   rintro e w1 ⟨hb1, A, rfl, hA, hA2⟩
   have hm1 := X.out.2.2.below hb1
   have T1 := Lib.hid (And.intro hb1 (And.intro hm1 (And.intro hA hA2)))
   clear hb1 hm1 hA hA2
   go_wp2_with fail
   refine (lpc T1.out.2.1 ho4 T1.out.2.2.1 T1.out.2.2.2 (by rw [HNX.out]; exact hn2) (by rw [HNX.out]; exact hon) HOK.out.getD).mono ?_
   rintro e w2 ⟨hb2, ge, cr, rfl, hge, hrow⟩
   have hb12 : Below wr.heap.size wr w2 := T1.out.1.trans ⟨hb2.os, hb2.tape, hb2.output, hb2.size, fun k hk => hb2.block k (Nat.lt_of_lt_of_le hk T1.out.1.size)⟩
   have hwb2 := X.out.1.move (U := []) (Touch.of_below hb12) (by simp)
   have hk2 : Kp B (gw :: S) wr w2 := (Kp.of_touch (S := []) (Touch.of_below hb12) (by simp) (Nat.le_trans HB.out X.out.2.1.bel.size)).mono (by simp)
   have hm2 := X.out.2.2.below hb12
   have hgn : ge ∉ gw :: S := fun hm => by
    have h0 := T1.out.1.size
    rcases List.mem_cons.1 hm with e | hm
    ·have := X.out.1.base.2; omega
    ·obtain ⟨s, hs, _⟩ := X.out.1
     have := (R.lt wr _ hs.st _ hm).1
     omega
   have hmul : bits * o ≤ 25 * 65536 := Nat.mul_le_mul HOK.out.b1 (by omega)
   have HO := Lib.hid (enc_residuals hwb2 (Nat.le_trans HB.out (Nat.le_trans X.out.2.1.bel.size hb12.size)) hp (by rw [List.length_append, sampBits_len, List.length_take, Nat.min_eq_left (by rw [HNX.out]; omega)]; omega) cr hm2 hrow (fun q hq => by
    simp only [List.mem_cons, List.not_mem_nil, or_false] at hq
    rcases hq with rfl | rfl | rfl | rfl | rfl
    ·exact HN.out _ (by simp)
    ·exact HN.out _ (by simp)
    ·exact HN.out _ (by simp)
    ·exact HN.out _ (by simp)
    ·exact hgn) (by rw [rests_len]; have := HNX.out; omega) (by rw [HNX.out]; exact hn2) (rests_bound HOK.out))
   have X2 := Lib.hid (X.out.2.1.trans hk2)
   clear hb2 hge hrow hb12 hwb2 hk2 hm2 hgn hmul
   go_wp2_with fail
   refine HO.out.mono ?_
   rintro e w3 ⟨rfl, hb, hk⟩
   rw [List.append_assoc] at hb
   have X3 := Lib.hid (And.intro hb (X2.out.trans hk))
   clear hb hk
   go_wp2_with fail
   go_ret
   exact ⟨rfl, X3.out⟩
set_option maxHeartbeats 4000000 in
set_option maxRecDepth 100000 in
theorem sub_head0 {R : Snk ty fn g B S St} {pre : List Int} {gw : Nat} {bs : List Nat} {w : World} (h : Wb R pre gw bs w) (hB : B ≤ w.heap.size) (hp : pre.length ≤ 30000000000000) (hl : bs.length ≤ 20000000000000)
  (o gr : Nat) (cfv : Value) (ho : o ≤ 4) :
  Calls Tryz.prog 84 #[.pointer (some ⟨gw, 0, none⟩), .agg #[.int .u8 0, .int .i64 o, .int .u64 0, .int .u8 0, .int .u64 1, .int .i32 0, cfv, .pointer (some ⟨gr, 0, none⟩)]] w fun e w' =>
   e = .returned .nilIface ∧ Wb R pre gw (((bs ++ bts 0 1) ++ bts (0) 6) ++ bts 0 1) w' ∧ Kp B (gw :: S) w w' := by
 obtain ⟨wa, hwa⟩ : ∃ wa, w.alloc (.cells #[.int .u8 0, .int .i64 o, .int .u64 0, .int .u8 0, .int .u64 1, .int .i32 0, cfv, .pointer (some ⟨gr, 0, none⟩)] 133) = wa := ⟨_, rfl⟩
 have ba : Below w.heap.size w wa := by rw [← hwa]; exact below_alloc (Below.refl _ _) _
 have ta : Touch [] w wa := Touch.of_below ba
 have hka : Kp B (gw :: S) w wa := (Kp.of_touch ta (by simp) hB).mono (by simp)
 obtain ⟨gh, hgh⟩ : ∃ gh, w.heap.size = gh := ⟨_, rfl⟩
 have hbl : wa.heap[gh]? = some (.cells #[.int .u8 0, .int .i64 o, .int .u64 0, .int .u8 0, .int .u64 1, .int .i32 0, cfv, .pointer (some ⟨gr, 0, none⟩)] 133 (0, 0)) := by rw [← hwa, ← hgh]; exact heap_alloc_new _ _
 have hgn : gh ∉ gw :: S := fun hm => by
  rcases List.mem_cons.1 hm with e | hm
  ·have := h.base.2; omega
  ·obtain ⟨s, hs, _⟩ := h
   have := (R.lt w _ hs.st _ hm).1; omega
 have X0 := Lib.hid (And.intro (h.move ta (by simp)) (And.intro hka hbl))
 have HGN := Lib.hid hgn
 have hBa : B ≤ wa.heap.size := Nat.le_trans hB ta.size
 have HB := Lib.hid hB
 clear h hka hbl ta ba hgn hB
 go_enter Tryz.func84, Tryz.ntmps84
 go_wp2_with fail
 refine (wb_bits X0.out.1 hBa 0 1 (by omega) (by omega) hp (by omega)).mono ?_
 rintro e w1 ⟨rfl, hb, hk⟩
 have hh := hk.keep gh _ X0.out.2.2 HGN.out (notU8 (by decide))
 have c0 : w1.cell? ⟨gh, 0, none⟩ = some (.int .u8 0) := by rw [cell_of_row w1 gh 0 _ _ _ hh]; rfl
 have c1 : w1.cell? ⟨gh, 1, none⟩ = some (.int .i64 o) := by rw [cell_of_row w1 gh 1 _ _ _ hh]; rfl
 have X1 := Lib.hid (And.intro hb (And.intro (X0.out.2.1.trans hk) hh))
 clear hb hk hh
 go_wp2_with fail
 refine (wb_bits X1.out.1 (Nat.le_trans HB.out X1.out.2.1.bel.size) (0) 6 (by omega) (by omega) hp (by rw [List.length_append, bts_len]; omega)).mono ?_
 rintro e w2 ⟨rfl, hb, hk⟩
 have hh := hk.keep gh _ X1.out.2.2 HGN.out (notU8 (by decide))
 have c2 : w2.cell? ⟨gh, 2, none⟩ = some (.int .u64 0) := by rw [cell_of_row w2 gh 2 _ _ _ hh]; rfl
 have X2 := Lib.hid (And.intro hb (And.intro (X1.out.2.1.trans hk) hh))
 clear hb hk hh
 go_wp2_with fail
 refine (wb_bool X2.out.1 (Nat.le_trans HB.out X2.out.2.1.bel.size) false hp (by simp only [List.length_append, bts_len]; omega)).mono ?_
 rintro e w3 ⟨rfl, hb, hk⟩
 have X3 := Lib.hid (And.intro hb (X2.out.2.1.trans hk))
 clear hb hk
 go_wp2_with fail
 go_ret
 exact ⟨rfl, X3.out⟩
set_option maxHeartbeats 4000000 in
set_option maxRecDepth 100000 in
theorem sub_head1 {R : Snk ty fn g B S St} {pre : List Int} {gw : Nat} {bs : List Nat} {w : World} (h : Wb R pre gw bs w) (hB : B ≤ w.heap.size) (hp : pre.length ≤ 30000000000000) (hl : bs.length ≤ 20000000000000)
  (o gr : Nat) (cfv : Value) (ho : o ≤ 4) :
  Calls Tryz.prog 84 #[.pointer (some ⟨gw, 0, none⟩), .agg #[.int .u8 1, .int .i64 o, .int .u64 0, .int .u8 0, .int .u64 1, .int .i32 0, cfv, .pointer (some ⟨gr, 0, none⟩)]] w fun e w' =>
   e = .returned .nilIface ∧ Wb R pre gw (((bs ++ bts 0 1) ++ bts (1) 6) ++ bts 0 1) w' ∧ Kp B (gw :: S) w w' := by
 obtain ⟨wa, hwa⟩ : ∃ wa, w.alloc (.cells #[.int .u8 1, .int .i64 o, .int .u64 0, .int .u8 0, .int .u64 1, .int .i32 0, cfv, .pointer (some ⟨gr, 0, none⟩)] 133) = wa := ⟨_, rfl⟩
 have ba : Below w.heap.size w wa := by rw [← hwa]; exact below_alloc (Below.refl _ _) _
 have ta : Touch [] w wa := Touch.of_below ba
 have hka : Kp B (gw :: S) w wa := (Kp.of_touch ta (by simp) hB).mono (by simp)
 obtain ⟨gh, hgh⟩ : ∃ gh, w.heap.size = gh := ⟨_, rfl⟩
 have hbl : wa.heap[gh]? = some (.cells #[.int .u8 1, .int .i64 o, .int .u64 0, .int .u8 0, .int .u64 1, .int .i32 0, cfv, .pointer (some ⟨gr, 0, none⟩)] 133 (0, 0)) := by rw [← hwa, ← hgh]; exact heap_alloc_new _ _
 have hgn : gh ∉ gw :: S := fun hm => by
  rcases List.mem_cons.1 hm with e | hm
  ·have := h.base.2; omega
  ·obtain ⟨s, hs, _⟩ := h
   have := (R.lt w _ hs.st _ hm).1; omega
 have X0 := Lib.hid (And.intro (h.move ta (by simp)) (And.intro hka hbl))
 have HGN := Lib.hid hgn
 have hBa : B ≤ wa.heap.size := Nat.le_trans hB ta.size
 have HB := Lib.hid hB
 clear h hka hbl ta ba hgn hB
 go_enter Tryz.func84, Tryz.ntmps84
 go_wp2_with fail
 refine (wb_bits X0.out.1 hBa 0 1 (by omega) (by omega) hp (by omega)).mono ?_
 rintro e w1 ⟨rfl, hb, hk⟩
 have hh := hk.keep gh _ X0.out.2.2 HGN.out (notU8 (by decide))
 have c0 : w1.cell? ⟨gh, 0, none⟩ = some (.int .u8 1) := by rw [cell_of_row w1 gh 0 _ _ _ hh]; rfl
 have c1 : w1.cell? ⟨gh, 1, none⟩ = some (.int .i64 o) := by rw [cell_of_row w1 gh 1 _ _ _ hh]; rfl
 have X1 := Lib.hid (And.intro hb (And.intro (X0.out.2.1.trans hk) hh))
 clear hb hk hh
 go_wp2_with fail
 refine (wb_bits X1.out.1 (Nat.le_trans HB.out X1.out.2.1.bel.size) (1) 6 (by omega) (by omega) hp (by rw [List.length_append, bts_len]; omega)).mono ?_
 rintro e w2 ⟨rfl, hb, hk⟩
 have hh := hk.keep gh _ X1.out.2.2 HGN.out (notU8 (by decide))
 have c2 : w2.cell? ⟨gh, 2, none⟩ = some (.int .u64 0) := by rw [cell_of_row w2 gh 2 _ _ _ hh]; rfl
 have X2 := Lib.hid (And.intro hb (And.intro (X1.out.2.1.trans hk) hh))
 clear hb hk hh
 go_wp2_with fail
 refine (wb_bool X2.out.1 (Nat.le_trans HB.out X2.out.2.1.bel.size) false hp (by simp only [List.length_append, bts_len]; omega)).mono ?_
 rintro e w3 ⟨rfl, hb, hk⟩
 have X3 := Lib.hid (And.intro hb (X2.out.2.1.trans hk))
 clear hb hk
 go_wp2_with fail
 go_ret
 exact ⟨rfl, X3.out⟩
set_option maxHeartbeats 4000000 in
set_option maxRecDepth 100000 in
theorem sub_head2 {R : Snk ty fn g B S St} {pre : List Int} {gw : Nat} {bs : List Nat} {w : World} (h : Wb R pre gw bs w) (hB : B ≤ w.heap.size) (hp : pre.length ≤ 30000000000000) (hl : bs.length ≤ 20000000000000)
  (o gr : Nat) (cfv : Value) (ho : o ≤ 4) :
  Calls Tryz.prog 84 #[.pointer (some ⟨gw, 0, none⟩), .agg #[.int .u8 2, .int .i64 o, .int .u64 0, .int .u8 0, .int .u64 1, .int .i32 0, cfv, .pointer (some ⟨gr, 0, none⟩)]] w fun e w' =>
   e = .returned .nilIface ∧ Wb R pre gw (((bs ++ bts 0 1) ++ bts (8 + o) 6) ++ bts 0 1) w' ∧ Kp B (gw :: S) w w' := by
 obtain ⟨wa, hwa⟩ : ∃ wa, w.alloc (.cells #[.int .u8 2, .int .i64 o, .int .u64 0, .int .u8 0, .int .u64 1, .int .i32 0, cfv, .pointer (some ⟨gr, 0, none⟩)] 133) = wa := ⟨_, rfl⟩
 have ba : Below w.heap.size w wa := by rw [← hwa]; exact below_alloc (Below.refl _ _) _
 have ta : Touch [] w wa := Touch.of_below ba
 have hka : Kp B (gw :: S) w wa := (Kp.of_touch ta (by simp) hB).mono (by simp)
 obtain ⟨gh, hgh⟩ : ∃ gh, w.heap.size = gh := ⟨_, rfl⟩
 have hbl : wa.heap[gh]? = some (.cells #[.int .u8 2, .int .i64 o, .int .u64 0, .int .u8 0, .int .u64 1, .int .i32 0, cfv, .pointer (some ⟨gr, 0, none⟩)] 133 (0, 0)) := by rw [← hwa, ← hgh]; exact heap_alloc_new _ _
 have hgn : gh ∉ gw :: S := fun hm => by
  rcases List.mem_cons.1 hm with e | hm
  ·have := h.base.2; omega
  ·obtain ⟨s, hs, _⟩ := h
   have := (R.lt w _ hs.st _ hm).1; omega
 have X0 := Lib.hid (And.intro (h.move ta (by simp)) (And.intro hka hbl))
 have HGN := Lib.hid hgn
 have hBa : B ≤ wa.heap.size := Nat.le_trans hB ta.size
 have HB := Lib.hid hB
 clear h hka hbl ta ba hgn hB
 have hor : Go.bits .or .u64 8 (o : Int) = ((8 + o : Nat) : Int) := by
  have key : ∀ o : Fin 5, Go.bits .or .u64 8 ((o.val : Nat) : Int) = ((8 + o.val : Nat) : Int) := by decide +kernel
  exact key ⟨o, by omega⟩
 go_enter Tryz.func84, Tryz.ntmps84
 go_wp2_with fail
 refine (wb_bits X0.out.1 hBa 0 1 (by omega) (by omega) hp (by omega)).mono ?_
 rintro e w1 ⟨rfl, hb, hk⟩
 have hh := hk.keep gh _ X0.out.2.2 HGN.out (notU8 (by decide))
 have c0 : w1.cell? ⟨gh, 0, none⟩ = some (.int .u8 2) := by rw [cell_of_row w1 gh 0 _ _ _ hh]; rfl
 have c1 : w1.cell? ⟨gh, 1, none⟩ = some (.int .i64 o) := by rw [cell_of_row w1 gh 1 _ _ _ hh]; rfl
 have X1 := Lib.hid (And.intro hb (And.intro (X0.out.2.1.trans hk) hh))
 clear hb hk hh
 go_wp2_with fail
 refine (wb_bits X1.out.1 (Nat.le_trans HB.out X1.out.2.1.bel.size) (8 + o) 6 (by omega) (by omega) hp (by rw [List.length_append, bts_len]; omega)).mono ?_
 rintro e w2 ⟨rfl, hb, hk⟩
 have hh := hk.keep gh _ X1.out.2.2 HGN.out (notU8 (by decide))
 have c2 : w2.cell? ⟨gh, 2, none⟩ = some (.int .u64 0) := by rw [cell_of_row w2 gh 2 _ _ _ hh]; rfl
 have X2 := Lib.hid (And.intro hb (And.intro (X1.out.2.1.trans hk) hh))
 clear hb hk hh
 go_wp2_with fail
 refine (wb_bool X2.out.1 (Nat.le_trans HB.out X2.out.2.1.bel.size) false hp (by simp only [List.length_append, bts_len]; omega)).mono ?_
 rintro e w3 ⟨rfl, hb, hk⟩
 have X3 := Lib.hid (And.intro hb (X2.out.2.1.trans hk))
 clear hb hk
 go_wp2_with fail
 go_ret
 exact ⟨rfl, X3.out⟩
theorem subBits_len {bits size K o : Nat} {xs : List Int} (h : SubOk bits size K o xs) : (subBits bits K o xs).length ≤ 50000000000 := by
 have h1 := rests_bound h
 have h2 := riceBits_len (rests o xs) h1
 rw [rests_len] at h2
 have h3 : bits * xs.length ≤ 25 * 65536 := Nat.mul_le_mul h.b1 (by rw [h.len]; exact h.s1)
 have h5 := h.s1
 have h6 := h.len
 have h7 := h.b1
 have h8 : bits * (xs.take o).length ≤ bits * xs.length := Nat.mul_le_mul_left _ (by rw [List.length_take]; omega)
 unfold subBits
 split
 ·simp only [List.length_append, bts_len]; omega
 ·split
  ·simp only [List.length_append, bts_len, sampBits_len]; omega
  ·simp only [List.length_append, bts_len, sampBits_len]; omega
theorem SubMem.fields {w : World} {gs ga gr gp K o : Nat} {xs : List Int} (h : SubMem w gs ga gr gp K o xs) : ∃ cfv ca, xs.length ≤ ca ∧ w.heap[gs]? = some (.cells #[.int .u8 K, .int .i64 o, .int .u64 0, .int .u8 0, .int .u64 1, .int .i32 0, cfv, .pointer (some ⟨gr, 0, none⟩), .slice (some ⟨ga, 0, none⟩) xs.length ca, .int .i64 xs.length] 135 (0, 0)) := by
 obtain ⟨cfv, ca, cp, cs1, cs2, h1, h2, h3, h4, _⟩ := h
 exact ⟨cfv, ca, h4, h1⟩
set_option maxHeartbeats 8000000 in
set_option maxRecDepth 100000 in
theorem enc_sub0 {R : Snk ty fn g B S St} {pre : List Int} {gw : Nat} {bs : List Nat} {w : World} (h : Wb R pre gw bs w) (hB : B ≤ w.heap.size) (hp : pre.length ≤ 30000000000000) (hl : bs.length ≤ 10000000000000)
  {gs ga gr gp o bits size : Nat} {xs : List Int} (fx : Bool) (sz rt ch bp nm : Nat) (hm : SubMem w gs ga gr gp 0 o xs) (hn : ∀ q ∈ [gs, ga, gr, gp], q ∉ gw :: S) (ok : SubOk bits size 0 o xs) (ho : o ≤ 4) (hsz : sz = xs.length) :
  Calls Tryz.prog 46 #[.pointer (some ⟨gw, 0, none⟩), .agg #[.bool fx, .int .u16 sz, .int .u32 rt, .int .u8 ch, .int .u8 bp, .int .u64 nm], .pointer (some ⟨gs, 0, none⟩), .int .u64 bits] w fun e w' =>
   e = .returned .nilIface ∧ Wb R pre gw (bs ++ subBits bits 0 o xs) w' ∧ Kp B (gw :: S) w w' := by
 obtain ⟨wa, hwa⟩ : ∃ wa, (w.alloc (.cells #[.bool fx, .int .u16 sz, .int .u32 rt, .int .u8 ch, .int .u8 bp, .int .u64 nm] 77)).alloc (.cells #[.pointer (some ⟨gs, 0, none⟩)] 86) = wa := ⟨_, rfl⟩
 have ba : Below w.heap.size w wa := by rw [← hwa]; exact below_alloc (below_alloc (Below.refl _ _) _) _
 have ta : Touch [] w wa := Touch.of_below ba
 have hka : Kp B (gw :: S) w wa := (Kp.of_touch ta (by simp) hB).mono (by simp)
 obtain ⟨gh, hgh⟩ : ∃ gh, w.heap.size = gh := ⟨_, rfl⟩
 have hb5 : wa.heap[gh]? = some (.cells #[.bool fx, .int .u16 sz, .int .u32 rt, .int .u8 ch, .int .u8 bp, .int .u64 nm] 77 (0, 0)) := by rw [← hwa, Below.heap_alloc _ _ _ (by simp only [World.size_alloc]; omega), ← hgh]; exact heap_alloc_new _ _
 have hb6 : wa.heap[gh + 1]? = some (.cells #[.pointer (some ⟨gs, 0, none⟩)] 86 (0, 0)) := by
  have h1 := heap_alloc_new (w.alloc (.cells #[.bool fx, .int .u16 sz, .int .u32 rt, .int .u8 ch, .int .u8 bp, .int .u64 nm] 77)) (.cells #[.pointer (some ⟨gs, 0, none⟩)] 86)
  rw [World.size_alloc, hgh] at h1
  rw [← hwa]; exact h1
 have hgn : gh ∉ gw :: S ∧ gh + 1 ∉ gw :: S := by
  refine ⟨fun hm => ?_, fun hm => ?_⟩
  all_goals
   rcases List.mem_cons.1 hm with e | hm
   ·have := h.base.2; omega
   ·obtain ⟨s, hs, _⟩ := h
    have := (R.lt w _ hs.st _ hm).1; omega
 obtain ⟨cfv, ca, hca, hbs⟩ := (hm.below ba).fields
 have X0 := Lib.hid (And.intro (h.move ta (by simp)) (And.intro hka (And.intro hb5 (And.intro hb6 (hm.below ba)))))
 have HGN := Lib.hid hgn
 have HN := Lib.hid hn
 have HOK := Lib.hid ok
 have hBa : B ≤ wa.heap.size := Nat.le_trans hB ta.size
 have HB := Lib.hid hB
 have HSZ := Lib.hid hsz
 have p0 : wa.cell? ⟨gh + 1, 0, none⟩ = some (.pointer (some ⟨gs, 0, none⟩)) := by rw [cell_of_row wa (gh + 1) 0 _ _ _ hb6]; rfl
 have c0 : wa.cell? ⟨gs, 0, none⟩ = some (.int .u8 0) := by rw [cell_of_row wa gs 0 _ _ _ hbs]; rfl
 have c1 : wa.cell? ⟨gs, 1, none⟩ = some (.int .i64 o) := by rw [cell_of_row wa gs 1 _ _ _ hbs]; rfl
 have c2 : wa.cell? ⟨gs, 2, none⟩ = some (.int .u64 0) := by rw [cell_of_row wa gs 2 _ _ _ hbs]; rfl
 have c3 : wa.cell? ⟨gs, 3, none⟩ = some (.int .u8 0) := by rw [cell_of_row wa gs 3 _ _ _ hbs]; rfl
 have c4 : wa.cell? ⟨gs, 4, none⟩ = some (.int .u64 1) := by rw [cell_of_row wa gs 4 _ _ _ hbs]; rfl
 have c5 : wa.cell? ⟨gs, 5, none⟩ = some (.int .i32 0) := by rw [cell_of_row wa gs 5 _ _ _ hbs]; rfl
 have c6 : wa.cell? ⟨gs, 6, none⟩ = some cfv := by rw [cell_of_row wa gs 6 _ _ _ hbs]; rfl
 have c7 : wa.cell? ⟨gs, 7, none⟩ = some (.pointer (some ⟨gr, 0, none⟩)) := by rw [cell_of_row wa gs 7 _ _ _ hbs]; rfl
 have hb1 := ok.b0
 have hb2 := ok.b1
 clear h hm hn ok hka hb5 hb6 hbs hca ta ba hgn hB hsz
 go_enter Tryz.func46, Tryz.ntmps46
 go_wp2_with fail
 refine (sub_head0 X0.out.1 hBa hp (by omega) o gr cfv ho).mono ?_
 rintro e w1 ⟨rfl, hb, hk⟩
 have hm1 := X0.out.2.2.2.2.keep hk HN.out
 have hb5 := hk.keep gh _ X0.out.2.2.1 HGN.out.1 (notU8 (by decide))
 have hb6 := hk.keep (gh + 1) _ X0.out.2.2.2.1 HGN.out.2 (notU8 (by decide))
 obtain ⟨d0, _, d2, _, _⟩ := hm1.cells
 have p0 : w1.cell? ⟨gh + 1, 0, none⟩ = some (.pointer (some ⟨gs, 0, none⟩)) := by rw [cell_of_row w1 (gh + 1) 0 _ _ _ hb6]; rfl
 have h0 : w1.cell? ⟨gh, 0, none⟩ = some (.bool fx) := by rw [cell_of_row w1 gh 0 _ _ _ hb5]; rfl
 have h1 : w1.cell? ⟨gh, 1, none⟩ = some (.int .u16 sz) := by rw [cell_of_row w1 gh 1 _ _ _ hb5]; rfl
 have h2 : w1.cell? ⟨gh, 2, none⟩ = some (.int .u32 rt) := by rw [cell_of_row w1 gh 2 _ _ _ hb5]; rfl
 have h3 : w1.cell? ⟨gh, 3, none⟩ = some (.int .u8 ch) := by rw [cell_of_row w1 gh 3 _ _ _ hb5]; rfl
 have h4 : w1.cell? ⟨gh, 4, none⟩ = some (.int .u8 bp) := by rw [cell_of_row w1 gh 4 _ _ _ hb5]; rfl
 have h5 : w1.cell? ⟨gh, 5, none⟩ = some (.int .u64 nm) := by rw [cell_of_row w1 gh 5 _ _ _ hb5]; rfl
 have X1 := Lib.hid (And.intro hb (And.intro (X0.out.2.1.trans hk) hm1))
 clear hb hk hm1 hb5 hb6 c0 c1 c2 c3 c4 c5 c6 c7
 go_wp2_with fail
 refine (enc_const X1.out.1 (Nat.le_trans HB.out X1.out.2.1.bel.size) hp (by simp only [List.length_append, bts_len]; omega) fx sz rt ch bp nm X1.out.2.2 HN.out HOK.out).mono ?_
 rintro e w2 ⟨rfl, hb, hk⟩
 have X2 := Lib.hid (And.intro hb (X1.out.2.1.trans hk))
 clear hb hk
 go_wp2_with fail
 go_ret
 refine ⟨rfl, ?_, X2.out.2⟩
 have hb := X2.out.1
 unfold subBits
 simp only [List.append_assoc] at hb ⊢
 exact hb
set_option maxHeartbeats 8000000 in
set_option maxRecDepth 100000 in
theorem enc_sub1 {R : Snk ty fn g B S St} {pre : List Int} {gw : Nat} {bs : List Nat} {w : World} (h : Wb R pre gw bs w) (hB : B ≤ w.heap.size) (hp : pre.length ≤ 30000000000000) (hl : bs.length ≤ 10000000000000)
  {gs ga gr gp o bits size : Nat} {xs : List Int} (fx : Bool) (sz rt ch bp nm : Nat) (hm : SubMem w gs ga gr gp 1 o xs) (hn : ∀ q ∈ [gs, ga, gr, gp], q ∉ gw :: S) (ok : SubOk bits size 1 o xs) (ho : o ≤ 4) (hsz : sz = xs.length) :
  Calls Tryz.prog 46 #[.pointer (some ⟨gw, 0, none⟩), .agg #[.bool fx, .int .u16 sz, .int .u32 rt, .int .u8 ch, .int .u8 bp, .int .u64 nm], .pointer (some ⟨gs, 0, none⟩), .int .u64 bits] w fun e w' =>
   e = .returned .nilIface ∧ Wb R pre gw (bs ++ subBits bits 1 o xs) w' ∧ Kp B (gw :: S) w w' := by
 obtain ⟨wa, hwa⟩ : ∃ wa, (w.alloc (.cells #[.bool fx, .int .u16 sz, .int .u32 rt, .int .u8 ch, .int .u8 bp, .int .u64 nm] 77)).alloc (.cells #[.pointer (some ⟨gs, 0, none⟩)] 86) = wa := ⟨_, rfl⟩
 have ba : Below w.heap.size w wa := by rw [← hwa]; exact below_alloc (below_alloc (Below.refl _ _) _) _
 have ta : Touch [] w wa := Touch.of_below ba
 have hka : Kp B (gw :: S) w wa := (Kp.of_touch ta (by simp) hB).mono (by simp)
 obtain ⟨gh, hgh⟩ : ∃ gh, w.heap.size = gh := ⟨_, rfl⟩
 have hb5 : wa.heap[gh]? = some (.cells #[.bool fx, .int .u16 sz, .int .u32 rt, .int .u8 ch, .int .u8 bp, .int .u64 nm] 77 (0, 0)) := by rw [← hwa, Below.heap_alloc _ _ _ (by simp only [World.size_alloc]; omega), ← hgh]; exact heap_alloc_new _ _
 have hb6 : wa.heap[gh + 1]? = some (.cells #[.pointer (some ⟨gs, 0, none⟩)] 86 (0, 0)) := by
  have h1 := heap_alloc_new (w.alloc (.cells #[.bool fx, .int .u16 sz, .int .u32 rt, .int .u8 ch, .int .u8 bp, .int .u64 nm] 77)) (.cells #[.pointer (some ⟨gs, 0, none⟩)] 86)
  rw [World.size_alloc, hgh] at h1
  rw [← hwa]; exact h1
 have hgn : gh ∉ gw :: S ∧ gh + 1 ∉ gw :: S := by
  refine ⟨fun hm => ?_, fun hm => ?_⟩
  all_goals
   rcases List.mem_cons.1 hm with e | hm
   ·have := h.base.2; omega
   ·obtain ⟨s, hs, _⟩ := h
    have := (R.lt w _ hs.st _ hm).1; omega
 obtain ⟨cfv, ca, hca, hbs⟩ := (hm.below ba).fields
 have X0 := Lib.hid (And.intro (h.move ta (by simp)) (And.intro hka (And.intro hb5 (And.intro hb6 (hm.below ba)))))
 have HGN := Lib.hid hgn
 have HN := Lib.hid hn
 have HOK := Lib.hid ok
 have hBa : B ≤ wa.heap.size := Nat.le_trans hB ta.size
 have HB := Lib.hid hB
 have HSZ := Lib.hid hsz
 have p0 : wa.cell? ⟨gh + 1, 0, none⟩ = some (.pointer (some ⟨gs, 0, none⟩)) := by rw [cell_of_row wa (gh + 1) 0 _ _ _ hb6]; rfl
 have c0 : wa.cell? ⟨gs, 0, none⟩ = some (.int .u8 1) := by rw [cell_of_row wa gs 0 _ _ _ hbs]; rfl
 have c1 : wa.cell? ⟨gs, 1, none⟩ = some (.int .i64 o) := by rw [cell_of_row wa gs 1 _ _ _ hbs]; rfl
 have c2 : wa.cell? ⟨gs, 2, none⟩ = some (.int .u64 0) := by rw [cell_of_row wa gs 2 _ _ _ hbs]; rfl
 have c3 : wa.cell? ⟨gs, 3, none⟩ = some (.int .u8 0) := by rw [cell_of_row wa gs 3 _ _ _ hbs]; rfl
 have c4 : wa.cell? ⟨gs, 4, none⟩ = some (.int .u64 1) := by rw [cell_of_row wa gs 4 _ _ _ hbs]; rfl
 have c5 : wa.cell? ⟨gs, 5, none⟩ = some (.int .i32 0) := by rw [cell_of_row wa gs 5 _ _ _ hbs]; rfl
 have c6 : wa.cell? ⟨gs, 6, none⟩ = some cfv := by rw [cell_of_row wa gs 6 _ _ _ hbs]; rfl
 have c7 : wa.cell? ⟨gs, 7, none⟩ = some (.pointer (some ⟨gr, 0, none⟩)) := by rw [cell_of_row wa gs 7 _ _ _ hbs]; rfl
 have hb1 := ok.b0
 have hb2 := ok.b1
 clear h hm hn ok hka hb5 hb6 hbs hca ta ba hgn hB hsz
 go_enter Tryz.func46, Tryz.ntmps46
 go_wp2_with fail
 refine (sub_head1 X0.out.1 hBa hp (by omega) o gr cfv ho).mono ?_
 rintro e w1 ⟨rfl, hb, hk⟩
 have hm1 := X0.out.2.2.2.2.keep hk HN.out
 have hb5 := hk.keep gh _ X0.out.2.2.1 HGN.out.1 (notU8 (by decide))
 have hb6 := hk.keep (gh + 1) _ X0.out.2.2.2.1 HGN.out.2 (notU8 (by decide))
 obtain ⟨d0, _, d2, _, _⟩ := hm1.cells
 have p0 : w1.cell? ⟨gh + 1, 0, none⟩ = some (.pointer (some ⟨gs, 0, none⟩)) := by rw [cell_of_row w1 (gh + 1) 0 _ _ _ hb6]; rfl
 have h0 : w1.cell? ⟨gh, 0, none⟩ = some (.bool fx) := by rw [cell_of_row w1 gh 0 _ _ _ hb5]; rfl
 have h1 : w1.cell? ⟨gh, 1, none⟩ = some (.int .u16 sz) := by rw [cell_of_row w1 gh 1 _ _ _ hb5]; rfl
 have h2 : w1.cell? ⟨gh, 2, none⟩ = some (.int .u32 rt) := by rw [cell_of_row w1 gh 2 _ _ _ hb5]; rfl
 have h3 : w1.cell? ⟨gh, 3, none⟩ = some (.int .u8 ch) := by rw [cell_of_row w1 gh 3 _ _ _ hb5]; rfl
 have h4 : w1.cell? ⟨gh, 4, none⟩ = some (.int .u8 bp) := by rw [cell_of_row w1 gh 4 _ _ _ hb5]; rfl
 have h5 : w1.cell? ⟨gh, 5, none⟩ = some (.int .u64 nm) := by rw [cell_of_row w1 gh 5 _ _ _ hb5]; rfl
 have X1 := Lib.hid (And.intro hb (And.intro (X0.out.2.1.trans hk) hm1))
 clear hb hk hm1 hb5 hb6 c0 c1 c2 c3 c4 c5 c6 c7
 go_wp2_with fail
 refine (enc_verb X1.out.1 (Nat.le_trans HB.out X1.out.2.1.bel.size) hp (by simp only [List.length_append, bts_len]; omega) fx sz rt ch bp nm X1.out.2.2 HN.out HOK.out HSZ.out).mono ?_
 rintro e w2 ⟨rfl, hb, hk⟩
 have X2 := Lib.hid (And.intro hb (X1.out.2.1.trans hk))
 clear hb hk
 go_wp2_with fail
 go_ret
 refine ⟨rfl, ?_, X2.out.2⟩
 have hb := X2.out.1
 unfold subBits
 simp only [List.append_assoc] at hb ⊢
 exact hb
set_option maxHeartbeats 8000000 in
set_option maxRecDepth 100000 in
theorem enc_sub2 {R : Snk ty fn g B S St} {pre : List Int} {gw : Nat} {bs : List Nat} {w : World} (h : Wb R pre gw bs w) (hB : B ≤ w.heap.size) (hp : pre.length ≤ 30000000000000) (hl : bs.length ≤ 10000000000000)
  {gs ga gr gp o bits size : Nat} {xs : List Int} (fx : Bool) (sz rt ch bp nm : Nat) (hm : SubMem w gs ga gr gp 2 o xs) (hn : ∀ q ∈ [gs, ga, gr, gp], q ∉ gw :: S) (ok : SubOk bits size 2 o xs) (ho : o ≤ 4) (hsz : sz = xs.length) :
  Calls Tryz.prog 46 #[.pointer (some ⟨gw, 0, none⟩), .agg #[.bool fx, .int .u16 sz, .int .u32 rt, .int .u8 ch, .int .u8 bp, .int .u64 nm], .pointer (some ⟨gs, 0, none⟩), .int .u64 bits] w fun e w' =>
   e = .returned .nilIface ∧ Wb R pre gw (bs ++ subBits bits 2 o xs) w' ∧ Kp B (gw :: S) w w' := by
 obtain ⟨wa, hwa⟩ : ∃ wa, (w.alloc (.cells #[.bool fx, .int .u16 sz, .int .u32 rt, .int .u8 ch, .int .u8 bp, .int .u64 nm] 77)).alloc (.cells #[.pointer (some ⟨gs, 0, none⟩)] 86) = wa := ⟨_, rfl⟩
 have ba : Below w.heap.size w wa := by rw [← hwa]; exact below_alloc (below_alloc (Below.refl _ _) _) _
 have ta : Touch [] w wa := Touch.of_below ba
 have hka : Kp B (gw :: S) w wa := (Kp.of_touch ta (by simp) hB).mono (by simp)
 obtain ⟨gh, hgh⟩ : ∃ gh, w.heap.size = gh := ⟨_, rfl⟩
 have hb5 : wa.heap[gh]? = some (.cells #[.bool fx, .int .u16 sz, .int .u32 rt, .int .u8 ch, .int .u8 bp, .int .u64 nm] 77 (0, 0)) := by rw [← hwa, Below.heap_alloc _ _ _ (by simp only [World.size_alloc]; omega), ← hgh]; exact heap_alloc_new _ _
 have hb6 : wa.heap[gh + 1]? = some (.cells #[.pointer (some ⟨gs, 0, none⟩)] 86 (0, 0)) := by
  have h1 := heap_alloc_new (w.alloc (.cells #[.bool fx, .int .u16 sz, .int .u32 rt, .int .u8 ch, .int .u8 bp, .int .u64 nm] 77)) (.cells #[.pointer (some ⟨gs, 0, none⟩)] 86)
  rw [World.size_alloc, hgh] at h1
  rw [← hwa]; exact h1
 have hgn : gh ∉ gw :: S ∧ gh + 1 ∉ gw :: S := by
  refine ⟨fun hm => ?_, fun hm => ?_⟩
  all_goals
   rcases List.mem_cons.1 hm with e | hm
   ·have := h.base.2; omega
   ·obtain ⟨s, hs, _⟩ := h
    have := (R.lt w _ hs.st _ hm).1; omega
 obtain ⟨cfv, ca, hca, hbs⟩ := (hm.below ba).fields
 have X0 := Lib.hid (And.intro (h.move ta (by simp)) (And.intro hka (And.intro hb5 (And.intro hb6 (hm.below ba)))))
 have HGN := Lib.hid hgn
 have HN := Lib.hid hn
 have HOK := Lib.hid ok
 have hBa : B ≤ wa.heap.size := Nat.le_trans hB ta.size
 have HB := Lib.hid hB
 have HSZ := Lib.hid hsz
 have p0 : wa.cell? ⟨gh + 1, 0, none⟩ = some (.pointer (some ⟨gs, 0, none⟩)) := by rw [cell_of_row wa (gh + 1) 0 _ _ _ hb6]; rfl
 have c0 : wa.cell? ⟨gs, 0, none⟩ = some (.int .u8 2) := by rw [cell_of_row wa gs 0 _ _ _ hbs]; rfl
 have c1 : wa.cell? ⟨gs, 1, none⟩ = some (.int .i64 o) := by rw [cell_of_row wa gs 1 _ _ _ hbs]; rfl
 have c2 : wa.cell? ⟨gs, 2, none⟩ = some (.int .u64 0) := by rw [cell_of_row wa gs 2 _ _ _ hbs]; rfl
 have c3 : wa.cell? ⟨gs, 3, none⟩ = some (.int .u8 0) := by rw [cell_of_row wa gs 3 _ _ _ hbs]; rfl
 have c4 : wa.cell? ⟨gs, 4, none⟩ = some (.int .u64 1) := by rw [cell_of_row wa gs 4 _ _ _ hbs]; rfl
 have c5 : wa.cell? ⟨gs, 5, none⟩ = some (.int .i32 0) := by rw [cell_of_row wa gs 5 _ _ _ hbs]; rfl
 have c6 : wa.cell? ⟨gs, 6, none⟩ = some cfv := by rw [cell_of_row wa gs 6 _ _ _ hbs]; rfl
 have c7 : wa.cell? ⟨gs, 7, none⟩ = some (.pointer (some ⟨gr, 0, none⟩)) := by rw [cell_of_row wa gs 7 _ _ _ hbs]; rfl
 have hb1 := ok.b0
 have hb2 := ok.b1
 clear h hm hn ok hka hb5 hb6 hbs hca ta ba hgn hB hsz
 go_enter Tryz.func46, Tryz.ntmps46
 go_wp2_with fail
 refine (sub_head2 X0.out.1 hBa hp (by omega) o gr cfv ho).mono ?_
 rintro e w1 ⟨rfl, hb, hk⟩
 have hm1 := X0.out.2.2.2.2.keep hk HN.out
 have hb5 := hk.keep gh _ X0.out.2.2.1 HGN.out.1 (notU8 (by decide))
 have hb6 := hk.keep (gh + 1) _ X0.out.2.2.2.1 HGN.out.2 (notU8 (by decide))
 obtain ⟨d0, _, d2, _, _⟩ := hm1.cells
 have p0 : w1.cell? ⟨gh + 1, 0, none⟩ = some (.pointer (some ⟨gs, 0, none⟩)) := by rw [cell_of_row w1 (gh + 1) 0 _ _ _ hb6]; rfl
 have h0 : w1.cell? ⟨gh, 0, none⟩ = some (.bool fx) := by rw [cell_of_row w1 gh 0 _ _ _ hb5]; rfl
 have h1 : w1.cell? ⟨gh, 1, none⟩ = some (.int .u16 sz) := by rw [cell_of_row w1 gh 1 _ _ _ hb5]; rfl
 have h2 : w1.cell? ⟨gh, 2, none⟩ = some (.int .u32 rt) := by rw [cell_of_row w1 gh 2 _ _ _ hb5]; rfl
 have h3 : w1.cell? ⟨gh, 3, none⟩ = some (.int .u8 ch) := by rw [cell_of_row w1 gh 3 _ _ _ hb5]; rfl
 have h4 : w1.cell? ⟨gh, 4, none⟩ = some (.int .u8 bp) := by rw [cell_of_row w1 gh 4 _ _ _ hb5]; rfl
 have h5 : w1.cell? ⟨gh, 5, none⟩ = some (.int .u64 nm) := by rw [cell_of_row w1 gh 5 _ _ _ hb5]; rfl
 have X1 := Lib.hid (And.intro hb (And.intro (X0.out.2.1.trans hk) hm1))
 clear hb hk hm1 hb5 hb6 c0 c1 c2 c3 c4 c5 c6 c7
 go_wp2_with fail
 refine (enc_fixed X1.out.1 (Nat.le_trans HB.out X1.out.2.1.bel.size) hp (by simp only [List.length_append, bts_len]; omega) fx sz rt ch bp nm X1.out.2.2 HN.out HOK.out).mono ?_
 rintro e w2 ⟨rfl, hb, hk⟩
 have X2 := Lib.hid (And.intro hb (X1.out.2.1.trans hk))
 clear hb hk
 go_wp2_with fail
 go_ret
 refine ⟨rfl, ?_, X2.out.2⟩
 have hb := X2.out.1
 unfold subBits
 simp only [List.append_assoc] at hb ⊢
 exact hb
theorem enc_sub {R : Snk ty fn g B S St} {pre : List Int} {gw : Nat} {bs : List Nat} {w : World} (h : Wb R pre gw bs w) (hB : B ≤ w.heap.size) (hp : pre.length ≤ 30000000000000) (hl : bs.length ≤ 10000000000000)
  {gs ga gr gp K o bits size : Nat} {xs : List Int} (fx : Bool) (sz rt ch bp nm : Nat) (hm : SubMem w gs ga gr gp K o xs) (hn : ∀ q ∈ [gs, ga, gr, gp], q ∉ gw :: S) (ok : SubOk bits size K o xs) (ho : o ≤ 4) (hsz : sz = xs.length) :
  Calls Tryz.prog 46 #[.pointer (some ⟨gw, 0, none⟩), .agg #[.bool fx, .int .u16 sz, .int .u32 rt, .int .u8 ch, .int .u8 bp, .int .u64 nm], .pointer (some ⟨gs, 0, none⟩), .int .u64 bits] w fun e w' =>
   e = .returned .nilIface ∧ Wb R pre gw (bs ++ subBits bits K o xs) w' ∧ Kp B (gw :: S) w w' := by
 have hK := ok.kind
 rcases (by omega : K = 0 ∨ K = 1 ∨ K = 2) with rfl | rfl | rfl
 ·exact enc_sub0 h hB hp hl fx sz rt ch bp nm hm hn ok ho hsz
 ·exact enc_sub1 h hB hp hl fx sz rt ch bp nm hm hn ok ho hsz
 ·exact enc_sub2 h hB hp hl fx sz rt ch bp nm hm hn ok ho hsz
end Go.Proofs.YtmcllndnjdemaaaGreatDoor.Walk
