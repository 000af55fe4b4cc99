/- The package's residuals: encodeRiceResidual, encodeRicePart, encodeResiduals. -/
import Derived.Test.YtmcllndnjdemaaaGreatDoorSnkAll
import Derived.Test.YtmcllndnjdemaaaGreatDoorSubAll
import Derived.Deep.QuietTactic
import Derived.BigQuiet
namespace Go.Proofs.YtmcllndnjdemaaaGreatDoor.Walk
set_option linter.unusedVariables false
set_option linter.unusedSimpArgs false
open Go Go.RowKit Go.Proofs.YtmcllndnjdemaaaGreatDoorW.PrintWords Go.Proofs.YtmcllndnjdemaaaGreatDoor.Num
variable {ty fn g B : Nat} {S : List Nat} {St : World → List Int → Prop}
def SubMem (w : World) (gs ga gr gp : Nat) (K o : Nat) (xs : List Int) : Prop :=
 ∃ cfv ca cp cs1 cs2, w.heap[gs]? = some (.cells #[.int .u8 K, .int .i64 o, .int .u64 0, .int .u8 0, .int .u64 1, .int .i32 0, cfv, .pointer (some ⟨gr, 0, none⟩), .slice (some ⟨ga, 0, none⟩) xs.length ca, .int .i64 xs.length] 135 (0, 0)) ∧
  w.heap[ga]? = some (.cells cs1 21 (0, 0)) ∧ (∀ i, i < xs.length → cs1[i]? = some (.int .i32 (xs.getD i 0))) ∧ xs.length ≤ ca ∧
  w.heap[gr]? = some (.cells #[.int .i64 0, .slice (some ⟨gp, 0, none⟩) 1 cp] 139 (0, 0)) ∧
  w.heap[gp]? = some (.cells cs2 141 (0, 0)) ∧ cs2[0]? = some (.int .u64 12)
theorem SubMem.keep {w w' : World} {gs ga gr gp K o : Nat} {xs : List Int} {T : List Nat} (h : SubMem w gs ga gr gp K o xs) (k : Kp B T w w') (hn : ∀ q ∈ [gs, ga, gr, gp], q ∉ T) : SubMem w' gs ga gr gp K o xs := by
 obtain ⟨cfv, ca, cp, cs1, cs2, h1, h2, h3, h4, h5, h6, h7⟩ := h
 exact ⟨cfv, ca, cp, cs1, cs2, k.keep _ _ h1 (hn _ (by simp)) (notU8 (by decide)), k.keep _ _ h2 (hn _ (by simp)) (notU8 (by decide)), h3, h4, k.keep _ _ h5 (hn _ (by simp)) (notU8 (by decide)), k.keep _ _ h6 (hn _ (by simp)) (notU8 (by decide)), h7⟩
theorem ret_eq {k : IntKind} {a b : Int} (h : a = b) : Ending.returned (.int k a) = .returned (.int k b) := by rw [h]
set_option maxHeartbeats 1000000 in
set_option maxRecDepth 100000 in
theorem zz_call (r : Int) (h1 : -1073741824 ≤ r) (h2 : r ≤ 1073741824) (z : Nat) (hz : zz r = z) (w : World) : Calls Tryz.prog 106 #[.int .i32 r] w fun e w' => e = .returned (.int .u32 z) ∧ w = w' := by
 have HZ := Lib.hid hz
 by_cases h : r < 0
 ·have hd : decide (r < 0) = true := by simpa using h
  clear hz h
  go_enter Tryz.func106, Tryz.ntmps106
  go_wp2_with fail
  go_ret
  have hzz := HZ.out
  unfold zz at hzz
  rw [if_pos (by simpa using hd)] at hzz
  have : r < 0 := by simpa using hd
  exact ⟨ret_eq (by omega), rfl⟩
 ·have hd : decide (r < 0) = false := by simpa using h
  clear hz
  go_enter Tryz.func106, Tryz.ntmps106
  go_wp2_with fail
  go_ret
  have hzz := HZ.out
  unfold zz at hzz
  rw [if_neg (by simpa using hd)] at hzz
  exact ⟨ret_eq (by omega), rfl⟩
theorem and_u32_low (z : Nat) (h : z < 4294967296) : Go.bits .and .u32 (z : Int) 4095 = ((z % 4096 : Nat) : Int) := by
 have h1 : Go.bits .and .u32 (z : Int) 4095 = IntKind.u32.wrap ((BitVec.ofInt 32 (z : Int) &&& BitVec.ofInt 32 ((4095 : Nat) : Int)).toNat : Int) := rfl
 have h2 := Nat.and_two_pow_sub_one_eq_mod z 12
 rw [h1, BitVec.ofInt_natCast, BitVec.ofInt_natCast, BitVec.toNat_and, BitVec.toNat_ofNat, BitVec.toNat_ofNat, Nat.mod_eq_of_lt h, Nat.mod_eq_of_lt (a := 4095) (by decide), show (4095 : Nat) = 2 ^ 12 - 1 from rfl, h2, IntKind.wrap_u32']
 omega
theorem and_high (z : Nat) (h : z < 4294967296) : z &&& 4294963200 = z / 4096 * 4096 := by
 apply Nat.eq_of_testBit_eq
 intro i
 rw [Nat.testBit_and, show (4294963200 : Nat) = (2 ^ 20 - 1) * 2 ^ 12 from rfl, show z / 4096 * 4096 = z / 2 ^ 12 * 2 ^ 12 from rfl, Nat.testBit_mul_two_pow, Nat.testBit_mul_two_pow, Nat.testBit_two_pow_sub_one, Nat.testBit_div_two_pow]
 by_cases h1 : 12 ≤ i
 ·by_cases h2 : i < 32
  ·have e : 12 + (i - 12) = i := by omega
   simp [h1, show i - 12 < 20 by omega, e]
  ·have e : z.testBit i = false := Nat.testBit_lt_two_pow (Nat.lt_of_lt_of_le h (show 2 ^ 32 ≤ 2 ^ i from Nat.pow_le_pow_right (by omega) (by omega)))
   have e2 : z.testBit (i - 12 + 12) = false := by rw [show i - 12 + 12 = i by omega]; exact e
   simp [e, e2]
 ·simp [h1]
theorem and_u32_high (z : Nat) (h : z < 4294967296) : Go.bits .and .u32 (z : Int) 4294963200 = ((z / 4096 * 4096 : Nat) : Int) := by
 have h1 : Go.bits .and .u32 (z : Int) 4294963200 = IntKind.u32.wrap ((BitVec.ofInt 32 (z : Int) &&& BitVec.ofInt 32 ((4294963200 : Nat) : Int)).toNat : Int) := rfl
 rw [h1, BitVec.ofInt_natCast, BitVec.ofInt_natCast, BitVec.toNat_and, BitVec.toNat_ofNat, BitVec.toNat_ofNat, Nat.mod_eq_of_lt h, Nat.mod_eq_of_lt (a := 4294963200) (by decide), and_high z h, IntKind.wrap_u32']
 omega
set_option maxHeartbeats 2000000 in
set_option maxRecDepth 100000 in
theorem rice_one {R : Snk ty fn g B S St} {pre : List Int} {gw : Nat} {bs : List Nat} {w : World} (h : Wb R pre gw bs w) (hB : B ≤ w.heap.size) (hp : pre.length ≤ 30000000000000) (hl : bs.length ≤ 100000000000000) (r : Int) (h1 : -1073741824 ≤ r) (h2 : r ≤ 1073741824) :
  Calls Tryz.prog 123 #[.pointer (some ⟨gw, 0, none⟩), .int .u64 12, .int .i32 r] w fun e w' =>
   e = .returned .nilIface ∧ Wb R pre gw (bs ++ riceOf r) w' ∧ Kp B (gw :: S) w w' := by
 obtain ⟨z, hz⟩ : ∃ z, zz r = z := ⟨_, rfl⟩
 have hzl := zz_le r h1 h2
 rw [hz] at hzl
 have a1 := and_u32_low z (by omega)
 have a2 := and_u32_high z (by omega)
 have H0 := Lib.hid (zz_call r h1 h2 z hz w)
 obtain ⟨q, hq⟩ : ∃ q, z / 4096 = q := ⟨_, rfl⟩
 obtain ⟨t, ht⟩ : ∃ t, z % 4096 = t := ⟨_, rfl⟩
 rw [hq] at a2
 rw [ht] at a1
 have hq2 : ((q * 4096 : Nat) : Int) / 4096 = (q : Int) := by omega
 have hq3 : q ≤ 524288 := by omega
 have ht3 : t < 4096 := by omega
 have H1 := Lib.hid (wb_unary h hB q (by omega) hp (by omega))
 have HZ := Lib.hid (show riceOf r = List.replicate q 0 ++ [1] ++ bts t 12 by unfold riceOf; rw [hz, hq, ← ht, bts_mod z 12 12 (Nat.le_refl _)])
 clear hz hq ht h
 go_enter Tryz.func123, Tryz.ntmps123
 go_wp2_with fail
 refine H0.out.mono ?_
 rintro e w0 ⟨rfl, rfl⟩
 go_wp2_with fail
 refine H1.out.mono ?_
 rintro e w1 ⟨rfl, hb, hk⟩
 have X1 := Lib.hid (And.intro hb hk)
 clear hb hk
 go_wp2_with fail
 refine (wb_bits X1.out.1 (Nat.le_trans hB X1.out.2.bel.size) t 12 (by omega) (by omega) hp (by simp; omega)).mono ?_
 rintro e w2 ⟨rfl, hb, hk⟩
 rw [List.append_assoc] at hb
 rw [← HZ.out] at hb
 have X2 := Lib.hid (And.intro hb (X1.out.2.trans hk))
 clear hb hk
 go_wp2_with fail
 go_ret
 exact ⟨rfl, X2.out⟩
def Row32 (w : World) (ge : Nat) (rs : List Int) : Prop := ∃ cs, w.heap[ge]? = some (.cells cs 21 (0, 0)) ∧ ∀ i, i < rs.length → cs[i]? = some (.int .i32 (rs.getD i 0))
theorem Row32.cell {w : World} {ge : Nat} {rs : List Int} (h : Row32 w ge rs) (i : Nat) (hi : i < rs.length) : w.cell? ⟨ge, i, none⟩ = some (.int .i32 (rs.getD i 0)) := by
 obtain ⟨cs, h1, h2⟩ := h
 rw [cell_of_row w ge i _ _ _ h1, h2 i hi]
theorem Row32.keep {w w' : World} {ge : Nat} {rs : List Int} {T : List Nat} (h : Row32 w ge rs) (k : Kp B T w w') (hn : ge ∉ T) : Row32 w' ge rs := by
 obtain ⟨cs, h1, h2⟩ := h
 exact ⟨cs, k.keep _ _ h1 hn (notU8 (by decide)), h2⟩
theorem riceBits_snoc (r : Int) : ∀ l, riceBits (l ++ [r]) = riceBits l ++ riceOf r
 | [] => by simp [riceBits]
 | x :: l => by rw [List.cons_append, riceBits, riceBits, riceBits_snoc r l, List.append_assoc]
theorem riceOf_len (r : Int) (h1 : -1073741824 ≤ r) (h2 : r ≤ 1073741824) : (riceOf r).length ≤ 600000 := by
 have := zz_le r h1 h2
 unfold riceOf; simp only [List.length_append, List.length_replicate, bts_len, List.length_singleton]; omega
theorem riceBits_len : ∀ l : List Int, (∀ r ∈ l, -1073741824 ≤ r ∧ r ≤ 1073741824) → (riceBits l).length ≤ 600000 * l.length
 | [], _ => by simp [riceBits]
 | r :: l, h => by
  have h1 := riceOf_len r (h r (by simp)).1 (h r (by simp)).2
  have h2 := riceBits_len l (fun x hx => h x (by simp [hx]))
  rw [riceBits, List.length_append, List.length_cons]; omega
set_option maxHeartbeats 8000000 in
set_option maxRecDepth 100000 in
theorem rice_part {R : Snk ty fn g B S St} {pre : List Int} {gw : Nat} {bs : List Nat} {w : World} (h : Wb R pre gw bs w) (hB : B ≤ w.heap.size) (hp : pre.length ≤ 30000000000000) (hl : bs.length ≤ 40000000000000)
  {gs ga gr gp ge K o : Nat} {xs rs : List Int} (cr : Nat) (hm : SubMem w gs ga gr gp K o xs) (hr : Row32 w ge rs) (hn : ∀ q ∈ [gs, ga, gr, gp, ge], q ∉ gw :: S) (hlen : xs.length = o + rs.length) (hx : xs.length ≤ 65536)
  (hb : ∀ r ∈ rs, -1073741824 ≤ r ∧ r ≤ 1073741824) :
  Calls Tryz.prog 118 #[.pointer (some ⟨gw, 0, none⟩), .pointer (some ⟨gs, 0, none⟩), .int .u64 4, .slice (some ⟨ge, 0, none⟩) rs.length cr] w fun e w' =>
   e = .returned .nilIface ∧ Wb R pre gw (bs ++ (bts 0 4 ++ (bts 12 4 ++ riceBits rs))) w' ∧ Kp B (gw :: S) w w' := by
 obtain ⟨n, hrn⟩ : ∃ n, rs.length = n := ⟨_, rfl⟩
 have HRN := Lib.hid hrn
 have HH := Lib.hid h
 have HM := Lib.hid (And.intro hm hr)
 have HN := Lib.hid hn
 have HBD := Lib.hid hb
 have HX := Lib.hid hlen
 rw [hrn] at hlen ⊢
 obtain ⟨cfv, ca, cp, cs1, cs2, h1, h2, h3, h4, h5, h6, h7⟩ := id hm
 have c7 : w.cell? ⟨gs, 7, none⟩ = some (.pointer (some ⟨gr, 0, none⟩)) := by rw [cell_of_row w gs 7 _ _ _ h1]; rfl
 have d0 : w.cell? ⟨gr, 0, none⟩ = some (.int .i64 0) := by rw [cell_of_row w gr 0 _ _ _ h5]; rfl
 have HW := Lib.hid (wb_bits h hB 0 4 (by omega) (by omega) hp (by omega))
 clear h hm hr hn hb h1 h2 h3 h4 h5 h6 h7 hrn
 go_enter Tryz.func118, Tryz.ntmps118
 go_wp2_with fail
 refine HW.out.mono ?_
 rintro e w1 ⟨rfl, hb, hk⟩
 have hm := HM.out.1.keep hk (fun q hq => HN.out q (by simp at hq ⊢; omega))
 obtain ⟨cfv, ca, cp, cs1, cs2, h1, h2, h3, h4, h5, h6, h7⟩ := id hm
 have d0 : w1.cell? ⟨gr, 0, none⟩ = some (.int .i64 0) := by rw [cell_of_row w1 gr 0 _ _ _ h5]; rfl
 have d1 : w1.cell? ⟨gr, 1, none⟩ = some (.slice (some ⟨gp, 0, none⟩) 1 cp) := by rw [cell_of_row w1 gr 1 _ _ _ h5]; rfl
 have e0 : w1.cell? ⟨gp, 0, none⟩ = some (.int .u64 12) := by rw [cell_of_row w1 gp 0 _ _ _ h6]; exact h7
 have X1 := Lib.hid (And.intro hb (And.intro hk hm))
 have HW := Lib.hid (wb_bits X1.out.1 (Nat.le_trans hB X1.out.2.1.bel.size) 12 4 (by omega) (by omega) hp (by simp only [List.length_append, bts_len]; omega))
 clear hb hk hm h1 h2 h3 h4 h5 h6 h7
 go_wp2_with fail
 refine wp_loop_rounds 2 ?_
 rw [rounds_succ]
 go_wp2_with fail
 refine HW.out.mono ?_
 rintro e w2 ⟨rfl, hb, hk⟩
 have hm := X1.out.2.2.keep hk (fun q hq => HN.out q (by simp at hq ⊢; omega))
 obtain ⟨cfv, ca, cp, cs1, cs2, h1, h2, h3, h4, h5, h6, h7⟩ := id hm
 have c1 : w2.cell? ⟨gs, 1, none⟩ = some (.int .i64 o) := by rw [cell_of_row w2 gs 1 _ _ _ h1]; rfl
 have c9 : w2.cell? ⟨gs, 9, none⟩ = some (.int .i64 xs.length) := by rw [cell_of_row w2 gs 9 _ _ _ h1]; rfl
 have hr2 := HM.out.2.keep (X1.out.2.1.trans hk) (HN.out ge (by simp))
 have X2 := Lib.hid (And.intro hb (And.intro (X1.out.2.1.trans hk) (And.intro hm hr2)))
 clear hb hk hm h1 h2 h3 h4 h5 h6 h7 hr2
 go_wp2_with fail
 have hsub : IntKind.i64.wrap ((xs.length : Int) - (o : Int)) = (n : Int) := by rw [IntKind.wrap_i64]; omega
 go_quiet (fail)
 clear hsub
 obtain ⟨w3, hw3⟩ : ∃ w3, w2.drewN nq = w3 := ⟨_, rfl⟩
 have t3 : Touch [] w2 w3 := by rw [← hw3]; exact (Touch.refl [] w2).drewN nq
 have hk3 : Kp B (gw :: S) w2 w3 := (Kp.of_touch t3 (by simp) (Nat.le_trans hB X2.out.2.1.bel.size)).mono (by simp)
 have hwb3 := X2.out.1.move t3 (by simp)
 rw [hw3]
 have X3 := Lib.hid (And.intro hwb3 (And.intro (X2.out.2.1.trans hk3) (And.intro (X2.out.2.2.1.keep hk3 (fun q hq => HN.out q (by simp at hq ⊢; omega))) (X2.out.2.2.2.keep hk3 (HN.out ge (by simp))))))
 clear hw3 t3 hk3 hwb3
 go_wp2_with fail
 clear c1 c9
 have hnb : n ≤ 65536 := by omega
 go_loopw [13, 23] (fun iv jv wr => ∃ j : Nat, j ≤ n ∧ iv = .int .i64 j ∧ jv = .int .i64 j ∧ Wb R pre gw (((bs ++ bts 0 4) ++ bts 12 4) ++ riceBits (rs.take j)) wr ∧ Kp B (gw :: S) w wr ∧ Row32 wr ge rs) (fun _ jv _ => n - (intOf jv).toNat)
 case atStart => exact ⟨0, by omega, rfl, rfl, by rw [List.take_zero, riceBits, List.append_nil]; exact X3.out.1, X3.out.2.1, X3.out.2.2.2⟩
 case round =>
  obtain ⟨j, hj, rfl, rfl, hb, hk, hr⟩ := hrel
  have X := Lib.hid (And.intro hb (And.intro hk hr))
  clear hb hk hr
  by_cases hlt : j < n
  ·have hjr : j < rs.length := by rw [HRN.out]; exact hlt
   obtain ⟨r, hrj⟩ : ∃ r, rs.getD j 0 = r := ⟨_, rfl⟩
   have cj := X.out.2.2.cell j hjr
   rw [hrj] at cj
   have hge : rs[j] = r := by rw [← hrj, List.getD_eq_getElem?_getD, List.getElem?_eq_getElem hjr]; rfl
   have hrb := HBD.out r (by rw [← hge]; exact List.getElem_mem hjr)
   have ht1 : rs.take (j + 1) = rs.take j ++ [r] := by rw [← hge]; exact List.take_succ_eq_append_getElem hjr
   have hbl := riceBits_len (rs.take j) (fun x hx => HBD.out x (List.mem_of_mem_take hx))
   rw [List.length_take] at hbl
   have HO := Lib.hid (rice_one X.out.1 (Nat.le_trans hB X.out.2.1.bel.size) hp (by simp only [List.length_append, bts_len]; omega) r hrb.1 hrb.2)
   have HT := Lib.hid ht1
   clear hrj hge hrb ht1 hbl hjr
   go_wp2_with fail
   refine HO.out.mono ?_
   rintro e w5 ⟨rfl, hb, hk⟩
   rw [List.append_assoc, ← riceBits_snoc, ← HT.out] at hb
   have Y := Lib.hid (And.intro hb (And.intro (X.out.2.1.trans hk) (X.out.2.2.keep hk (HN.out ge (by simp)))))
   clear hb hk
   go_wp2_with fail
   go_roundw
   case rel => exact ⟨j + 1, by omega, by go_num, by go_num, Y.out⟩
   case measure => simp [intOf]; omega
  ·obtain rfl : j = n := by omega
   go_wp2_with fail
   rw [rounds_succ]
   go_wp2_with fail
   go_ret
   have hb := X.out.1
   rw [List.take_of_length_le (by rw [HRN.out]; exact Nat.le_refl _)] at hb
   simp only [List.append_assoc] at hb
   exact ⟨rfl, hb, X.out.2.1⟩
set_option maxHeartbeats 2000000 in
set_option maxRecDepth 100000 in
theorem enc_residuals {R : Snk ty fn g B S St} {pre : List Int} {gw : Nat} {bs : List Nat} {w : World} (h : Wb R pre gw bs w) (hB : B ≤ w.heap.size) (hp : pre.length ≤ 30000000000000) (hl : bs.length ≤ 30000000000000)
  {gs ga gr gp ge K o : Nat} {xs rs : List Int} (cr : Nat) (hm : SubMem w gs ga gr gp K o xs) (hr : Row32 w ge rs) (hn : ∀ q ∈ [gs, ga, gr, gp, ge], q ∉ gw :: S) (hlen : xs.length = o + rs.length) (hx : xs.length ≤ 65536)
  (hb : ∀ r ∈ rs, -1073741824 ≤ r ∧ r ≤ 1073741824) :
  Calls Tryz.prog 110 #[.pointer (some ⟨gw, 0, none⟩), .pointer (some ⟨gs, 0, none⟩), .slice (some ⟨ge, 0, none⟩) rs.length cr] w fun e w' =>
   e = .returned .nilIface ∧ Wb R pre gw (bs ++ (bts 0 2 ++ (bts 0 4 ++ (bts 12 4 ++ riceBits rs)))) w' ∧ Kp B (gw :: S) w w' := by
 have HH := Lib.hid h
 have HM := Lib.hid (And.intro hm hr)
 have HN := Lib.hid hn
 have HBD := Lib.hid hb
 have HX := Lib.hid hlen
 obtain ⟨cfv, ca, cp, cs1, cs2, h1, h2, h3, h4, h5, h6, h7⟩ := id hm
 have c3 : w.cell? ⟨gs, 3, none⟩ = some (.int .u8 0) := by rw [cell_of_row w gs 3 _ _ _ h1]; rfl
 have HW := Lib.hid (wb_bits h hB 0 2 (by omega) (by omega) hp (by omega))
 clear h hm hr hn hb h1 h2 h3 h4 h5 h6 h7 hlen
 go_enter Tryz.func110, Tryz.ntmps110
 go_wp2_with fail
 refine HW.out.mono ?_
 rintro e w1 ⟨rfl, hb, hk⟩
 have hm := HM.out.1.keep hk (fun q hq => HN.out q (by simp at hq ⊢; omega))
 obtain ⟨cfv, ca, cp, cs1, cs2, h1, h2, h3, h4, h5, h6, h7⟩ := id hm
 have c3 : w1.cell? ⟨gs, 3, none⟩ = some (.int .u8 0) := by rw [cell_of_row w1 gs 3 _ _ _ h1]; rfl
 have X1 := Lib.hid (And.intro hb (And.intro hk (And.intro hm (HM.out.2.keep hk (HN.out ge (by simp))))))
 clear hb hk hm h1 h2 h3 h4 h5 h6 h7
 go_wp2_with fail
 refine (rice_part X1.out.1 (Nat.le_trans hB X1.out.2.1.bel.size) hp (by simp only [List.length_append, bts_len]; omega) cr X1.out.2.2.1 X1.out.2.2.2 HN.out HX.out hx HBD.out).mono ?_
 rintro e w2 ⟨rfl, hb, hk⟩
 rw [List.append_assoc] at hb
 have X2 := Lib.hid (And.intro hb (X1.out.2.1.trans hk))
 clear hb hk
 go_wp2_with fail
 go_ret
 exact ⟨rfl, X2.out⟩
end Go.Proofs.YtmcllndnjdemaaaGreatDoor.Walk
