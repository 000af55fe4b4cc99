/- The walk of the law: a header with one of its bits turned is refused, where the reference refuses it. -/
import Derived.Test.YtcdfbcanebjmfaaDoorRh
import Derived.Test.YtcdfbcanebjmfaaDoorHw
import Derived.Test.YtcdfbcanebjmfaaDoorHdrI
import Derived.IntWalk
import Derived.StillTailTactics
namespace Go.Proofs.YtcdfbcanebjmfaaDoor.Walk
set_option linter.unusedVariables false
set_option linter.unusedSimpArgs false
open Go Go.RowKit Go.Proofs.YtcdfbcanebjmfaaDoorW.PrintWords Go.Proofs.YtcdfbcanebjmfaaDoorW.PrintLast Go.Proofs.YtcdfbcanebjmfaaDoorW.PrintMore Go.Proofs.YtcdfbcanebjmfaaDoor.Num Go.Proofs.YtcdfbcanebjmfaaDoor.Crc

theorem head_len (vr : Bool) (sz rt asg nm cs cr cb : Nat) : (headBytes vr sz rt asg nm cs cr cb).length ≤ 20 := by
  have h1 : (sizeExt cs sz).length ≤ 2 := by unfold sizeExt; (repeat' split) <;> simp
  have h2 : (rateExt cr rt).length ≤ 2 := by unfold rateExt; (repeat' split) <;> simp
  have h3 := more_le nm
  unfold headBytes
  rw [List.length_append, List.length_append, List.length_append, coded_len]
  show 4 + _ + _ + _ ≤ 20
  omega
theorem head_len6 (vr : Bool) (sz rt asg nm cs cr cb : Nat) : 5 ≤ (headBytes vr sz rt asg nm cs cr cb).length := by
  unfold headBytes
  rw [List.length_append, List.length_append, List.length_append, coded_len]
  show 5 ≤ 4 + (more nm + 1) + _ + _
  omega
theorem xor_byte (x z : Int) : ∃ y : Nat, Go.bits .xor .u8 x z = (y : Int) ∧ y < 256 := by
  have h : ∃ t : Int, Go.bits .xor .u8 x z = IntKind.u8.wrap t := ⟨_, rfl⟩
  obtain ⟨t, ht⟩ := h
  refine ⟨(Go.bits .xor .u8 x z).toNat, ?_, ?_⟩ <;> rw [ht, IntKind.wrap_u8] <;> omega

set_option maxHeartbeats 8000000 in
set_option maxRecDepth 100000 in
theorem lawTurned (x s v t : Nat) (w : World) (ea eb es : Addr) (hx : x < 4294967296) (hs : s < 65536) (hv : v < 18446744073709551616) (ht : t < 65536) (hG : Glob w ea eb)
    (hes : w.cell? ⟨0, 0, none⟩ = some (.iface 130 (.pointer (some es)))) (hsafe : ∀ k, w.heap.size ≤ k → Safe ea eb k ∧ k ≠ 0) :
    Calls Tryd.prog 4 #[.int .u32 x, .int .u16 s, .int .u64 v, .int .u16 t] w fun e w' => e = .returned (.bool true) ∧ Below w.heap.size w w' := by
  have HG := Lib.hid hG
  have HSF := Lib.hid hsafe
  have HES := Lib.hid hes
  clear hG hsafe hes
  obtain ⟨N, hN⟩ : ∃ N, w.heap.size = N := ⟨_, rfl⟩
  rw [hN]
  obtain ⟨vr, hvr⟩ : ∃ vr : Bool, (Go.bits .and .u32 (x : Int) 1 != 0) = vr := ⟨_, rfl⟩
  obtain ⟨pl, hpl⟩ : ∃ pl : Bool, (Go.bits .and .u32 ((x : Int) / 256) 1 != 0) = pl := ⟨_, rfl⟩
  obtain ⟨s1, hs1⟩ : ∃ s1 : Nat, s % 65535 = s1 := ⟨_, rfl⟩
  have es1 : (s : Int) % 65535 = (s1 : Int) := by omega
  obtain ⟨sz, hsz⟩ : ∃ sz : Nat, 1 + s1 = sz := ⟨_, rfl⟩
  have esz : (1 : Int) + (s1 : Int) = (sz : Int) := by omega
  have hsz1 : 1 ≤ sz := by omega
  have hsz2 : sz ≤ 65535 := by omega
  obtain ⟨asg, hasg⟩ : ∃ asg : Nat, x / 2 % 11 = asg := ⟨_, rfl⟩
  have easg : (x : Int) / 2 % 11 = (asg : Int) := by omega
  have hasg11 : asg < 11 := by omega
  obtain ⟨nm, hnm⟩ : ∃ nm : Nat, v % 2147483648 = nm := ⟨_, rfl⟩
  have enm : (v : Int) % 2147483648 = (nm : Int) := by omega
  have hnmb : nm < 68719476736 := by omega
  go_enter Tryd.func4, Tryd.ntmps4
  go_upto_region 2 with fail
  obtain ⟨w1, hw1⟩ : ∃ w1, w.alloc (.cells #[.bool vr, .int .i64 sz, .int .i64 0, .int .i64 asg, .int .i64 16, .int .u64 nm] 29) = w1 := ⟨_, rfl⟩
  rw [hw1]
  have hb1 : Below N w w1 := by rw [← hw1, ← hN]; exact (Below.refl _ _).alloc (Nat.le_refl _) _
  have hk1 : w1.heap[N]? = some (.cells #[.bool vr, .int .i64 sz, .int .i64 0, .int .i64 asg, .int .i64 16, .int .u64 nm] 29 (0, 0)) := by rw [← hw1, ← hN]; exact heap_alloc_new _ _
  have hs1' : w1.heap.size = N + 1 := by rw [← hw1, World.size_alloc, hN]
  have d0 : w1.cell? ⟨N, 0, none⟩ = some (.bool vr) := by rw [cell_of_row w1 N 0 _ _ _ hk1]; rfl
  have d1 : w1.cell? ⟨N, 1, none⟩ = some (.int .i64 sz) := by rw [cell_of_row w1 N 1 _ _ _ hk1]; rfl
  have d2 : w1.cell? ⟨N, 2, none⟩ = some (.int .i64 0) := by rw [cell_of_row w1 N 2 _ _ _ hk1]; rfl
  have d3 : w1.cell? ⟨N, 3, none⟩ = some (.int .i64 asg) := by rw [cell_of_row w1 N 3 _ _ _ hk1]; rfl
  have d4 : w1.cell? ⟨N, 4, none⟩ = some (.int .i64 16) := by rw [cell_of_row w1 N 4 _ _ _ hk1]; rfl
  have d5 : w1.cell? ⟨N, 5, none⟩ = some (.int .u64 nm) := by rw [cell_of_row w1 N 5 _ _ _ hk1]; rfl
  have Y := Lib.hid (And.intro hb1 (And.intro hk1 hs1'))
  have HN := Lib.hid hN
  clear hw1 hb1 hk1 hs1' hN hs1 hsz es1 esz hasg easg hnm enm hvr
  go_wp2_with fail
  refine (write_head vr pl sz 0 asg 16 nm w1 hsz1 hsz2 (by decide) (by omega) (by decide) hnmb).mono ?_
  rintro e w3 ⟨xb, cs, cr, cb, hsc, hrc, hbp, hcb8, rfl, hO, hB⟩
  obtain ⟨hb, hhb⟩ : ∃ hb, headBytes vr sz 0 asg nm cs cr cb ++ [up8 (f8 7) 0 (headBytes vr sz 0 asg nm cs cr cb)] = hb := ⟨_, rfl⟩
  have hlen : (headBytes vr sz 0 asg nm cs cr cb).length + 1 = hb.length := by rw [← hhb, List.length_append, List.length_singleton]
  have hl20 : hb.length ≤ 21 := by rw [← hlen]; exact Nat.succ_le_succ (head_len vr sz 0 asg nm cs cr cb)
  have hl6 : 6 ≤ hb.length := by rw [← hlen]; exact Nat.succ_le_succ (head_len6 vr sz 0 asg nm cs cr cb)
  have hbyte : ∀ x ∈ hb, 0 ≤ x ∧ x ≤ 255 := fun x hx => by
    have h1 := head_byte vr sz 0 asg nm cs cr cb hsz1 hsz2 (by decide) (by omega) hnmb hsc hrc hcb8
    rw [← hhb] at hx
    rcases List.mem_append.1 hx with h | h
    · exact h1 x h
    · obtain ⟨z, hz, hz2⟩ := sum_byte _ h1
      rw [List.mem_singleton.1 h, hz]; omega
  have his : HdrIs hb ⟨!vr, sz, 0, asg, 16, nm⟩ := by
    have h := head_is vr sz 0 asg 16 nm cs cr cb [] hsz1 hsz2 (by decide) (fun h => by omega) hasg11 hnmb hsc hrc hcb8 hbp
    rw [hhb] at h; exact h
  rw [hhb, hlen] at hO
  obtain ⟨g, cap, o, rfl, hgb, hgo, hpin⟩ := own_pin hO (by omega)
  have hcap := own_cap hO
  obtain ⟨n, hn⟩ : ∃ n, hb.length = n := ⟨_, rfl⟩
  rw [hn] at hl20 hl6 hcap hpin hO ⊢
  have hgb2 : N + 1 ≤ g := by have := Y.out.2.2; omega
  have hB3 : Below N w w3 := below_then Y.out.1 (by have := Y.out.2.2; omega) hB
  have hk3 := (hB.block N (by have := Y.out.2.2; omega)).trans Y.out.2.1
  have hg3 : g < w3.heap.size := (Array.getElem?_eq_some_iff.1 hgo).1
  obtain ⟨A3, c3, hxe, hR3⟩ := own_reads hO
  injection hxe with e1 e2 e3
  subst e1
  subst e3
  have Z := Lib.hid (And.intro hB3 (And.intro hk3 hgo))
  have HIS := Lib.hid his
  have HBY := Lib.hid hbyte
  have HPIN := Lib.hid hpin
  have HLN := Lib.hid hn
  have HR3 := Lib.hid hR3
  have HG3 := Lib.hid (And.intro hgb2 hg3)
  clear hO hB hk3 hB3 his hbyte hlen hhb hn hpin hR3 hgo hgb hgb2 hg3 d0 d1 d2 d3 d4 d5 Y hsc hrc hbp hcb8 hpl
  go_wp2_with (with_reducible refine stop_dst (N := 42) rfl ?_)
  refine unstop ?_
  refine print_append_row (w0 := w3) w3.heap.size rfl (.tmp 40) (.tmp 41) 25 5 .u8 1 rfl Tryd.underlying25 infoU8 (by decide) _ [] hb (some ⟨g, 0, none⟩) n cap rfl rfl ?aO ?aR ?aB ?aS ?aL ?_
  case aO => exact World.ownsRow_lit (base := w3.heap.size) w3 #[] 0 (Nat.le_refl _) (by unfold maxLen; omega) (by simp)
  case aR => exact HR3.out.below (below_alloc (Below.refl _ _) _)
  case aB => exact (Below.refl _ _).alloc (Nat.le_refl _) _
  case aS => exact (below_alloc (Below.refl w3.heap.size w3) _).size
  case aL => simp [HLN.out]; omega
  intro v2 w4 hO4 hB4 _ _
  rw [List.nil_append] at hO4
  obtain ⟨A4, c4, rfl, hR4⟩ := own_reads hO4
  have hc4 := own_cap hO4
  have hB4w : Below w.heap.size w w4 := by rw [HN.out]; exact below_then Z.out.1 (by have := HG3.out; omega) hB4
  have hk4 := (hB4.block N (by have := HG3.out; omega)).trans Z.out.2.1
  have hg4 := (hB4.block g HG3.out.2).trans Z.out.2.2
  have hcall := header_impl A4 hb.length c4 hb w4 ea eb es hR4 hc4 (by rw [HLN.out]; omega) HBY.out (HG.out.touch (U := []) (Touch.of_below hB4w) (by simp)) ((Touch.of_below (S := []) hB4w).cell HES.out (by simp)) (fun k hk => HSF.out k (Nat.le_trans hB4w.size hk))
  rw [HLN.out] at hcall hc4 ⊢
  have HCALL := Lib.hid hcall
  have X4 := Lib.hid (And.intro hB4w (And.intro hk4 hg4))
  clear hO4 hR4 hB4 hB4w hk4 hg4 hcall Z HR3
  go_wp2_with fail
  refine HCALL.out.mono ?_
  rintro e w5 ⟨hb5, ⟨f, hf, rfl⟩ | ⟨hno, _⟩⟩
  case inr => exact absurd HIS.out (hno _)
  obtain rfl := HIS.out.same hf
  have hlt4 : g < w4.heap.size := (Array.getElem?_eq_some_iff.1 X4.out.2.2).1
  have hk5 := (hb5.block N (Array.getElem?_eq_some_iff.1 X4.out.2.1).1).trans X4.out.2.1
  have hg5 := (hb5.block g hlt4).trans X4.out.2.2
  have X5 := Lib.hid (And.intro (below_then X4.out.1 X4.out.1.size hb5) (And.intro hk5 hg5))
  unfold frV
  simp only [Bool.not_not]
  clear hb5 hf hk5 hg5 hlt4 HCALL X4
  go_upto_region 4 with fail
  obtain ⟨w6, hw6⟩ : ∃ w6, w5.alloc (.cells #[.bool vr, .int .i64 sz, .int .i64 0, .int .i64 asg, .int .i64 16, .int .u64 nm, .slice none 0 0] 33) = w6 := ⟨_, rfl⟩
  have hb6 : Below w.heap.size w w6 := by rw [← hw6]; exact X5.out.1.alloc X5.out.1.size _
  have hf6 : w6.heap[w5.heap.size]? = some (.cells #[.bool vr, .int .i64 sz, .int .i64 0, .int .i64 asg, .int .i64 16, .int .u64 nm, .slice none 0 0] 33 (0, 0)) := by rw [← hw6]; exact heap_alloc_new _ _
  have hN5 : N < w5.heap.size := (Array.getElem?_eq_some_iff.1 X5.out.2.1).1
  have hg5 : g < w5.heap.size := (Array.getElem?_eq_some_iff.1 X5.out.2.2).1
  have hk6 : w6.heap[N]? = some (.cells #[.bool vr, .int .i64 sz, .int .i64 0, .int .i64 asg, .int .i64 16, .int .u64 nm] 29 (0, 0)) := by rw [← hw6]; exact (Below.heap_alloc _ _ _ (by omega)).trans X5.out.2.1
  have hg6 : w6.heap[g]? = some o := by rw [← hw6]; exact (Below.heap_alloc _ _ _ (by omega)).trans X5.out.2.2
  obtain ⟨F, hF⟩ : ∃ F, w5.heap.size = F := ⟨_, rfl⟩
  rw [hw6]
  rw [hF] at hf6 hN5 hg5 ⊢
  have hown := HPIN.out w6 hg6
  have X6 := Lib.hid (And.intro hb6 (And.intro hf6 (And.intro hk6 hown)))
  have HFG := Lib.hid (And.intro hN5 hg5)
  clear hw6 hb6 hf6 hk6 hg6 hF hN5 hg5 hown X5
  obtain ⟨m8, hm8⟩ : ∃ m8, 8 * n = m8 := ⟨_, rfl⟩
  have em8 : (8 : Int) * (n : Int) = (m8 : Int) := by omega
  obtain ⟨m, hm⟩ : ∃ m, m8 - 16 = m := ⟨_, rfl⟩
  have em : (m8 : Int) - 16 = (m : Int) := by omega
  have hm32 : 32 ≤ m := by omega
  obtain ⟨r0, hr0⟩ : ∃ r0, t % m = r0 := ⟨_, rfl⟩
  have hr0m : r0 < m := by rw [← hr0]; exact Nat.mod_lt _ (by omega)
  have er0 : (t : Int) % (m : Int) = (r0 : Int) := by rw [← hr0]; exact (Int.natCast_emod t m).symm
  have et0 : (t : Int).tmod (m : Int) = (r0 : Int) := by rw [Int.tmod_eq_emod_of_nonneg (by omega)]; exact er0
  obtain ⟨kk, hkk⟩ : ∃ kk, 16 + r0 = kk := ⟨_, rfl⟩
  have ekk : (16 : Int) + (r0 : Int) = (kk : Int) := by omega
  have hm0 : ((m : Int) = 0) = False := by simp; omega
  have hkb : kk < 8 * n := by omega
  have hm168 : m ≤ 168 := by omega
  clear hr0 hm8
  go_upto_region 5 with fail
  obtain ⟨q, hq⟩ : ∃ q, kk / 8 = q := ⟨_, rfl⟩
  obtain ⟨r, hr⟩ : ∃ r, kk % 8 = r := ⟨_, rfl⟩
  have eq1 : (kk : Int) / 8 = (q : Int) := by omega
  have er1 : (kk : Int) % 8 = (r : Int) := by omega
  have htd : (kk : Int).tdiv 8 = (q : Int) := by rw [Int.tdiv_eq_ediv_of_nonneg (by omega)]; exact eq1
  have htm : (kk : Int).tmod 8 = (r : Int) := by rw [Int.tmod_eq_emod_of_nonneg (by omega)]; exact er1
  have hwk : IntKind.i64.wrap (kk : Int) = (kk : Int) := by rw [IntKind.wrap_i64]; omega
  have hwq : IntKind.i64.wrap (q : Int) = (q : Int) := by rw [IntKind.wrap_i64]; omega
  have hwr : IntKind.i64.wrap (r : Int) = (r : Int) := by rw [IntKind.wrap_i64]; omega
  have hqn : q < n := by omega
  have hr7 : r ≤ 7 := by omega
  have hown := X6.out.2.2.2
  obtain ⟨xv, hxv⟩ : ∃ xv : Nat, hb.getD q 0 = (xv : Int) := by
    have hql : q < hb.length := by rw [HLN.out]; exact hqn
    have := (HBY.out _ (List.getElem_mem hql)).1
    rw [List.getD_eq_getElem?_getD, List.getElem?_eq_getElem hql]
    exact ⟨(hb[q]).toNat, by simp; omega⟩
  have hx255 : xv < 256 := by
    have hql : q < hb.length := by rw [HLN.out]; exact hqn
    have := (HBY.out _ (List.getElem_mem hql)).2
    rw [List.getD_eq_getElem?_getD, List.getElem?_eq_getElem hql] at hxv
    simp at hxv; omega
  have c2' : w6.cell? ⟨g, q, none⟩ = some (.int .u8 xv) := by
    have hql : q < hb.length := by rw [HLN.out]; exact hqn
    rw [hown.cellAt q (by omega)]
    rw [List.getD_eq_getElem?_getD, List.getElem?_eq_getElem hql] at hxv
    simp [nums, hql] at hxv ⊢; exact hxv
  have f2' : w6.frozen? ⟨g, q, none⟩ = false := hown.frozenAt q
  obtain ⟨z, hz⟩ : ∃ z : Nat, 2 ^ r = z := ⟨_, rfl⟩
  have hzw : IntKind.u8.wrap ((2 : Int) ^ r) = (z : Int) := by
    have h8 : 2 ^ r < 2 ^ 8 := Nat.pow_lt_pow_right (by decide) (by omega)
    have e : ((2 : Int) ^ r) = ((2 ^ r : Nat) : Int) := by simp
    rw [e, hz, IntKind.wrap_u8]; omega
  obtain ⟨y, hy, hy255⟩ := xor_byte xv z
  have HOW := Lib.hid hown
  clear hz hown hxv hq hr
  go_still_tail 10, (by kernel_rfl)
  go_wp2_with fail
  have hrow := (World.ownsRow.stored (w := w6.drew) HOW.out q (.int .u8 y)).1
  rw [show (nums .u8 hb).set q (.int .u8 y) = nums .u8 (hb.set q (y : Int)) by simp [nums, List.map_set]] at hrow
  obtain ⟨w7, hw7⟩ : ∃ w7, (w6.setCell ⟨g, q, none⟩ (.int .u8 y)).drew = w7 := ⟨_, rfl⟩
  have hrow7 : w7.ownsRow w1.heap.size 5 1 (.slice (some ⟨g, 0, none⟩) n cap) n (nums .u8 (hb.set q (y : Int))) := by rw [← hw7]; exact hrow
  have hNg : N < g := by have := HG3.out.1; omega
  have hFN := HFG.out
  have hb7 : Below w.heap.size w w7 := by rw [← hw7]; exact (X6.out.1.setCell (p := ⟨g, q, none⟩) (by rw [HN.out]; exact Nat.le_of_lt hNg) _).drew
  have hf7 : w7.heap[F]? = some (.cells #[.bool vr, .int .i64 sz, .int .i64 0, .int .i64 asg, .int .i64 16, .int .u64 nm, .slice none 0 0] 33 (0, 0)) := by
    rw [← hw7]; exact (Below.heap_setCell w6 ⟨g, q, none⟩ _ F (by show F ≠ g; omega)).trans X6.out.2.1
  have hk7 : w7.heap[N]? = some (.cells #[.bool vr, .int .i64 sz, .int .i64 0, .int .i64 asg, .int .i64 16, .int .u64 nm] 29 (0, 0)) := by
    rw [← hw7]; exact (Below.heap_setCell w6 ⟨g, q, none⟩ _ N (by show N ≠ g; omega)).trans X6.out.2.2.1
  obtain ⟨l2, hl2⟩ : ∃ l2, hb.set q (y : Int) = l2 := ⟨_, rfl⟩
  have hln2 : l2.length = n := by rw [← hl2, List.length_set]; exact HLN.out
  have hby2 : ∀ x ∈ l2, 0 ≤ x ∧ x ≤ 255 := fun x hx => by
    rw [← hl2] at hx
    rcases List.mem_or_eq_of_mem_set hx with h | h
    · exact HBY.out x h
    · rw [h]; omega
  rw [hl2] at hrow7
  have HBY2 := Lib.hid hby2
  have HLN2 := Lib.hid hln2
  have X7 := Lib.hid (And.intro hb7 (And.intro hf7 (And.intro hk7 hrow7)))
  rw [hw7]
  clear hw7 hrow hrow7 hb7 hf7 hk7 hby2 hln2 hl2 X6 HOW c2' f2' HIS HPIN
  refine (read_head (some ⟨g, 0, none⟩) n cap l2 w7 (own_reads' X7.out.2.2.2) hcap (by omega) hl6 HBY2.out).mono ?_
  rintro e w8 ⟨hb8, b0, i1, i2, i3, i4, i5, at_, st, rfl, hbad⟩
  have HBAD := Lib.hid hbad
  have hF7 := (Array.getElem?_eq_some_iff.1 X7.out.2.1).1
  have X8 := Lib.hid (And.intro (below_then X7.out.1 X7.out.1.size hb8) (And.intro ((hb8.block F hF7).trans X7.out.2.1) (And.intro ((hb8.block N (by omega)).trans X7.out.2.2.1) (own_touch X7.out.2.2.2 (Touch.of_below (S := []) hb8) (by simp)))))
  clear hb8 hbad hF7 X7
  go_upto_region 7 with fail
  obtain ⟨w9, hw9⟩ : ∃ w9, w8.alloc (.cells #[.bool b0, .int .i64 i1, .int .i64 i2, .int .i64 i3, .int .i64 i4, .int .u64 i5] 29) = w9 := ⟨_, rfl⟩
  rw [hw9]
  have hF8 := (Array.getElem?_eq_some_iff.1 X8.out.2.1).1
  have hb9 : Below w.heap.size w w9 := by rw [← hw9]; exact X8.out.1.alloc X8.out.1.size _
  have hf9 : w9.heap[F]? = some (.cells #[.bool vr, .int .i64 sz, .int .i64 0, .int .i64 asg, .int .i64 16, .int .u64 nm, .slice none 0 0] 33 (0, 0)) := by rw [← hw9]; exact (Below.heap_alloc _ _ _ (by omega)).trans X8.out.2.1
  have hk9 : w9.heap[N]? = some (.cells #[.bool vr, .int .i64 sz, .int .i64 0, .int .i64 asg, .int .i64 16, .int .u64 nm] 29 (0, 0)) := by rw [← hw9]; exact (Below.heap_alloc _ _ _ (by omega)).trans X8.out.2.2.1
  have hrow9 := own_touch X8.out.2.2.2 ((Touch.refl [] w8).alloc (.cells #[.bool b0, .int .i64 i1, .int .i64 i2, .int .i64 i3, .int .i64 i4, .int .u64 i5] 29)) (by simp)
  rw [hw9] at hrow9
  have hcall := header_impl (some ⟨g, 0, none⟩) n cap l2 w9 ea eb es (own_reads' hrow9) hcap (by omega) HBY2.out (HG.out.touch (U := []) (Touch.of_below hb9) (by simp)) ((Touch.of_below (S := []) hb9).cell HES.out (by simp)) (fun k hk => HSF.out k (Nat.le_trans hb9.size hk))
  have HCALL := Lib.hid hcall
  have X9 := Lib.hid (And.intro hb9 (And.intro hf9 hk9))
  obtain ⟨G, hG⟩ : ∃ G, w8.heap.size = G := ⟨_, rfl⟩
  rw [hG]
  clear hw9 hb9 hf9 hk9 hrow9 hcall hF8 X8 hG
  go_wp2_with fail
  refine HCALL.out.mono ?_
  rintro e w10 ⟨hb10, hor⟩
  have hF9 := (Array.getElem?_eq_some_iff.1 X9.out.2.1).1
  have X10 := Lib.hid (And.intro (below_then X9.out.1 X9.out.1.size hb10) (And.intro ((hb10.block F hF9).trans X9.out.2.1) ((hb10.block N (by omega)).trans X9.out.2.2)))
  clear hb10 hF9 X9 HCALL
  rcases hor with ⟨f, hf, rfl⟩ | ⟨hno, rfl⟩
  case inl =>
    have hst1 : (st != 1) = true := by
      simp only [bne_iff_ne, ne_eq]
      exact fun h => HBAD.out h f hf
    clear hf
    unfold frV
    go_upto_region 8 with fail
    obtain ⟨w11, hw11⟩ : ∃ w11, w10.alloc (.cells #[.bool (!f.fx), .int .i64 f.size, .int .i64 f.rate, .int .i64 f.ch, .int .i64 f.bits, .int .u64 f.num, .slice none 0 0] 33) = w11 := ⟨_, rfl⟩
    rw [hw11]
    have hF := (Array.getElem?_eq_some_iff.1 X10.out.2.1).1
    have hf11 : w11.heap[F]? = some (.cells #[.bool vr, .int .i64 sz, .int .i64 0, .int .i64 asg, .int .i64 16, .int .u64 nm, .slice none 0 0] 33 (0, 0)) := by rw [← hw11]; exact (Below.heap_alloc _ _ _ (by omega)).trans X10.out.2.1
    have hk11 : w11.heap[N]? = some (.cells #[.bool vr, .int .i64 sz, .int .i64 0, .int .i64 asg, .int .i64 16, .int .u64 nm] 29 (0, 0)) := by rw [← hw11]; exact (Below.heap_alloc _ _ _ (by omega)).trans X10.out.2.2
    have k1 : w11.cell? ⟨F, 1, none⟩ = some (.int .i64 sz) := by rw [cell_of_row w11 F 1 _ _ _ hf11]; rfl
    have d1 : w11.cell? ⟨N, 1, none⟩ = some (.int .i64 sz) := by rw [cell_of_row w11 N 1 _ _ _ hk11]; rfl
    have HB := Lib.hid (show Below w.heap.size w w11 by rw [← hw11]; exact X10.out.1.alloc X10.out.1.size _)
    clear hw11 hf11 hk11 hF X10
    go_wp2_with fail
    go_ret
    exact ⟨rfl, by rw [← HN.out]; exact HB.out⟩
  case inr =>
    obtain ⟨sb, hsb⟩ : ∃ sb : Bool, (st != 1) = sb := ⟨_, rfl⟩
    clear hno
    go_upto_region 8 with fail
    obtain ⟨w11, hw11⟩ : ∃ w11, w10.alloc (.cells #[.bool false, .int .i64 0, .int .i64 0, .int .i64 0, .int .i64 0, .int .u64 0, .slice none 0 0] 33) = w11 := ⟨_, rfl⟩
    rw [hw11]
    have hF := (Array.getElem?_eq_some_iff.1 X10.out.2.1).1
    have hf11 : w11.heap[F]? = some (.cells #[.bool vr, .int .i64 sz, .int .i64 0, .int .i64 asg, .int .i64 16, .int .u64 nm, .slice none 0 0] 33 (0, 0)) := by rw [← hw11]; exact (Below.heap_alloc _ _ _ (by omega)).trans X10.out.2.1
    have hk11 : w11.heap[N]? = some (.cells #[.bool vr, .int .i64 sz, .int .i64 0, .int .i64 asg, .int .i64 16, .int .u64 nm] 29 (0, 0)) := by rw [← hw11]; exact (Below.heap_alloc _ _ _ (by omega)).trans X10.out.2.2
    have k1 : w11.cell? ⟨F, 1, none⟩ = some (.int .i64 sz) := by rw [cell_of_row w11 F 1 _ _ _ hf11]; rfl
    have d1 : w11.cell? ⟨N, 1, none⟩ = some (.int .i64 sz) := by rw [cell_of_row w11 N 1 _ _ _ hk11]; rfl
    have HB := Lib.hid (show Below w.heap.size w w11 by rw [← hw11]; exact X10.out.1.alloc X10.out.1.size _)
    clear hw11 hf11 hk11 hF X10
    cases sb <;> go_wp2_with fail
    all_goals
      go_ret
      exact ⟨rfl, by rw [← HN.out]; exact HB.out⟩

theorem nat_of_wf {k : IntKind} {x : Int} (h : (Lit.int k x).wf = true) (h0 : k.min = 0) : ∃ n : Nat, x = (n : Int) ∧ (n : Int) ≤ k.max := by
  simp only [Lit.wf, Bool.and_eq_true, decide_eq_true_eq] at h
  exact ⟨x.toNat, by omega, by omega⟩
theorem topTurned (w : World) (x s v t : Int) (hx : (Lit.int .u32 x).wf = true) (hs : (Lit.int .u16 s).wf = true) (hv : (Lit.int .u64 v).wf = true) (ht : (Lit.int .u16 t).wf = true)
    (ea eb es : Addr) (hG : Glob w ea eb) (hes : w.cell? ⟨0, 0, none⟩ = some (.iface 130 (.pointer (some es)))) (hsafe : ∀ k, w.heap.size ≤ k → Safe ea eb k ∧ k ≠ 0) :
    Calls Tryd.prog 4 #[.int .u32 x, .int .u16 s, .int .u64 v, .int .u16 t] w fun e w' => e = .returned (.bool true) ∧ Below w.heap.size w w' := by
  obtain ⟨x, rfl, hx⟩ := nat_of_wf hx rfl
  obtain ⟨s, rfl, hs⟩ := nat_of_wf hs rfl
  obtain ⟨v, rfl, hv⟩ := nat_of_wf hv rfl
  obtain ⟨t, rfl, ht⟩ := nat_of_wf ht rfl
  have m1 : IntKind.u32.max = 4294967295 := rfl
  have m2 : IntKind.u16.max = 65535 := rfl
  have m3 : IntKind.u64.max = 18446744073709551615 := rfl
  exact lawTurned x s v t w ea eb es (by omega) (by omega) (by omega) (by omega) hG hes hsafe
end Go.Proofs.YtcdfbcanebjmfaaDoor.Walk
