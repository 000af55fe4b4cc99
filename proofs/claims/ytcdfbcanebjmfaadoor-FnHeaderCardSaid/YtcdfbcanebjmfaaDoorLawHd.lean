/- The walk of the law: a header is read as it was written. -/
import Derived.Test.YtcdfbcanebjmfaaDoorSh
import Derived.Test.YtcdfbcanebjmfaaDoorHw
import Derived.Test.YtcdfbcanebjmfaaDoorHdrI
import Derived.Outline
import Derived.IntWalk
import Derived.Deep.DeepCutAuto
import Derived.Deep.RegionWith
import Derived.BigQuiet
namespace Go.Proofs.YtcdfbcanebjmfaaDoor.Walk
set_option linter.unusedVariables false
set_option linter.unusedSimpArgs false
open Go Go.RowKit Go.Proofs.YtcdfbcanebjmfaaDoorW.PrintWords Go.Proofs.YtcdfbcanebjmfaaDoorW.PrintLast Go.Proofs.YtcdfbcanebjmfaaDoorW.PrintMore Go.Proofs.YtcdfbcanebjmfaaDoor.Num Go.Proofs.YtcdfbcanebjmfaaDoor.Crc

theorem head_len (vr : Bool) (sz rt asg nm cs cr cb : Nat) : (headBytes vr sz rt asg nm cs cr cb).length ≤ 20 := by
  have h1 : (sizeExt cs sz).length ≤ 2 := by unfold sizeExt; (repeat' split) <;> simp
  have h2 : (rateExt cr rt).length ≤ 2 := by unfold rateExt; (repeat' split) <;> simp
  have h3 := more_le nm
  unfold headBytes
  rw [List.length_append, List.length_append, List.length_append, coded_len]
  show 4 + _ + _ + _ ≤ 20
  omega

set_option maxHeartbeats 8000000 in
set_option maxRecDepth 100000 in
theorem lawHeader (x s r v : Nat) (A : Option Addr) (n c : Nat) (l : List Int) (w : World) (ea eb es : Addr) (hx : x < 4294967296) (hs : s < 65536) (hr : r < 4294967296) (hv : v < 18446744073709551616)
    (hl : ReadsInt w .u8 A n l) (hc : n ≤ c) (hm : n ≤ 140737488351232) (hbytes : ∀ x ∈ l, 0 ≤ x ∧ x ≤ 255) (hG : Glob w ea eb)
    (hes : w.cell? ⟨0, 0, none⟩ = some (.iface 130 (.pointer (some es)))) (hsafe : ∀ k, w.heap.size ≤ k → Safe ea eb k ∧ k ≠ 0) :
    Calls Tryd.prog 3 #[.int .u32 x, .int .u16 s, .int .u32 r, .int .u64 v, .slice A n c] w fun e w' => e = .returned (.bool true) ∧ Below w.heap.size w w' := by
  have HL := Lib.hid hl
  have HB := Lib.hid hbytes
  have HG := Lib.hid hG
  have HSF := Lib.hid hsafe
  have HES := Lib.hid hes
  clear hl hbytes hG hsafe hes
  by_cases h1 : 2147483647 < n
  · go_enter Tryd.func3, Tryd.ntmps3
    go_wp2_with fail
    go_ret
    exact ⟨rfl, Below.refl _ _⟩
  by_cases h2 : 1000 < n
  · go_enter Tryd.func3, Tryd.ntmps3
    go_wp2_with fail
    go_ret
    exact ⟨rfl, Below.refl _ _⟩
  obtain ⟨N, hN⟩ : ∃ N, w.heap.size = N := ⟨_, rfl⟩
  rw [hN]
  obtain ⟨vr, hvr⟩ : ∃ vr : Bool, (Go.bits .and .u32 (x : Int) 1 != 0) = vr := ⟨_, rfl⟩
  obtain ⟨pl, hpl⟩ : ∃ pl : Bool, (Go.bits .and .u32 ((x : Int) / 256) 1 != 0) = pl := ⟨_, rfl⟩
  obtain ⟨s1, hs1⟩ : ∃ s1 : Nat, s % 65535 = s1 := ⟨_, rfl⟩
  have es1 : (s : Int) % 65535 = (s1 : Int) := by omega
  obtain ⟨sz, hsz⟩ : ∃ sz : Nat, 1 + s1 = sz := ⟨_, rfl⟩
  have esz : (1 : Int) + (s1 : Int) = (sz : Int) := by omega
  have hsz1 : 1 ≤ sz := by omega
  have hsz2 : sz ≤ 65535 := by omega
  obtain ⟨r1, hr1⟩ : ∃ r1 : Nat, r % 655351 = r1 := ⟨_, rfl⟩
  have er1 : (r : Int) % 655351 = (r1 : Int) := by omega
  have hr1b : r1 ≤ 655350 := by omega
  obtain ⟨asg, hasg⟩ : ∃ asg : Nat, x / 2 % 11 = asg := ⟨_, rfl⟩
  have easg : (x : Int) / 2 % 11 = (asg : Int) := by omega
  obtain ⟨bi, hbi⟩ : ∃ bi : Nat, x / 32 % 6 = bi := ⟨_, rfl⟩
  have ebi : (x : Int) / 32 % 6 = (bi : Int) := by omega
  have hbi6 : bi < 6 := by omega
  have hasg11 : asg < 11 := by omega
  obtain ⟨nm0, hnm⟩ : ∃ nm0 : Nat, v % 68719476736 = nm0 := ⟨_, rfl⟩
  have enm : (v : Int) % 68719476736 = (nm0 : Int) := by omega
  have hnm36 : nm0 < 68719476736 := by omega
  obtain ⟨bt, hbt, hbm⟩ : ∃ bt : Nat, ([.int .i64 0, .int .i64 8, .int .i64 12, .int .i64 16, .int .i64 20, .int .i64 24] : List Value)[bi]'(by simp; omega) = .int .i64 (bt : Nat) ∧ bt ∈ bitsTab := by
    rcases (by omega : bi = 0 ∨ bi = 1 ∨ bi = 2 ∨ bi = 3 ∨ bi = 4 ∨ bi = 5) with rfl | rfl | rfl | rfl | rfl | rfl
    · exact ⟨0, rfl, by decide⟩
    · exact ⟨8, rfl, by decide⟩
    · exact ⟨12, rfl, by decide⟩
    · exact ⟨16, rfl, by decide⟩
    · exact ⟨20, rfl, by decide⟩
    · exact ⟨24, rfl, by decide⟩
  have HBM := Lib.hid hbm
  clear hbm
  go_enter Tryd.func3, Tryd.ntmps3
  go_upto_if 43 with fail
  rw [← hN]
  obtain ⟨w0, hw0⟩ : ∃ w0, w.alloc (.cells #[.int .i64 0, .int .i64 8, .int .i64 12, .int .i64 16, .int .i64 20, .int .i64 24] 3) = w0 := ⟨_, rfl⟩
  have hb0 : Below w.heap.size w w0 := by rw [← hw0]; exact (Below.refl _ _).alloc (Nat.le_refl _) _
  have hs0 : w0.heap.size = w.heap.size + 1 := by rw [← hw0, World.size_alloc]
  rw [hw0]
  obtain ⟨w1, hw1⟩ : ∃ w1, w0.alloc (.cells #[.bool vr, .int .i64 sz, .int .i64 0, .int .i64 asg, .int .i64 bt, .int .u64 nm0] 29) = w1 := ⟨_, rfl⟩
  have hb1 : Below w.heap.size w w1 := by rw [← hw1]; exact hb0.alloc (by omega) _
  have hk1 : w1.heap[w.heap.size + 1]? = some (.cells #[.bool vr, .int .i64 sz, .int .i64 0, .int .i64 asg, .int .i64 bt, .int .u64 nm0] 29 (0, 0)) := by rw [← hw1, ← hs0]; exact heap_alloc_new _ _
  rw [hw1]
  rw [hN] at hb1 hk1 ⊢
  have HN := Lib.hid hN
  have Y1 := Lib.hid (And.intro hb1 hk1)
  clear hw0 hb0 hs0 hw1 hb1 hk1 hN hbt hs1 hsz es1 hr1 hasg easg hbi ebi hnm enm hbi6 esz hvr
  go_cut [11] (fun y wx => ∃ nm : Nat, nm < 68719476736 ∧ y = .pointer (some ⟨N + 1, 0, none⟩) ∧ wx.heap[N + 1]? = some (.cells #[.bool vr, .int .i64 sz, .int .i64 0, .int .i64 asg, .int .i64 bt, .int .u64 nm] 29 (0, 0)) ∧ Below N w wx)
  case first =>
    cases vr
    · have c5 : w1.cell? ⟨N + 1, 5, none⟩ = some (.int .u64 nm0) := by rw [cell_of_row w1 (N + 1) 5 _ _ _ Y1.out.2]; rfl
      have f5 : w1.frozen? ⟨N + 1, 5, none⟩ = false := by simp [World.frozen?, Y1.out.2]
      obtain ⟨nm1, hnm1⟩ : ∃ nm1, nm0 % 2147483648 = nm1 := ⟨_, rfl⟩
      have enm1 : (nm0 : Int) % 2147483648 = (nm1 : Int) := by omega
      have hnm2 : nm1 < 68719476736 := by omega
      clear hnm1
      go_wp2_with fail
      go_meet
      exact ⟨nm1, hnm2, rfl, by rw [blk_set Y1.out.2 5]; rfl, Y1.out.1.setCell (p := ⟨N + 1, 5, none⟩) (Nat.le_succ _) _⟩
    · go_wp2_with fail
      go_meet
      exact ⟨nm0, hnm36, rfl, Y1.out.2, Y1.out.1⟩
  case rest =>
    obtain ⟨nm, hnmb, rfl, hk2, hb2⟩ := hcut
    have Y2 := Lib.hid (And.intro hb2 hk2)
    have c2 : wc.cell? ⟨N + 1, 2, none⟩ = some (.int .i64 0) := by rw [cell_of_row wc (N + 1) 2 _ _ _ hk2]; rfl
    have f2 : wc.frozen? ⟨N + 1, 2, none⟩ = false := by simp [World.frozen?, hk2]
    clear hb2 hk2 Y1 hnm36
    obtain ⟨w2, hw2⟩ : ∃ w2, wc.setCell ⟨N + 1, 2, none⟩ (.int .i64 r1) = w2 := ⟨_, rfl⟩
    have hk2 : w2.heap[N + 1]? = some (.cells #[.bool vr, .int .i64 sz, .int .i64 r1, .int .i64 asg, .int .i64 bt, .int .u64 nm] 29 (0, 0)) := by rw [← hw2, blk_set Y2.out.2 2]; rfl
    have hb2 : Below N w w2 := by rw [← hw2]; exact Y2.out.1.setCell (p := ⟨N + 1, 2, none⟩) (Nat.le_succ _) _
    have d2 : w2.cell? ⟨N + 1, 2, none⟩ = some (.int .i64 r1) := by rw [cell_of_row w2 (N + 1) 2 _ _ _ hk2]; rfl
    have Y3 := Lib.hid (And.intro hb2 hk2)
    clear hb2 hk2
    refine (Decidable.em (65536 ≤ r1)).elim (fun hg => ?_) (fun hg => ?_)
    all_goals
      have hgb : decide ((65536 : Int) ≤ (r1 : Int)) = decide (65536 ≤ r1) := by congr 1; simp; omega
      first
        | (have hg1 : decide ((65536 : Int) ≤ (r1 : Int)) = true := by simp; omega)
        | (have hg1 : decide ((65536 : Int) ≤ (r1 : Int)) = false := by simp; omega)
      clear hgb
      go_upto_if 60 with fail
      go_cut [11] (fun y wx => ∃ rt : Nat, rt ≤ 655350 ∧ (65536 ≤ rt → rt % 10 = 0) ∧ y = .pointer (some ⟨N + 1, 0, none⟩) ∧ wx.heap[N + 1]? = some (.cells #[.bool vr, .int .i64 sz, .int .i64 rt, .int .i64 asg, .int .i64 bt, .int .u64 nm] 29 (0, 0)) ∧ Below N w wx)
      case first =>
        try rw [hw2]
        have g2 : w2.frozen? ⟨N + 1, 2, none⟩ = false := by simp [World.frozen?, Y3.out.2]
        obtain ⟨q, hq⟩ : ∃ q, r1 % 10 = q := ⟨_, rfl⟩
        have eq1 : (r1 : Int) % 10 = (q : Int) := by omega
        obtain ⟨d, hd⟩ : ∃ d, r1 - q = d := ⟨_, rfl⟩
        have ed : (r1 : Int) - (q : Int) = (d : Int) := by omega
        have hd1 : d ≤ 655350 := by omega
        have hd2 : d % 10 = 0 := by omega
        have HQ := Lib.hid hq
        have HD := Lib.hid (And.intro hd1 hd2)
        have HG1 := Lib.hid hg
        by_cases hq0 : q = 0
        · have b0 : ((q : Int) == 0) = true := by simp; omega
          have HQ0 := Lib.hid hq0
          clear hq hd hd1 hd2 hq0 hg hw2
          go_wp2_with fail
          go_meet
          exact ⟨r1, hr1b, fun _ => by rw [HQ.out]; exact HQ0.out, rfl, Y3.out.2, Y3.out.1⟩
        · have b0 : ((q : Int) == 0) = false := by simp; omega
          have HQ0 := Lib.hid hq0
          clear hq hd hd1 hd2 hq0 hg hw2
          go_wp2_with fail
          go_meet
          first
            | exact ⟨d, HD.out.1, fun _ => HD.out.2, rfl, by rw [blk_set Y3.out.2 2]; rfl, Y3.out.1.setCell (p := ⟨N + 1, 2, none⟩) (Nat.le_succ _) _⟩
            | exact ⟨r1, hr1b, fun h => absurd h HG1.out, rfl, Y3.out.2, Y3.out.1⟩
      case rest =>
        clear hw2 d2 c2 f2 hg1 hg Y2 Y3 er1 hr1b
        obtain ⟨rt, hrt, hrt10, rfl, hk3, hb3⟩ := hcut
        have Y := Lib.hid (And.intro hb3 hk3)
        have HR10 := Lib.hid hrt10
        have d0 : wc.cell? ⟨N + 1, 0, none⟩ = some (.bool vr) := by rw [cell_of_row wc (N + 1) 0 _ _ _ hk3]; rfl
        have d1 : wc.cell? ⟨N + 1, 1, none⟩ = some (.int .i64 sz) := by rw [cell_of_row wc (N + 1) 1 _ _ _ hk3]; rfl
        have d2 : wc.cell? ⟨N + 1, 2, none⟩ = some (.int .i64 rt) := by rw [cell_of_row wc (N + 1) 2 _ _ _ hk3]; rfl
        have d3 : wc.cell? ⟨N + 1, 3, none⟩ = some (.int .i64 asg) := by rw [cell_of_row wc (N + 1) 3 _ _ _ hk3]; rfl
        have d4 : wc.cell? ⟨N + 1, 4, none⟩ = some (.int .i64 bt) := by rw [cell_of_row wc (N + 1) 4 _ _ _ hk3]; rfl
        have d5 : wc.cell? ⟨N + 1, 5, none⟩ = some (.int .u64 nm) := by rw [cell_of_row wc (N + 1) 5 _ _ _ hk3]; rfl
        clear hb3 hk3 hrt10
        go_wp2_with fail
        refine (write_head vr pl sz rt asg bt nm wc hsz1 hsz2 hrt (by omega) HBM.out hnmb).mono ?_
        rintro e w3 ⟨xb, cs, cr, cb, hsc, hrc, hbp, hcb8, rfl, hO, hB⟩
        obtain ⟨hb, hhb⟩ : ∃ hb, headBytes vr sz rt asg nm cs cr cb ++ [up8 (f8 7) 0 (headBytes vr sz rt asg nm cs cr cb)] = hb := ⟨_, rfl⟩
        have hlen : (headBytes vr sz rt asg nm cs cr cb).length + 1 = hb.length := by rw [← hhb, List.length_append, List.length_singleton]
        have hl20 : hb.length ≤ 21 := by rw [← hlen]; exact Nat.succ_le_succ (head_len vr sz rt asg nm cs cr cb)
        have hbyte : ∀ x ∈ hb, 0 ≤ x ∧ x ≤ 255 := fun x hx => by
          have h1 := head_byte vr sz rt asg nm cs cr cb hsz1 hsz2 hrt (by omega) hnmb hsc hrc hcb8
          rw [← hhb] at hx
          rcases List.mem_append.1 hx with h | h
          · exact h1 x h
          · obtain ⟨z, hz, hz2⟩ := sum_byte _ h1
            rw [List.mem_singleton.1 h, hz]; omega
        have his : HdrIs (hb ++ l) ⟨!vr, sz, rt, asg, bt, nm⟩ := by
          have h := head_is vr sz rt asg bt nm cs cr cb l hsz1 hsz2 hrt HR10.out hasg11 hnmb hsc hrc hcb8 hbp
          have e : headBytes vr sz rt asg nm cs cr cb ++ up8 (f8 7) 0 (headBytes vr sz rt asg nm cs cr cb) :: l = hb ++ l := by rw [← hhb]; simp
          rw [e] at h; exact h
        rw [hhb, hlen] at hO
        have hNw : N ≤ wc.heap.size := by have := (Array.getElem?_eq_some_iff.1 Y.out.2).1; omega
        have hB3 : Below N w w3 := below_then Y.out.1 hNw hB
        have hk3 := (hB.block (N + 1) (Array.getElem?_eq_some_iff.1 Y.out.2).1).trans Y.out.2
        have hsz3 : N ≤ w3.heap.size := Nat.le_trans hNw hB.size
        have hlt3 : N + 2 ≤ wc.heap.size := (Array.getElem?_eq_some_iff.1 Y.out.2).1
        have Z := Lib.hid (And.intro (own_weaken hO hlt3) (And.intro hB3 hk3))
        have HIS := Lib.hid his
        have HBY := Lib.hid hbyte
        have HSZ3 := Lib.hid hsz3
        have HLT3 := Lib.hid (Nat.le_trans hlt3 hB.size)
        clear hO hB hk3 hB3 his hbyte hlen hhb hsz3 hNw hlt3 d0 d1 d2 d3 d4 d5 Y hsc hrc hbp hcb8
        go_wp2_with (with_reducible refine stop_dst (N := 77) rfl ?_)
        refine unstop ?_
        refine print_append_row (w0 := w3) (N + 2) rfl (.tmp 75) (.tmp 76) 25 5 .u8 1 rfl Tryd.underlying25 infoU8 (by decide) xb hb l A n c rfl rfl ?aO ?aR ?aB ?aS ?aL ?_
        case aO => exact Z.out.1
        case aR => exact HL.out.below (by rw [HN.out]; exact Z.out.2.1)
        case aB => exact Below.refl _ _
        case aS => exact HLT3.out
        case aL => omega
        intro v1 w4 HO4 hb4 _ _
        obtain ⟨A2, c2, rfl, hR2⟩ := own_reads HO4
        have hc2 := own_cap HO4
        have hln : (hb ++ l).length = hb.length + n := by rw [List.length_append, HL.out.1]
        have hB4 : Below w.heap.size w w4 := by rw [HN.out]; exact Z.out.2.1.trans ⟨hb4.os, hb4.tape, hb4.output, hb4.size, fun k hk => hb4.block k (by omega)⟩
        have hk4 := (hb4.block (N + 1) (by omega)).trans Z.out.2.2
        have hcall := header_impl A2 (hb ++ l).length c2 (hb ++ l) w4 ea eb es hR2 hc2 (by omega)
          (fun x hx => by rcases List.mem_append.1 hx with h | h; exact HBY.out x h; exact HB.out x h) (HG.out.touch (U := []) (Touch.of_below hB4) (by simp)) ((Touch.of_below (S := []) hB4).cell HES.out (by simp)) (fun k hk => HSF.out k (Nat.le_trans hB4.size hk))
        obtain ⟨L, hLL⟩ : ∃ L, (hb ++ l).length = L := ⟨_, rfl⟩
        rw [hLL] at hcall hc2 ⊢
        have HCALL := Lib.hid hcall
        have X4 := Lib.hid (And.intro hB4 hk4)
        clear HO4 hR2 hB4 hk4 hb4 hcall hln hLL Z
        go_wp2_with fail
        refine HCALL.out.mono ?_
        rintro e w5 ⟨hb5, ⟨f, hf, rfl⟩ | ⟨hno, _⟩⟩
        · obtain rfl := HIS.out.same hf
          have hk5 := (hb5.block (N + 1) (Array.getElem?_eq_some_iff.1 X4.out.2).1).trans X4.out.2
          have X5 := Lib.hid (And.intro (below_then X4.out.1 X4.out.1.size hb5) hk5)
          unfold frV
          simp only [Bool.not_not]
          clear hb5 hf hk5
          go_upto_region 13 with fail
          obtain ⟨w6, hw6⟩ : ∃ w6, w5.alloc (.cells #[.bool vr, .int .i64 sz, .int .i64 rt, .int .i64 asg, .int .i64 bt, .int .u64 nm, .slice none 0 0] 33) = w6 := ⟨_, rfl⟩
          rw [hw6]
          have hb6 : Below w.heap.size w w6 := by rw [← hw6]; exact X5.out.1.alloc X5.out.1.size _
          have hf6 : w6.heap[w5.heap.size]? = some (.cells #[.bool vr, .int .i64 sz, .int .i64 rt, .int .i64 asg, .int .i64 bt, .int .u64 nm, .slice none 0 0] 33 (0, 0)) := by rw [← hw6]; exact heap_alloc_new _ _
          have hk6 : w6.heap[N + 1]? = some (.cells #[.bool vr, .int .i64 sz, .int .i64 rt, .int .i64 asg, .int .i64 bt, .int .u64 nm] 29 (0, 0)) := by rw [← hw6]; exact (Below.heap_alloc _ _ _ (by have := (Array.getElem?_eq_some_iff.1 X5.out.2).1; omega)).trans X5.out.2
          obtain ⟨F, hF⟩ : ∃ F, w5.heap.size = F := ⟨_, rfl⟩
          rw [hF] at hf6 ⊢
          have d0 : w6.cell? ⟨N + 1, 0, none⟩ = some (.bool vr) := by rw [cell_of_row w6 (N + 1) 0 _ _ _ hk6]; rfl
          have d1 : w6.cell? ⟨N + 1, 1, none⟩ = some (.int .i64 sz) := by rw [cell_of_row w6 (N + 1) 1 _ _ _ hk6]; rfl
          have d2 : w6.cell? ⟨N + 1, 2, none⟩ = some (.int .i64 rt) := by rw [cell_of_row w6 (N + 1) 2 _ _ _ hk6]; rfl
          have d3 : w6.cell? ⟨N + 1, 3, none⟩ = some (.int .i64 asg) := by rw [cell_of_row w6 (N + 1) 3 _ _ _ hk6]; rfl
          have d4 : w6.cell? ⟨N + 1, 4, none⟩ = some (.int .i64 bt) := by rw [cell_of_row w6 (N + 1) 4 _ _ _ hk6]; rfl
          have d5 : w6.cell? ⟨N + 1, 5, none⟩ = some (.int .u64 nm) := by rw [cell_of_row w6 (N + 1) 5 _ _ _ hk6]; rfl
          have k0 : w6.cell? ⟨F, 0, none⟩ = some (.bool vr) := by rw [cell_of_row w6 F 0 _ _ _ hf6]; rfl
          have k1 : w6.cell? ⟨F, 1, none⟩ = some (.int .i64 sz) := by rw [cell_of_row w6 F 1 _ _ _ hf6]; rfl
          have k2 : w6.cell? ⟨F, 2, none⟩ = some (.int .i64 rt) := by rw [cell_of_row w6 F 2 _ _ _ hf6]; rfl
          have k3 : w6.cell? ⟨F, 3, none⟩ = some (.int .i64 asg) := by rw [cell_of_row w6 F 3 _ _ _ hf6]; rfl
          have k4 : w6.cell? ⟨F, 4, none⟩ = some (.int .i64 bt) := by rw [cell_of_row w6 F 4 _ _ _ hf6]; rfl
          have k5 : w6.cell? ⟨F, 5, none⟩ = some (.int .u64 nm) := by rw [cell_of_row w6 F 5 _ _ _ hf6]; rfl
          have HB6 := Lib.hid hb6
          clear hw6 hb6 hf6 hk6 hF X5
          go_wp2_with fail
          go_ret
          exact ⟨rfl, by rw [← HN.out]; exact HB6.out⟩
        · exact absurd HIS.out (hno _)

theorem nat_of_wf {k : IntKind} {x : Int} (h : (Lit.int k x).wf = true) (h0 : k.min = 0) : ∃ n : Nat, x = (n : Int) ∧ (n : Int) ≤ k.max := by
  simp only [Lit.wf, Bool.and_eq_true, decide_eq_true_eq] at h
  exact ⟨x.toNat, by omega, by omega⟩
theorem topHeader (w : World) (x s r v : Int) (A : Option Addr) (c : Nat) (l : List Int) (hx : (Lit.int .u32 x).wf = true) (hs : (Lit.int .u16 s).wf = true) (hr : (Lit.int .u32 r).wf = true) (hv : (Lit.int .u64 v).wf = true)
    (hl : ReadsInt w .u8 A l.length l) (hc : l.length ≤ c) (hm : l.length * 1 ≤ 140737488351232) (hb : ∀ x ∈ l, (Lit.int .u8 x).wf = true)
    (ea eb es : Addr) (hG : Glob w ea eb) (hes : w.cell? ⟨0, 0, none⟩ = some (.iface 130 (.pointer (some es)))) (hsafe : ∀ k, w.heap.size ≤ k → Safe ea eb k ∧ k ≠ 0) :
    Calls Tryd.prog 3 #[.int .u32 x, .int .u16 s, .int .u32 r, .int .u64 v, .slice A l.length c] w fun e w' => e = .returned (.bool true) ∧ Below w.heap.size w w' := by
  obtain ⟨x, rfl, hx⟩ := nat_of_wf hx rfl
  obtain ⟨s, rfl, hs⟩ := nat_of_wf hs rfl
  obtain ⟨r, rfl, hr⟩ := nat_of_wf hr rfl
  obtain ⟨v, rfl, hv⟩ := nat_of_wf hv rfl
  have m1 : IntKind.u32.max = 4294967295 := rfl
  have m2 : IntKind.u16.max = 65535 := rfl
  have m3 : IntKind.u64.max = 18446744073709551615 := rfl
  exact lawHeader x s r v A l.length c l w ea eb es (by omega) (by omega) (by omega) (by omega) hl hc (by omega) (fun x hx => by
    have h0 := hb x hx
    have h1 : IntKind.u8.min = 0 := rfl
    have h2 : IntKind.u8.max = 255 := rfl
    simp only [Lit.wf, Bool.and_eq_true, decide_eq_true_eq] at h0
    exact ⟨by omega, by omega⟩) hG hes hsafe
end Go.Proofs.YtcdfbcanebjmfaaDoor.Walk
