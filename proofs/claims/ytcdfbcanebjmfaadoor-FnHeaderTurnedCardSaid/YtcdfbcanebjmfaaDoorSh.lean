/- spec.WriteHead: what a header is written as. Printed by wip/shw.py. -/
import Derived.Test.YtcdfbcanebjmfaaDoorSw
import Derived.Test.YtcdfbcanebjmfaaDoorHw
import Derived.Test.YtcdfbcanebjmfaaDoorCrcS
import Derived.Outline
import Derived.Deep.RegionLaw
import Derived.Deep.DeepCutAuto
import Derived.Deep.CutBlock
import Derived.Deep.RegionWith
namespace Go.Proofs.YtcdfbcanebjmfaaDoor.Walk
set_option linter.unusedVariables false
set_option linter.unusedSimpArgs false
open Go Go.RowKit Go.Proofs.YtcdfbcanebjmfaaDoorW.PrintWords Go.Proofs.YtcdfbcanebjmfaaDoorW.PrintLast Go.Proofs.YtcdfbcanebjmfaaDoorW.PrintMore Go.Proofs.YtcdfbcanebjmfaaDoor.Num Go.Proofs.YtcdfbcanebjmfaaDoor.Crc Go.Proofs.YtcdfbcanebjmfaaDoor.PFnHeaderTurned

def bitsTab : List Nat := [0, 8, 12, 0, 16, 20, 24]

theorem _root_.Go.RowKit.Below.drewN' {B : Nat} {a w : World} (h : Below B a w) (n : Nat) : Below B a (w.drewN n) := h.trans ⟨rfl, rfl, rfl, Nat.le_refl _, fun _ _ => rfl⟩
theorem Sw.move {K : List (Nat × Obj)} {B gw : Nat} {s : WS} {w w' : World} (h : Sw K B gw s w) {U : List Nat} (t : Touch U w w') (hU : ∀ k ∈ U, k < B) (hK : ∀ q ∈ K, q.1 ∉ U) : Sw K B gw s w' := by
  obtain ⟨v, h1, h2, h3, h4⟩ := h.ex
  have hb := h.base
  exact ⟨h.ok, h.base, v, t.heap h1 (fun hm => by have := hU _ hm; omega), own_touch h2 t (fun k hk hm => by have := own_base h2 k hk; have := hU _ hm; omega), h3, fun q hq => ⟨(h4 q hq).1, (h4 q hq).2.1, t.heap (h4 q hq).2.2 (hK q hq)⟩⟩
theorem own_pin {w : World} {base size n : Nat} {e : TypeId} {v : Value} {xs : List Value} (h : w.ownsRow base e size v n xs) (hn : 0 < n) :
    ∃ g cap o, v = .slice (some ⟨g, 0, none⟩) n cap ∧ base ≤ g ∧ w.heap[g]? = some o ∧ ∀ w' : World, w'.heap[g]? = some o → w'.ownsRow base e size (.slice (some ⟨g, 0, none⟩) n cap) n xs := by
  obtain ⟨h1, ⟨_, h2⟩ | ⟨g, cap, cur, rfl, hb, hh, hn', hc, hs, ht⟩⟩ := h
  · omega
  · exact ⟨g, cap, _, rfl, hb, hh, fun w' h' => ⟨h1, .inr ⟨g, cap, cur, rfl, hb, h', hn', hc, hs, ht⟩⟩⟩
theorem Sw.pin {B gw g : Nat} {o : Obj} {s : WS} {w0 w : World} (h : Sw [] B gw s w0) (t : Touch [] w0 w) (hg : w0.heap.size ≤ g) (ho : w.heap[g]? = some o) : Sw [(g, o)] B gw s w := by
  obtain ⟨v, h1, h2, h3, h4⟩ := h.ex
  have hlt := (Array.getElem?_eq_some_iff.1 h1).1
  refine ⟨h.ok, h.base, v, t.heap h1 (by simp), own_touch h2 t (by simp), h3, fun q hq => ?_⟩
  obtain rfl : q = (g, o) := by simpa using hq
  exact ⟨fun hk => by have := (h2.lt _ hk).2; simp only at this; omega, fun e => by simp only at e; omega, ho⟩
theorem Sw.unpin {K : List (Nat × Obj)} {B gw : Nat} {s : WS} {w : World} (h : Sw K B gw s w) : Sw [] B gw s w := by
  obtain ⟨v, h1, h2, h3, _⟩ := h.ex
  exact ⟨h.ok, h.base, v, h1, h2, h3, fun q hq => by simp at hq⟩
theorem Sw.pinned {B gw g : Nat} {o : Obj} {s : WS} {w : World} (h : Sw [(g, o)] B gw s w) : w.heap[g]? = some o := by
  obtain ⟨v, _, _, _, h4⟩ := h.ex
  exact (h4 (g, o) (by simp)).2.2
/-- What spec.sizeOf tells. -/
def szOf (k : Nat) : Nat := if k = 1 then 192 else if k < 6 then 144 * 2 ^ k else if k < 8 then 0 else 2 ^ k
theorem sizeOf_call (k : Nat) (hk1 : k < 16) (w : World) : Calls Tryd.prog 9 #[.int .i64 k] w fun e w' => e = .returned (.int .i64 (szOf k : Nat)) ∧ ∃ n, w' = w.drewN n := by
  have key : ∀ k : Fin 16, spec_sizeOf.f (k.val : Int) = some ((szOf k.val : Nat) : Int) := by decide +kernel
  exact (spec_sizeOf.calls (k : Int) _ w (key ⟨k, hk1⟩)).mono fun e w' h => ⟨h.1, h.2.out⟩
theorem rates_call (w : World) : Calls Tryd.prog 10 #[] w fun e w' => ∃ x, e = .returned x ∧ w'.ownsRow w.heap.size 3 1 x 12 (nums .i64 (rateTab.map fun x : Nat => (x : Int))) ∧ Below w.heap.size w w' :=
  (spec_rates.calls (rateTab.map fun x : Nat => (x : Int)) w rfl).mono fun e w' ⟨x, he, hr, hb⟩ => ⟨x, he, Kd.own_of_R hr, hb⟩
theorem coded_call (v : Nat) (w : World) (hv : v < 68719476736) :
    Calls Tryd.prog 11 #[.int .u64 v] w fun e w' => ∃ x, e = .returned x ∧ w'.ownsRow w.heap.size 5 1 x (more v + 1) (nums .u8 (coded v)) ∧ Below w.heap.size w w' :=
  (spec_Coded.calls 30 v (coded v) w (spec_coded v hv)).mono fun e w' ⟨x, he, hr, hb⟩ => ⟨x, he, by have h := Kd.own_of_R hr; rw [coded_len] at h; exact h, hb⟩
theorem crc8_call (A : Option Addr) (c : Nat) (l : List Int) (w : World) (hl : ReadsInt w .u8 A l.length l) (hc : l.length ≤ c) (hlen : l.length ≤ 2 ^ 62) (hb : ∀ x ∈ l, 0 ≤ x ∧ x ≤ 255) :
    Calls Tryd.prog 12 #[.slice A l.length c] w fun e w' => e = .returned (.int .i64 (up8 (f8 7) 0 l)) ∧ ∃ n, w' = w.drewN n := by
  obtain ⟨K, hK⟩ := CrcS.spec8 l hlen hb
  have hf : spec_Crc8.f K l = some (up8 (f8 7) 0 l) := by unfold spec_Crc8.f; rw [hK]; rfl
  exact (spec_Crc8.calls K A c l _ w (Kd.C_of_reads (h1 := fun _ => rfl) (readsInt_of.1 hl)) hc hf).mono fun e w' h => ⟨h.1, h.2.out⟩
theorem head_start (vr : Bool) : ((⟨[], 0, 0⟩ : WS).puts 32764 15).puts vr.toNat 1 = ⟨[255, ((248 + vr.toNat : Nat) : Int)], 0, 0⟩ := by cases vr <;> rfl
theorem head_bits (out : List Int) (a c : Nat) (ha : a < 16) (hc : c < 8) : (((⟨out, 0, 0⟩ : WS).puts a 4).puts c 3).puts 0 1 = ⟨out ++ [((a * 16 + c * 2 : Nat) : Int)], 0, 0⟩ := by
  rw [WS.puts_in a 4 out 0 0 (by decide), WS.puts_in c 3 _ _ _ (by decide), WS.puts_end 0 1 _ _ _ (by decide) (by decide)]
  congr 4
  rw [Nat.mod_eq_of_lt ha, Nat.mod_eq_of_lt hc]; simp; omega

theorem sum_byte (l : List Int) (hb : ∀ x ∈ l, 0 ≤ x ∧ x ≤ 255) : ∃ z : Nat, up8 (f8 7) 0 l = (z : Int) ∧ z < 256 := by
  have h := CrcP.crc8_from l hb 0#8
  exact ⟨_, h, (l.foldl CrcP.b8 0#8).isLt⟩

set_option maxHeartbeats 32000000 in
set_option maxRecDepth 100000 in
theorem write_head (vr pl : Bool) (sz rt asg bt nm : Nat) (w : World) (hsz : 1 ≤ sz) (hsz2 : sz ≤ 65535) (hrt : rt ≤ 655350) (hasg : asg ≤ 15) (hbt : bt ∈ bitsTab) (hnm : nm < 68719476736) :
    Calls Tryd.prog 5 #[.agg #[.bool vr, .int .i64 sz, .int .i64 rt, .int .i64 asg, .int .i64 bt, .int .u64 nm], .bool pl] w fun e w' => ∃ x cs cr cb, SizeCode cs sz ∧ RateCode cr rt ∧ bpsOf cb = some bt ∧ cb < 8 ∧ e = .returned x ∧
      w'.ownsRow w.heap.size 5 1 x ((headBytes vr sz rt asg nm cs cr cb).length + 1) (nums .u8 (headBytes vr sz rt asg nm cs cr cb ++ [up8 (f8 7) 0 (headBytes vr sz rt asg nm cs cr cb)])) ∧ Below w.heap.size w w' := by
  obtain ⟨N, hN⟩ : ∃ N, w.heap.size = N := ⟨_, rfl⟩
  rw [hN]
  have HN := Lib.hid hN
  have HBT := Lib.hid hbt
  clear hN hbt
  go_enter Tryd.func5, Tryd.ntmps5
  go_wp2_with fail
  obtain ⟨wh, hwh⟩ : ∃ wh, w.alloc (.cells #[.bool vr, .int .i64 sz, .int .i64 rt, .int .i64 asg, .int .i64 bt, .int .u64 nm] 29) = wh := ⟨_, rfl⟩
  have hsh : wh.heap.size = N + 1 := by rw [← hwh, World.size_alloc, HN.out]
  have hh0 : wh.heap[N]? = some (.cells #[.bool vr, .int .i64 sz, .int .i64 rt, .int .i64 asg, .int .i64 bt, .int .u64 nm] 29 (0, 0)) := by rw [← hwh, ← HN.out]; exact heap_alloc_new _ _
  have hbh : Below N w wh := by rw [← hwh]; exact (Below.refl _ _).alloc (by rw [HN.out]; omega) _
  rw [hwh, HN.out]
  obtain ⟨w1, hw1⟩ : ∃ w1, wh.alloc (.cells #[.slice none 0 0, .int .i64 0] 42) = w1 := ⟨_, rfl⟩
  rw [hw1]
  have hb1 : Below (N + 1) wh w1 := by rw [← hw1]; exact (Below.refl _ _).alloc (by omega) _
  have hs1 : Sw [] (N + 1) (N + 1) ⟨[], 0, 0⟩ w1 := ⟨⟨show 0 < 8 by decide, show 0 < 2 ^ 0 by decide⟩, Nat.le_refl _, .slice none 0 0, by rw [← hw1, ← hsh]; exact heap_alloc_new _ _, World.ownsRow_nil _ _ _ _, by simp [Value.ownBlock]⟩
  have HH0 := Lib.hid hh0
  have HSH := Lib.hid hsh
  have HBH := Lib.hid hbh
  have X1 := Lib.hid (And.intro hs1 hb1)
  clear hwh hsh hh0 hbh hw1 hb1 hs1
  refine (sw_word [] (N + 1) (N + 1) 32764 15 ⟨[], 0, 0⟩ wh w1 X1.out.1 X1.out.2 (by decide) (by decide) (by decide)).mono ?_
  rintro e w2 ⟨rfl, hsw, hbe⟩
  have X2 := Lib.hid (And.intro hsw hbe)
  have h0 : w2.cell? ⟨N, 0, none⟩ = some (.bool vr) := by rw [cell_of_row w2 N 0 _ _ _ ((X2.out.2).block N (by omega) |>.trans HH0.out)]; rfl
  have h1 : w2.cell? ⟨N, 1, none⟩ = some (.int .i64 sz) := by rw [cell_of_row w2 N 1 _ _ _ ((X2.out.2).block N (by omega) |>.trans HH0.out)]; rfl
  have h2 : w2.cell? ⟨N, 2, none⟩ = some (.int .i64 rt) := by rw [cell_of_row w2 N 2 _ _ _ ((X2.out.2).block N (by omega) |>.trans HH0.out)]; rfl
  have h3 : w2.cell? ⟨N, 3, none⟩ = some (.int .i64 asg) := by rw [cell_of_row w2 N 3 _ _ _ ((X2.out.2).block N (by omega) |>.trans HH0.out)]; rfl
  have h4 : w2.cell? ⟨N, 4, none⟩ = some (.int .i64 bt) := by rw [cell_of_row w2 N 4 _ _ _ ((X2.out.2).block N (by omega) |>.trans HH0.out)]; rfl
  have h5 : w2.cell? ⟨N, 5, none⟩ = some (.int .u64 nm) := by rw [cell_of_row w2 N 5 _ _ _ ((X2.out.2).block N (by omega) |>.trans HH0.out)]; rfl
  clear hsw hbe X1
  go_upto_if 22 with fail
  go_cut [6] (fun v wx => v = .int .i64 (vr.toNat : Nat) ∧ wx = w2)
  case first =>
    cases vr
    · go_wp2_with fail
      go_meet
      exact ⟨rfl, rfl⟩
    · go_wp2_with fail
      go_meet
      exact ⟨rfl, rfl⟩
  case rest =>
    obtain ⟨rfl, rfl⟩ := hcut
    have hvr : vr.toNat < 2 := by cases vr <;> decide
    go_wp2_with fail
    refine (sw_word [] (N + 1) (N + 1) vr.toNat 1 _ wh wc X2.out.1 X2.out.2 (by omega) (by decide) (by have := WS.puts_len 32764 15 ⟨[], 0, 0⟩; simp at this; omega)).mono ?_
    rw [head_start]
    rintro e w3 ⟨rfl, hsw, hbe⟩
    have X3 := Lib.hid (And.intro hsw hbe)
    clear h0 h1 h2 h3 h4 h5
    have h0 : w3.cell? ⟨N, 0, none⟩ = some (.bool vr) := by rw [cell_of_row w3 N 0 _ _ _ ((X3.out.2).block N (by omega) |>.trans HH0.out)]; rfl
    have h1 : w3.cell? ⟨N, 1, none⟩ = some (.int .i64 sz) := by rw [cell_of_row w3 N 1 _ _ _ ((X3.out.2).block N (by omega) |>.trans HH0.out)]; rfl
    have h2 : w3.cell? ⟨N, 2, none⟩ = some (.int .i64 rt) := by rw [cell_of_row w3 N 2 _ _ _ ((X3.out.2).block N (by omega) |>.trans HH0.out)]; rfl
    have h3 : w3.cell? ⟨N, 3, none⟩ = some (.int .i64 asg) := by rw [cell_of_row w3 N 3 _ _ _ ((X3.out.2).block N (by omega) |>.trans HH0.out)]; rfl
    have h4 : w3.cell? ⟨N, 4, none⟩ = some (.int .i64 bt) := by rw [cell_of_row w3 N 4 _ _ _ ((X3.out.2).block N (by omega) |>.trans HH0.out)]; rfl
    have h5 : w3.cell? ⟨N, 5, none⟩ = some (.int .u64 nm) := by rw [cell_of_row w3 N 5 _ _ _ ((X3.out.2).block N (by omega) |>.trans HH0.out)]; rfl
    clear hsw hbe X2
    go_upto_if 28 with fail
    go_cut [7] (fun v wx => ∃ cs : Nat, SizeCode cs sz ∧ v = .int .i64 cs ∧ wx = w3)
    case first =>
      by_cases h256 : sz ≤ 256
      · go_wp2_with fail
        go_meet
        exact ⟨6, .inl ⟨rfl, h256⟩, rfl, rfl⟩
      · go_wp2_with fail
        go_meet
        exact ⟨7, .inr (.inl rfl), rfl, rfl⟩
    case rest =>
      obtain ⟨cs0, hcs0, rfl, rfl⟩ := hcut
      have HCS0 := Lib.hid hcs0
      clear hcs0
      go_wp2_with fail
      go_loopw [7, 8] (fun sv kv wr => ∃ cs k : Nat, SizeCode cs sz ∧ sv = .int .i64 cs ∧ kv = .int .i64 k ∧ 1 ≤ k ∧ k ≤ 16 ∧ Sw [] (N + 1) (N + 1) ⟨[255, ((248 + vr.toNat : Nat) : Int)], 0, 0⟩ wr ∧ Below (N + 1) wh wr) (fun _ kv _ => 16 - (intOf kv).toNat)
      case atStart => exact ⟨cs0, 1, HCS0.out, rfl, rfl, by omega, by omega, X3.out⟩
      case round =>
        obtain ⟨cs, k, hcs, rfl, rfl, hk1, hk16, hsw, hbe⟩ := hrel
        have HCS := Lib.hid hcs
        have X := Lib.hid (And.intro hsw hbe)
        clear hcs hsw hbe h0 h1 h2 h3 h4 h5
        by_cases hk : k < 16
        · skip
          obtain ⟨z, hz⟩ : ∃ z, szOf k = z := ⟨_, rfl⟩
          have hcall : ∀ wx, Calls Tryd.prog 9 #[.int .i64 k] wx fun e w' => e = .returned (.int .i64 z) ∧ ∃ n, w' = wx.drewN n := fun wx => by rw [← hz]; exact sizeOf_call k hk wx
          have HCALL := Lib.hid hcall
          have HZ := Lib.hid hz
          clear hcall hz
          have hd1 : wr.drew.cell? ⟨N, 1, none⟩ = some (.int .i64 sz) := by rw [cell_of_row wr.drew N 1 _ _ _ ((X.out.2).block N (by omega) |>.trans HH0.out)]; rfl
          have hdn : ∀ n, (wr.drew.drewN n).cell? ⟨N, 1, none⟩ = some (.int .i64 sz) := fun n => hd1
          cases pl
          · have hzq : ∀ n, (wr.drew.drewN n).drew = wr.drew.drewN (n + 1) := fun n => rfl
            by_cases hzs : z = sz
            · have hbq : ((z : Int) == (sz : Int)) = true := by rw [hzs]; simp
              have HZS := Lib.hid hzs
              clear hzs
              go_wp2_with fail
              go_region_with (first | (refine (HCALL.out _).mono ?_; rintro e w' ⟨rfl, hq⟩; (have kq : w'.cell? ⟨N, 1, none⟩ = some (.int .i64 sz) := by obtain ⟨n, rfl⟩ := hq; exact hd1); (have HQ := Lib.hid hq); clear hq))
              all_goals
                go_wp2_with fail
                go_roundw
                case rel =>
                  refine ⟨k, k + 1, ?_, rfl, by go_num, by omega, by omega, by obtain ⟨n, hn⟩ := HQ.out; rw [hn]; exact X.out.1.move (U := []) (((Touch.refl _ _).drew).drewN _) (by simp) (by simp), by obtain ⟨n, hn⟩ := HQ.out; rw [hn]; exact (X.out.2.drew).drewN' _⟩
                  have h := HZ.out
                  rw [HZS.out] at h
                  unfold szOf at h
                  unfold SizeCode
                  (repeat' split at h) <;> omega
                case measure => simp [intOf]; omega
            · have hbq : ((z : Int) == (sz : Int)) = false := by simp; omega
              clear hzs
              go_wp2_with fail
              go_region_with (first | (refine (HCALL.out _).mono ?_; rintro e w' ⟨rfl, hq⟩; (have kq : w'.cell? ⟨N, 1, none⟩ = some (.int .i64 sz) := by obtain ⟨n, rfl⟩ := hq; exact hd1); (have HQ := Lib.hid hq); clear hq))
              all_goals
                go_wp2_with fail
                go_roundw
                case rel => exact ⟨cs, k + 1, HCS.out, rfl, by go_num, by omega, by omega, by obtain ⟨n, hn⟩ := HQ.out; rw [hn]; exact X.out.1.move (U := []) (((Touch.refl _ _).drew).drewN _) (by simp) (by simp), by obtain ⟨n, hn⟩ := HQ.out; rw [hn]; exact (X.out.2.drew).drewN' _⟩
                case measure => simp [intOf]; omega
          · go_wp2_with fail
            first | (go_region_with (fail)) | fail
            all_goals
              go_wp2_with fail
              go_roundw
              case rel => exact ⟨cs, k + 1, HCS.out, rfl, by go_num, by omega, by omega, X.out.1.move (U := []) ((Touch.refl _ _).drew) (by simp) (by simp), X.out.2.drew⟩
              case measure => simp [intOf]; omega
        · obtain rfl : k = 16 := by omega
          have hd2 : wr.cell? ⟨N, 2, none⟩ = some (.int .i64 rt) := by rw [cell_of_row wr N 2 _ _ _ ((X.out.2).block N (by omega) |>.trans HH0.out)]; rfl
          go_upto_block 2 with fail
          go_cut [9] (fun v wx => ∃ cr : Nat, RateCode cr rt ∧ v = .int .i64 cr ∧ wx = wr)
          case first =>
            obtain ⟨m, hm⟩ : ∃ m, rt % 1000 = m := ⟨_, rfl⟩
            obtain ⟨d, hd⟩ : ∃ d, rt / 1000 = d := ⟨_, rfl⟩
            have em : (rt : Int) % 1000 = (m : Int) := by omega
            have ed : (rt : Int) / 1000 = (d : Int) := by omega
            have HM := Lib.hid hm
            have HDD := Lib.hid hd
            clear hm hd
            by_cases hr0 : rt = 0
            · have e0 : ((rt : Int) == 0) = true := by simp; omega
              have HR0 := Lib.hid hr0
              clear hr0
              go_wp2_with fail
              go_meet
              exact ⟨0, .inl ⟨by decide, HR0.out.symm⟩, rfl, rfl⟩
            · have e0 : ((rt : Int) == 0) = false := by simp; omega
              by_cases hr1 : m = 0
              · have e1 : ((m : Int) == 0) = true := by simp; omega
                have HR1 := Lib.hid hr1
                clear hr1 hr0
                by_cases hr2 : d < 256
                · have e2 : decide ((d : Int) < 256) = true := by simp; omega
                  have HR2 := Lib.hid hr2
                  clear hr2
                  go_wp2_with fail
                  go_meet
                  exact ⟨12, .inr (.inl ⟨rfl, by rw [HM.out]; exact HR1.out, by rw [HDD.out]; exact HR2.out⟩), rfl, rfl⟩
                · have e2 : decide ((d : Int) < 256) = false := by simp; omega
                  clear hr2
                  by_cases hr3 : rt < 65536
                  · have e3 : decide ((rt : Int) < 65536) = true := by simp; omega
                    have HR3 := Lib.hid hr3
                    clear hr3
                    go_wp2_with fail
                    go_meet
                    exact ⟨13, .inr (.inr (.inl ⟨rfl, HR3.out⟩)), rfl, rfl⟩
                  · have e3 : decide ((rt : Int) < 65536) = false := by simp; omega
                    have HR3 := Lib.hid (show 65536 ≤ rt by omega)
                    clear hr3
                    go_wp2_with fail
                    go_meet
                    exact ⟨14, .inr (.inr (.inr ⟨rfl, HR3.out⟩)), rfl, rfl⟩
              · have e1 : ((m : Int) == 0) = false := by simp; omega
                clear hr1 hr0
                by_cases hr3 : rt < 65536
                · have e3 : decide ((rt : Int) < 65536) = true := by simp; omega
                  have HR3 := Lib.hid hr3
                  clear hr3
                  go_wp2_with fail
                  go_meet
                  exact ⟨13, .inr (.inr (.inl ⟨rfl, HR3.out⟩)), rfl, rfl⟩
                · have e3 : decide ((rt : Int) < 65536) = false := by simp; omega
                  have HR3 := Lib.hid (show 65536 ≤ rt by omega)
                  clear hr3
                  go_wp2_with fail
                  go_meet
                  exact ⟨14, .inr (.inr (.inr ⟨rfl, HR3.out⟩)), rfl, rfl⟩
          case rest =>
            obtain ⟨cr0, hcr0, rfl, rfl⟩ := hcut
            have HCR0 := Lib.hid hcr0
            clear hcr0 hd2
            go_wp2_with fail
            refine (rates_call _).mono ?_
            rintro e w4 ⟨x7, rfl, hO, hB⟩
            obtain ⟨A7, c7, rfl, hR7⟩ := own_reads hO
            have X4 := Lib.hid (And.intro (X.out.1.move (U := []) (Touch.of_below hB) (by simp) (by simp)) (below_then X.out.2 (by have := X.out.2.size; have := HSH.out; omega) hB))
            have HR7 := Lib.hid hR7
            clear hO hB hR7 X
            go_wp2_with fail
            go_loopw [9, 64] (fun crv iv wx => ∃ cr i : Nat, RateCode cr rt ∧ crv = .int .i64 cr ∧ i ≤ 12 ∧ iv = .int .i64 i ∧ wx = w4) (fun _ iv _ => 12 - (intOf iv).toNat)
            case atStart => exact ⟨cr0, 0, HCR0.out, rfl, by omega, rfl, rfl⟩
            case round =>
              obtain ⟨cr, i, hcr, rfl, hi12, rfl, rfl⟩ := hrel
              have HCR := Lib.hid hcr
              clear hcr
              by_cases hi : i < 12
              · obtain ⟨ad7, rfl, cell7⟩ := HR7.out.2.2 (by omega)
                obtain ⟨r, hr⟩ : ∃ r, rateTab.getD i 0 = r := ⟨_, rfl⟩
                have e7 : wr.cell? (ad7.add i) = some (.int .i64 r) := by
                  rw [cell7 i hi, ← hr]
                  have key : ∀ i : Fin 12, (rateTab.map fun x : Nat => (x : Int)).getD i.val 0 = ((rateTab.getD i.val 0 : Nat) : Int) := by decide
                  rw [key ⟨i, hi⟩]
                have hd2 : wr.cell? ⟨N, 2, none⟩ = some (.int .i64 rt) := by rw [cell_of_row wr N 2 _ _ _ ((X4.out.2).block N (by omega) |>.trans HH0.out)]; rfl
                have HRR := Lib.hid hr
                clear hr cell7
                by_cases hi0 : 0 < i
                · have g0 : decide ((0 : Int) < (i : Int)) = true := by simp; omega
                  by_cases hrr : r = rt
                  · have g1 : ((r : Int) == (rt : Int)) = true := by rw [hrr]; simp
                    have HRE := Lib.hid hrr
                    clear hrr
                    cases pl <;> go_wp2_with fail
                    all_goals
                      go_roundw
                      case rel => first | exact ⟨i, i + 1, .inl ⟨by omega, by rw [HRR.out]; exact HRE.out⟩, rfl, by omega, by go_num, by trivial⟩ | exact ⟨cr, i + 1, HCR.out, rfl, by omega, by go_num, by trivial⟩
                      case measure => simp [intOf]; omega
                  · have g1 : ((r : Int) == (rt : Int)) = false := by simp; omega
                    clear hrr
                    cases pl <;> go_wp2_with fail
                    all_goals
                      go_roundw
                      case rel => exact ⟨cr, i + 1, HCR.out, rfl, by omega, by go_num, by trivial⟩
                      case measure => simp [intOf]; omega
                · have g0 : decide ((0 : Int) < (i : Int)) = false := by simp; omega
                  cases pl <;> go_wp2_with fail
                  all_goals
                    go_roundw
                    case rel => exact ⟨cr, i + 1, HCR.out, rfl, by omega, by go_num, by trivial⟩
                    case measure => simp [intOf]; omega
              · obtain rfl : i = 12 := by omega
                have hcs15 := HCS.out.lt
                have hcr14 := HCR.out.lt
                have hd3 : ∀ wx, Below (N + 1) wh wx → wx.cell? ⟨N, 3, none⟩ = some (.int .i64 asg) := fun wx hb => by rw [cell_of_row wx N 3 _ _ _ (hb.block N (by omega) |>.trans HH0.out)]; rfl
                have HD3 := Lib.hid hd3
                clear hd3
                go_wp2_with fail
                refine (sw_word [] (N + 1) (N + 1) cs 4 _ wh wr X4.out.1 X4.out.2 (by omega) (by decide) (by simp)).mono ?_
                rintro e w5 ⟨rfl, hsw, hbe⟩
                have X5 := Lib.hid (And.intro hsw hbe)
                clear hsw hbe X4
                go_wp2_with fail
                refine (sw_word [] (N + 1) (N + 1) cr 4 _ wh w5 X5.out.1 X5.out.2 (by omega) (by decide) (Nat.le_trans (WS.puts_len cs 4 ⟨[255, ((248 + vr.toNat : Nat) : Int)], 0, 0⟩) (by simp))).mono ?_
                rw [WS.puts_nibs cs cr _ (by omega) (by omega)]
                rintro e w6 ⟨rfl, hsw, hbe⟩
                have X6 := Lib.hid (And.intro hsw hbe)
                clear hsw hbe X5
                have h3 := HD3.out w6 X6.out.2
                go_wp2_with fail
                refine (sw_word [] (N + 1) (N + 1) asg 4 _ wh w6 X6.out.1 X6.out.2 (by omega) (by decide) (by simp)).mono ?_
                rintro e w7 ⟨rfl, hsw, hbe⟩
                have X7 := Lib.hid (And.intro hsw hbe)
                clear hsw hbe X6 h3
                go_wp2_with fail
                obtain ⟨w8, hw8⟩ : ∃ w8, w7.alloc (.cells #[.int .i64 0, .int .i64 8, .int .i64 12, .int .i64 0, .int .i64 16, .int .i64 20, .int .i64 24] 3) = w8 := ⟨_, rfl⟩
                rw [hw8]
                have hs8 := X7.out.1.move (U := []) ((Touch.refl _ _).alloc (.cells #[.int .i64 0, .int .i64 8, .int .i64 12, .int .i64 0, .int .i64 16, .int .i64 20, .int .i64 24] 3)) (by simp) (by simp)
                rw [hw8] at hs8
                have hb8 : Below (N + 1) wh w8 := by rw [← hw8]; exact X7.out.2.alloc (by have := X7.out.2.size; have := HSH.out; omega) _
                have hk8 : w8.heap[w7.heap.size]? = some (.cells #[.int .i64 0, .int .i64 8, .int .i64 12, .int .i64 0, .int .i64 16, .int .i64 20, .int .i64 24] 3 (0, 0)) := by rw [← hw8]; exact heap_alloc_new _ _
                obtain ⟨M, hM⟩ : ∃ M, w7.heap.size = M := ⟨_, rfl⟩
                rw [hM] at hk8
                rw [hM]
                have X8 := Lib.hid (And.intro hs8 (And.intro hb8 hk8))
                clear hw8 hs8 hb8 hk8 hM X7
                have hd4 : w8.cell? ⟨N, 4, none⟩ = some (.int .i64 bt) := by rw [cell_of_row w8 N 4 _ _ _ (X8.out.2.1.block N (by omega) |>.trans HH0.out)]; rfl
                go_loopw [12, 95] (fun bv iv wx => ∃ cb i : Nat, (cb < 8 ∧ ((cb = 0 ∧ ∀ j, j < i → 0 < bitsTab.getD j 0 → bitsTab.getD j 0 ≠ bt) ∨ bpsOf cb = some bt)) ∧ bv = .int .i64 cb ∧ i ≤ 7 ∧ iv = .int .i64 i ∧ wx = w8) (fun _ iv _ => 7 - (intOf iv).toNat)
                case atStart => exact ⟨0, 0, ⟨by omega, .inl ⟨rfl, fun j hj => absurd hj (by omega)⟩⟩, rfl, by omega, rfl, rfl⟩
                case round =>
                  obtain ⟨cb, i, hcb, rfl, hi7, rfl, rfl⟩ := hrel
                  have HCB := Lib.hid hcb
                  clear hcb
                  by_cases hi : i < 7
                  · obtain ⟨r, hr⟩ : ∃ r, bitsTab.getD i 0 = r := ⟨_, rfl⟩
                    have e7 : wr.cell? ⟨M, i, none⟩ = some (.int .i64 r) := by
                      rw [cell_of_row wr M i _ _ _ X8.out.2.2, ← hr]
                      clear hr
                      rcases i with _ | _ | _ | _ | _ | _ | _ | i
                      · rfl
                      · rfl
                      · rfl
                      · rfl
                      · rfl
                      · rfl
                      · rfl
                      · omega
                    have HRR := Lib.hid hr
                    clear hr
                    by_cases hr0 : 0 < r
                    · have g0 : decide ((0 : Int) < (r : Int)) = true := by simp; omega
                      have HR0 := Lib.hid hr0
                      by_cases hrr : r = bt
                      · have g1 : ((r : Int) == (bt : Int)) = true := by rw [hrr]; simp
                        have HRE := Lib.hid hrr
                        clear hrr hr0
                        go_wp2_with fail
                        go_roundw
                        case rel => exact ⟨i, i + 1, ⟨by omega, .inr (by
                          have key : ∀ i : Fin 7, 0 < bitsTab.getD i.val 0 → bpsOf i.val = some (bitsTab.getD i.val 0) := by decide
                          have := key ⟨i, hi⟩ (by show 0 < bitsTab.getD i 0; rw [HRR.out]; exact HR0.out)
                          rw [← HRE.out, ← HRR.out]; exact this)⟩, rfl, by omega, by go_num, by trivial⟩
                        case measure => simp [intOf]; omega
                      · have g1 : ((r : Int) == (bt : Int)) = false := by simp; omega
                        have HRE := Lib.hid hrr
                        clear hrr hr0
                        go_wp2_with fail
                        go_roundw
                        case rel => exact ⟨cb, i + 1, ⟨HCB.out.1, HCB.out.2.imp (fun h => ⟨h.1, fun j hj hp => by
                          by_cases hji : j = i
                          · rw [hji, HRR.out]; exact HRE.out
                          · exact h.2 j (by omega) hp⟩) id⟩, rfl, by omega, by go_num, by trivial⟩
                        case measure => simp [intOf]; omega
                    · have g0 : decide ((0 : Int) < (r : Int)) = false := by simp; omega
                      have HR0 := Lib.hid hr0
                      clear hr0
                      go_wp2_with fail
                      go_roundw
                      case rel => exact ⟨cb, i + 1, ⟨HCB.out.1, HCB.out.2.imp (fun h => ⟨h.1, fun j hj hp => by
                        by_cases hji : j = i
                        · rw [hji, HRR.out] at hp; exact absurd hp HR0.out
                        · exact h.2 j (by omega) hp⟩) id⟩, rfl, by omega, by go_num, by trivial⟩
                      case measure => simp [intOf]; omega
                  · obtain rfl : i = 7 := by omega
                    have hbp : bpsOf cb = some bt := by
                      rcases HCB.out.2 with ⟨h0, h1⟩ | h
                      · subst h0
                        have hb := HBT.out
                        have k1 := h1 1 (by decide) (by decide)
                        have k2 := h1 2 (by decide) (by decide)
                        have k4 := h1 4 (by decide) (by decide)
                        have k5 := h1 5 (by decide) (by decide)
                        have k6 := h1 6 (by decide) (by decide)
                        simp [bitsTab] at hb k1 k2 k4 k5 k6
                        have : bt = 0 := by omega
                        rw [this]; rfl
                      · exact h
                    have hcb8 := HCB.out.1
                    have HBP := Lib.hid hbp
                    clear hbp hd4
                    go_wp2_with fail
                    refine (sw_word [] (N + 1) (N + 1) cb 3 _ wh wr X8.out.1 X8.out.2.1 (by omega) (by decide) (Nat.le_trans (WS.puts_len asg 4 _) (by simp))).mono ?_
                    rintro e w9 ⟨rfl, hsw, hbe⟩
                    have X9 := Lib.hid (And.intro hsw hbe)
                    clear hsw hbe X8
                    go_wp2_with fail
                    refine (sw_word [] (N + 1) (N + 1) 0 1 _ wh w9 X9.out.1 X9.out.2 (by omega) (by decide) (Nat.le_trans (WS.puts_len cb 3 _) (Nat.le_trans (Nat.add_le_add_right (WS.puts_len asg 4 _) _) (by simp)))).mono ?_
                    rw [head_bits _ asg cb (by omega) hcb8]
                    rintro e w10 ⟨rfl, hsw, hbe⟩
                    have X10 := Lib.hid (And.intro hsw hbe)
                    clear hsw hbe X9
                    have hd5 : w10.cell? ⟨N, 5, none⟩ = some (.int .u64 nm) := by rw [cell_of_row w10 N 5 _ _ _ (X10.out.2.block N (by omega) |>.trans HH0.out)]; rfl
                    go_wp2_with fail
                    refine (coded_call nm _ hnm).mono ?_
                    rintro e w11 ⟨x17, rfl, hO, hB⟩
                    obtain ⟨g, cap, o, rfl, hgb, hgo, hpin⟩ := own_pin hO (by omega)
                    have hs11 := X10.out.1.pin (Touch.of_below hB) hgb hgo
                    have hb11 := below_then X10.out.2 (by have := X10.out.2.size; have := HSH.out; omega) hB
                    obtain ⟨m, hm⟩ : ∃ m, more nm + 1 = m := ⟨_, rfl⟩
                    have hm7 : m ≤ 7 := by have := more_le nm; omega
                    have hcl : (coded nm).length = m := by rw [coded_len, hm]
                    rw [hm] at hpin
                    rw [hm]
                    obtain ⟨H4, hH4⟩ : ∃ H4, [255, ((248 + vr.toNat : Nat) : Int)] ++ [((cs * 16 + cr : Nat) : Int)] ++ [((asg * 16 + cb * 2 : Nat) : Int)] = H4 := ⟨_, rfl⟩
                    have HH4 := Lib.hid (show head4 vr cs cr asg cb = H4 by rw [← hH4]; rfl)
                    have hl4 : H4.length = 4 := by rw [← hH4]; rfl
                    have X11 := Lib.hid (And.intro hs11 hb11)
                    rw [hH4] at X11
                    have HPIN := Lib.hid hpin
                    have HCL := Lib.hid hcl
                    clear hO hB hgb hgo hpin hs11 hb11 hm hH4 hd5 X10 hcl
                    go_wp2_with fail
                    go_loopw [119] (fun iv wx => ∃ i : Nat, i ≤ m ∧ iv = .int .i64 i ∧ Sw [(g, o)] (N + 1) (N + 1) ⟨H4 ++ (coded nm).take i, 0, 0⟩ wx ∧ Below (N + 1) wh wx) (fun iv _ => m - (intOf iv).toNat)
                    case atStart => exact ⟨0, by omega, rfl, by rw [List.take_zero, List.append_nil]; exact X11.out.1, X11.out.2⟩
                    case round =>
                      obtain ⟨i, him, rfl, hsw, hbe⟩ := hrel
                      have hown := HPIN.out _ hsw.pinned
                      have X := Lib.hid (And.intro hsw hbe)
                      clear hsw hbe
                      by_cases hi : i < m
                      · obtain ⟨y, hy, hy2⟩ : ∃ y : Nat, (coded nm)[i]? = some (y : Int) ∧ y < 256 := by
                          have hil : i < (coded nm).length := by rw [HCL.out]; exact hi
                          have hb := coded_bytes nm hnm _ (List.getElem_mem hil)
                          exact ⟨((coded nm)[i]).toNat, by rw [List.getElem?_eq_getElem hil]; congr 1; omega, by omega⟩
                        have e7 : wr.cell? ⟨g, i, none⟩ = some (.int .u8 y) := by
                          rw [hown.cellAt i (by omega)]
                          simp [nums, hy]
                        have HY := Lib.hid hy
                        clear hown hy
                        go_wp2_with fail
                        refine (sw_word [(g, o)] (N + 1) (N + 1) y 8 _ wh _ X.out.1 X.out.2 (by omega) (by decide) (by simp; omega)).mono ?_
                        rw [WS.puts_byte, Nat.mod_eq_of_lt hy2]
                        rintro e wz ⟨rfl, hsw, hbe⟩
                        go_wp2_with fail
                        go_roundw
                        case rel =>
                          refine ⟨i + 1, by omega, by go_num, ?_, hbe⟩
                          rw [List.take_add_one, HY.out, ← List.append_assoc]
                          exact hsw
                        case measure => simp [intOf]; omega
                      · obtain rfl : i = m := by omega
                        have hsw := X.out.1.unpin
                        rw [List.take_of_length_le (by rw [HCL.out]; exact Nat.le_refl _)] at hsw
                        have X12 := Lib.hid (And.intro hsw X.out.2)
                        clear hsw X hown
                        have hcs15 := HCS.out.lt
                        have hcr14 := HCR.out.lt
                        go_upto_block 9 with fail
                        go_cut [4] (fun v wx => v = .slice none 0 0 ∧ Sw [] (N + 1) (N + 1) ⟨H4 ++ coded nm ++ sizeExt cs sz, 0, 0⟩ wx ∧ Below (N + 1) wh wx)
                        case first =>
                          have hd1 : wr.cell? ⟨N, 1, none⟩ = some (.int .i64 sz) := by rw [cell_of_row wr N 1 _ _ _ (X12.out.2.block N (by omega) |>.trans HH0.out)]; rfl
                          obtain ⟨z, hz⟩ : ∃ z, sz - 1 = z := ⟨_, rfl⟩
                          have ez : (sz : Int) - 1 = (z : Int) := by omega
                          have hz2 : z < 65536 := by omega
                          have hlw : (H4 ++ coded nm).length ≤ 900000 := by rw [List.length_append, hl4, HCL.out]; omega
                          by_cases h6 : cs = 6
                          · have b6 : ((cs : Int) == 6) = true := by rw [h6]; rfl
                            have hz3 : z < 256 := by have := HCS.out; unfold SizeCode at this; omega
                            have HZ := Lib.hid (show sizeExt cs sz = [((z % 256 : Nat) : Int)] by unfold sizeExt; rw [if_pos h6, hz, Nat.mod_eq_of_lt hz3])
                            clear h6 hz
                            go_wp2_with fail
                            refine (sw_word [] (N + 1) (N + 1) z 8 _ wh _ X12.out.1 X12.out.2 (by omega) (by decide) hlw).mono ?_
                            rw [WS.puts_byte, ← HZ.out]
                            rintro e wz ⟨rfl, hsw, hbe⟩
                            go_wp2_with fail
                            go_meet
                            exact ⟨rfl, hsw, hbe⟩
                          · have b6 : ((cs : Int) == 6) = false := by simp; omega
                            by_cases h7 : cs = 7
                            · have b7 : ((cs : Int) == 7) = true := by rw [h7]; rfl
                              have HZ := Lib.hid (show sizeExt cs sz = [((z / 256 % 256 : Nat) : Int), ((z % 256 : Nat) : Int)] by unfold sizeExt; rw [if_neg h6, if_pos h7, hz, Nat.mod_eq_of_lt (show z / 256 < 256 by omega)])
                              clear h6 h7 hz
                              go_wp2_with fail
                              refine (sw_word [] (N + 1) (N + 1) z 16 _ wh _ X12.out.1 X12.out.2 (by omega) (by decide) hlw).mono ?_
                              rw [WS.puts_two, ← HZ.out]
                              rintro e wz ⟨rfl, hsw, hbe⟩
                              go_wp2_with fail
                              go_meet
                              exact ⟨rfl, hsw, hbe⟩
                            · have b7 : ((cs : Int) == 7) = false := by simp; omega
                              have HZ := Lib.hid (show sizeExt cs sz = [] by unfold sizeExt; rw [if_neg h6, if_neg h7])
                              clear h6 h7 hz
                              go_wp2_with fail
                              go_meet
                              exact ⟨rfl, by rw [HZ.out, List.append_nil]; exact X12.out.1, X12.out.2⟩
                        case rest =>
                          obtain ⟨rfl, hsw, hbe⟩ := hcut
                          have X13 := Lib.hid (And.intro hsw hbe)
                          clear hsw hbe X12 X11
                          go_upto_block 10 with fail
                          go_cut [4] (fun v wx => v = .slice none 0 0 ∧ Sw [] (N + 1) (N + 1) ⟨H4 ++ coded nm ++ sizeExt cs sz ++ rateExt cr rt, 0, 0⟩ wx ∧ Below (N + 1) wh wx)
                          case first =>
                            have hd2 : wc.cell? ⟨N, 2, none⟩ = some (.int .i64 rt) := by rw [cell_of_row wc N 2 _ _ _ (X13.out.2.block N (by omega) |>.trans HH0.out)]; rfl
                            have hlw : (H4 ++ coded nm ++ sizeExt cs sz).length ≤ 900000 := by
                              have : (sizeExt cs sz).length ≤ 2 := by unfold sizeExt; (repeat' split) <;> simp
                              rw [List.length_append, List.length_append, hl4, HCL.out]; omega
                            by_cases h12 : cr = 12
                            · obtain ⟨z, hz⟩ : ∃ z, rt / 1000 = z := ⟨_, rfl⟩
                              have ez : (rt : Int) / 1000 = (z : Int) := by omega
                              have hz3 : z < 256 := by have := HCR.out; unfold RateCode at this; omega
                              have b1 : ((cr : Int) == 12) = true := by rw [h12]; rfl
                              have HZ := Lib.hid (show rateExt cr rt = [((z % 256 : Nat) : Int)] by unfold rateExt; rw [if_pos h12, hz, Nat.mod_eq_of_lt hz3])
                              clear h12 hz
                              go_wp2_with fail
                              refine (sw_word [] (N + 1) (N + 1) z 8 _ wh _ X13.out.1 X13.out.2 (by omega) (by decide) hlw).mono ?_
                              rw [WS.puts_byte, ← HZ.out]
                              rintro e wz ⟨rfl, hsw, hbe⟩
                              go_wp2_with fail
                              go_meet
                              exact ⟨rfl, hsw, hbe⟩
                            · have b1 : ((cr : Int) == 12) = false := by simp; omega
                              by_cases h13 : cr = 13
                              · have b2 : ((cr : Int) == 13) = true := by rw [h13]; rfl
                                have hr3 : rt < 65536 := by have := HCR.out; unfold RateCode at this; omega
                                have HZ := Lib.hid (show rateExt cr rt = [((rt / 256 % 256 : Nat) : Int), ((rt % 256 : Nat) : Int)] by unfold rateExt; rw [if_neg h12, if_pos h13, Nat.mod_eq_of_lt (show rt / 256 < 256 by omega)])
                                clear h12 h13 hr3
                                go_wp2_with fail
                                refine (sw_word [] (N + 1) (N + 1) rt 16 _ wh _ X13.out.1 X13.out.2 (by omega) (by decide) hlw).mono ?_
                                rw [WS.puts_two, ← HZ.out]
                                rintro e wz ⟨rfl, hsw, hbe⟩
                                go_wp2_with fail
                                go_meet
                                exact ⟨rfl, hsw, hbe⟩
                              · have b2 : ((cr : Int) == 13) = false := by simp; omega
                                by_cases h14 : cr = 14
                                · obtain ⟨z, hz⟩ : ∃ z, rt / 10 = z := ⟨_, rfl⟩
                                  have ez : (rt : Int) / 10 = (z : Int) := by omega
                                  have hz3 : z < 65536 := by omega
                                  have b3 : ((cr : Int) == 14) = true := by rw [h14]; rfl
                                  have HZ := Lib.hid (show rateExt cr rt = [((z / 256 % 256 : Nat) : Int), ((z % 256 : Nat) : Int)] by unfold rateExt; rw [if_neg h12, if_neg h13, if_pos h14, hz, Nat.mod_eq_of_lt (show z / 256 < 256 by omega)])
                                  clear h12 h13 h14 hz
                                  go_wp2_with fail
                                  refine (sw_word [] (N + 1) (N + 1) z 16 _ wh _ X13.out.1 X13.out.2 (by omega) (by decide) hlw).mono ?_
                                  rw [WS.puts_two, ← HZ.out]
                                  rintro e wz ⟨rfl, hsw, hbe⟩
                                  go_wp2_with fail
                                  go_meet
                                  exact ⟨rfl, hsw, hbe⟩
                                · have b3 : ((cr : Int) == 14) = false := by simp; omega
                                  have HZ := Lib.hid (show rateExt cr rt = [] by unfold rateExt; rw [if_neg h12, if_neg h13, if_neg h14])
                                  clear h12 h13 h14
                                  go_wp2_with fail
                                  go_meet
                                  exact ⟨rfl, by rw [HZ.out, List.append_nil]; exact X13.out.1, X13.out.2⟩
                          case rest =>
                            obtain ⟨rfl, hsw, hbe⟩ := hcut
                            obtain ⟨HB, hHB⟩ : ∃ HB, H4 ++ coded nm ++ sizeExt cs sz ++ rateExt cr rt = HB := ⟨_, rfl⟩
                            have HHB := Lib.hid (show headBytes vr sz rt asg nm cs cr cb = HB by rw [← hHB, ← HH4.out]; rfl)
                            rw [hHB] at hsw
                            have hlb : HB.length ≤ 20 := by
                              have h1 : (sizeExt cs sz).length ≤ 2 := by unfold sizeExt; (repeat' split) <;> simp
                              have h2 : (rateExt cr rt).length ≤ 2 := by unfold rateExt; (repeat' split) <;> simp
                              rw [← hHB, List.length_append, List.length_append, List.length_append, hl4, HCL.out]; omega
                            obtain ⟨v, hk, hown, hne, _⟩ := hsw.ex
                            have hbb : (⟨HB, 0, 0⟩ : WS).bytes = HB := rfl
                            rw [hbb] at hown
                            obtain ⟨A, c, rfl, hR⟩ := own_reads hown
                            have c0 : wc.cell? ⟨N + 1, 0, none⟩ = some (.slice A HB.length c) := by rw [cell_of_row wc (N + 1) 0 _ _ _ hk]; rfl
                            obtain ⟨n, hn⟩ : ∃ n, HB.length = n := ⟨_, rfl⟩
                            rw [hn] at hown hR c0 hlb
                            have hc : n ≤ c := own_cap hown
                            have hbyte := head_byte vr sz rt asg nm cs cr cb hsz hsz2 hrt hasg hnm HCS.out HCR.out hcb8
                            rw [HHB.out] at hbyte
                            obtain ⟨z, hz, hz2⟩ := sum_byte HB hbyte
                            have hbw : Below N w wc := HBH.out.trans ⟨hbe.os, hbe.tape, hbe.output, hbe.size, fun k hk => hbe.block k (by omega)⟩
                            have hNw : N ≤ wc.heap.size := by have := hbe.size; have := HSH.out; omega
                            have hcall : Calls Tryd.prog 12 #[.slice A n c] wc.drew fun e w' => e = .returned (.int .i64 z) ∧ w'.cell? ⟨N + 1, 0, none⟩ = some (.slice A n c) ∧ w'.ownsRow N 5 1 (.slice A n c) n (nums .u8 HB) ∧ Below N w w' ∧ N ≤ w'.heap.size := by
                              subst hn
                              refine (crc8_call A c HB wc.drew hR hc (by omega) hbyte).mono ?_
                              rintro e w' ⟨he, q, rfl⟩
                              exact ⟨by rw [he, hz], c0, (own_weaken hown (by omega : N ≤ N + 1)), (hbw.drew).drewN' q, hNw⟩
                            have hwz : IntKind.u8.wrap (z : Int) = (z : Int) := by rw [IntKind.wrap_u8']; omega
                            have HCALL := Lib.hid hcall
                            have HZ := Lib.hid hz
                            have HN2 := Lib.hid hn
                            clear hown hbe hsw hk hne hR hHB X13 hcall hbyte hbw hNw hz hn
                            go_wp2_with fail
                            go_region_law (first
                              | (refine step_append_cells (w0 := w) N rfl (.tmp 167) (.tmp 174) 25 5 (.int .u8 0) 1 1 rfl rfl rfl rfl (by decide) (by decide) (.slice A n c) n (nums .u8 HB) [.int .u8 z] rfl rfl rfl (by simp [Value.oneCell']) (by assumption) (by assumption) (by assumption) (by omega) ?_; intro v1 w1 hO1 hB1 hG1 hA1)
                              | (go_simp; refine HCALL.out.mono ?_; rintro e w' ⟨rfl, k0, k1, k2, k3⟩; (have k4 := ((Touch.refl [] w').alloc (.cells #[.int .u8 z] 5)).cell k0 (by simp))))
                            all_goals
                              go_wp2_with fail
                              go_ret
                              refine ⟨_, cs, cr, cb, HCS.out, HCR.out, HBP.out, hcb8, rfl, ?_, by assumption⟩
                              rw [HHB.out, HZ.out, HN2.out]
                              have e : nums .u8 (HB ++ [(z : Int)]) = nums .u8 HB ++ [.int .u8 z] := by simp [nums]
                              rw [e]
                              assumption
end Go.Proofs.YtcdfbcanebjmfaaDoor.Walk
