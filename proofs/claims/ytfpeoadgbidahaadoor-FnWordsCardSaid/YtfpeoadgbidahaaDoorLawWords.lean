/- The walk of the law on words of bits. -/
import Derived.Test.YtfpeoadgbidahaaDoorWords
import Derived.Deep.DeepCutAuto
import Derived.Deep.CutBlock
import Derived.Outline
namespace Go.Proofs.YtfpeoadgbidahaaDoor.Walk
set_option linter.unusedVariables false
set_option linter.unusedSimpArgs false
open Go Go.RowKit Go.Proofs.YtfpeoadgbidahaaDoorW.PrintWords Go.Proofs.YtfpeoadgbidahaaDoor.Num

/-- How the law's own loop ends: all words are there (and the list is whole), or bits are missing at word J (and the list ends with it). -/
def Stopped (l : List Int) (ws : List Nat) (J : Nat) (ws2 : List Nat) (short : Bool) : Prop :=
  (short = false ∧ J = ws.length ∧ ws2 = ws ∧ sumTo ws J ≤ 8 * l.length) ∨ (short = true ∧ J < ws.length ∧ ws2 = ws.take (J + 1) ∧ sumTo ws J ≤ 8 * l.length ∧ 8 * l.length < sumTo ws (J + 1))

theorem sumTo_mono (ws : List Nat) {i j : Nat} (h : i ≤ j) : sumTo ws i ≤ sumTo ws j := by
  unfold sumTo
  have e : ws.take i = (ws.take j).take i := by rw [List.take_take, Nat.min_eq_left h]
  rw [e]
  have := List.take_append_drop i (ws.take j)
  have h2 : (ws.take j).sum = ((ws.take j).take i).sum + ((ws.take j).drop i).sum := by rw [← List.sum_append, this]
  omega
theorem sumTo_take (ws : List Nat) (m i : Nat) (h : i ≤ m) : sumTo (ws.take m) i = sumTo ws i := by
  unfold sumTo; rw [List.take_take, Nat.min_eq_left h]
theorem wordsTo_take (l : List Int) (ws : List Nat) (m j : Nat) (h : j ≤ m) : wordsTo l (ws.take m) j = wordsTo l ws j := by
  unfold wordsTo
  apply List.map_congr_left
  intro i hi
  have hi' : i < j := List.mem_range.1 hi
  rw [sumTo_take ws m i (by omega)]
  have : (ws.take m).getD i 0 = ws.getD i 0 := by
    rw [List.getD_eq_getElem?_getD, List.getD_eq_getElem?_getD, List.getElem?_take, if_pos (by omega)]
  rw [this]
theorem stopped_told {l : List Int} {ws ws2 : List Nat} {J : Nat} {short : Bool} (h : Stopped l ws J ws2 short) {j : Nat} {code : Int} (hj : j ≤ ws2.length) (hs : sumTo ws2 j ≤ 8 * l.length)
    (hc : (j = ws2.length ∧ code = 0) ∨ (j < ws2.length ∧ 8 * l.length < sumTo ws2 (j + 1) ∧ code = 1)) : j = J ∧ wordsTo l ws2 j = wordsTo l ws J ∧ code = (if short then 1 else 0) := by
  rcases h with ⟨rfl, rfl, rfl, h1⟩ | ⟨rfl, h0, rfl, h1, h2⟩
  · rcases hc with ⟨rfl, rfl⟩ | ⟨h3, h4, rfl⟩
    · exact ⟨rfl, rfl, rfl⟩
    · have := sumTo_mono ws2 (i := j + 1) (j := ws2.length) (by omega); omega
  · have hlen : (ws.take (J + 1)).length = J + 1 := by rw [List.length_take]; omega
    rw [hlen] at hj hc
    rw [sumTo_take ws (J + 1) j hj] at hs
    rcases hc with ⟨rfl, rfl⟩ | ⟨h3, h4, rfl⟩
    · omega
    · rw [sumTo_take ws (J + 1) (j + 1) (by omega)] at h4
      have hjJ : j = J := by
        rcases Nat.lt_or_ge j J with h | h
        · have := sumTo_mono ws (i := j + 1) (j := J) (by omega); omega
        · omega
      subst hjJ
      exact ⟨rfl, wordsTo_take l ws (j + 1) j (by omega), rfl⟩

theorem infoI64 : (Tryd.prog.info? 3).map (fun i => (i.zero, i.size, i.bytes)) = some (some (.int .i64 0), 1, 8) := by kernel_rfl

/-- v << 1 | one bit. -/
theorem one_bit (b i : Nat) (hb : b < 256) : Go.bits .and .u8 ((b : Int) / 2 ^ i) 1 = ((b / 2 ^ i % 2 : Nat) : Int) := by
  have e0 : (b : Int) / 2 ^ i = ((b / 2 ^ i : Nat) : Int) := by simp
  have hlt : b / 2 ^ i < 256 := Nat.lt_of_le_of_lt (Nat.div_le_self _ _) hb
  obtain ⟨q, hq⟩ : ∃ q, b / 2 ^ i = q := ⟨_, rfl⟩
  rw [hq] at e0 hlt
  rw [e0, u8_and _ _ (by omega) (by omega) (by decide) (by decide), hq]
  show ((q &&& 1 : Nat) : Int) = _
  rw [Nat.and_one_is_mod]
theorem or_one (N t : Nat) (ht : t ≤ 1) (hN : 2 * N + 1 < 18446744073709551616) : Go.bits .or .u64 (IntKind.u64.wrap ((N : Int) * 2)) (t : Int) = ((2 * N + t : Nat) : Int) := by
  have e2 : IntKind.u64.wrap ((N : Int) * 2) = (N : Int) * 2 ^ 1 := by rw [IntKind.wrap_u64]; omega
  rw [e2, or_u64_add (N : Int) _ 1 (by omega) (by omega) (by omega) (by omega)]
  omega

theorem one_reads (w : World) (T : Nat) (k : IntKind) (x : Int) : ReadsInt (w.alloc (.cells #[.int k x] T)) k (some ⟨w.heap.size, 0, none⟩) 1 [x] := by
  refine ⟨rfl, by decide, fun _ => ⟨_, rfl, fun j hj => ?_⟩⟩
  obtain rfl : j = 0 := by omega
  rw [add_plain, World.cell?_alloc_at _ _ _ _ rfl]; rfl

set_option maxRecDepth 100000 in
theorem wordsIs_seven (A : Option Addr) (c : Nat) (w : World) (hl : ReadsInt w .u64 A 1 [7]) :
    Calls Tryd.prog 10 #[.slice A 1 c, .int .i64 0] w fun e w' => e = .returned (.bool true) ∧ w' = w := by
  obtain ⟨ad, rfl, hc⟩ := hl.2.2 (by omega)
  have c0 : w.cell? ad = some (.int .u64 7) := by have h := hc 0 (by omega); rw [show ad.add 0 = ad from rfl] at h; exact h
  clear hc
  go_enter Tryd.func10, Tryd.ntmps10
  go_wp2_with fail
  go_ret
  exact ⟨rfl, rfl⟩

/-- What the law's own loop leaves. -/
def LoopOut (l : List Int) (ws : List Nat) (w : World) (lv wv sv : Value) (wx : World) : Prop :=
  ∃ (J : Nat) (ws2 : List Nat) (short : Bool), Stopped l ws J ws2 short ∧ sv = .bool short ∧ wx.ownsRow w.heap.size 3 1 lv ws2.length (nums .i64 (ws2.map fun x : Nat => (x : Int))) ∧
    wx.ownsRow w.heap.size 25 1 wv J (nums .u64 (wordsTo l ws J)) ∧ Below w.heap.size w wx

set_option maxHeartbeats 12000000 in
set_option maxRecDepth 100000 in
theorem lawWords (A : Option Addr) (n c : Nat) (l : List Int) (B : Option Addr) (m d : Nat) (us : List Int) (w : World) (ea eb : Addr)
    (hl : ReadsInt w .u8 A n l) (hc : n ≤ c) (hm : n ≤ 140737488351232) (hbytes : ∀ x ∈ l, 0 ≤ x ∧ x ≤ 255)
    (hu : ReadsInt w .u8 B m us) (hus : ∀ x ∈ us, 0 ≤ x ∧ x ≤ 255) (hmm : m ≤ 140737488351232) (hG : Glob w ea eb) (hsafe : ∀ k, w.heap.size ≤ k → Safe k) :
    Calls Tryd.prog 3 #[.slice A n c, .slice B m d] w fun e w' => e = .returned (.bool true) ∧ Below w.heap.size w w' := by
  have HL := Lib.hid hl
  have HU := Lib.hid hu
  have HB := Lib.hid hbytes
  have HUS := Lib.hid hus
  have HG := Lib.hid hG
  have HSF := Lib.hid hsafe
  clear hl hu hbytes hus hG hsafe
  by_cases h1 : 2147483647 < n
  · go_enter Tryd.func3, Tryd.ntmps3
    go_wp2_with fail
    go_ret
    exact ⟨rfl, Below.refl _ _⟩
  by_cases h2 : 2147483647 < m
  · go_enter Tryd.func3, Tryd.ntmps3
    go_wp2_with fail
    go_ret
    exact ⟨rfl, Below.refl _ _⟩
  by_cases h3 : 1000 < n
  · go_enter Tryd.func3, Tryd.ntmps3
    go_wp2_with fail
    go_ret
    exact ⟨rfl, Below.refl _ _⟩
  by_cases h4 : 100 < m
  · go_enter Tryd.func3, Tryd.ntmps3
    go_wp2_with fail
    go_ret
    exact ⟨rfl, Below.refl _ _⟩
  obtain ⟨ws, hwsd⟩ : ∃ ws, us.map (fun x => (x % 65).toNat) = ws := ⟨_, rfl⟩
  have HWS := Lib.hid hwsd
  clear hwsd
  go_enter Tryd.func3, Tryd.ntmps3
  go_upto_block 0 with fail
  go_cut [5, 6, 8] (fun lv wv sv wx => LoopOut l ws w lv wv sv wx)
  case first =>
    go_wp2_with fail
    go_loopw [5, 6, 7, 8, 37] (fun lv wv av sv i wr => ∃ j : Nat, j ≤ m ∧ i = .int .i64 j ∧ sv = .bool false ∧ av = .int .i64 (sumTo ws j) ∧ sumTo ws j ≤ 8 * n ∧
      wr.ownsRow w.heap.size 3 1 lv j (nums .i64 ((ws.take j).map fun x : Nat => (x : Int))) ∧ wr.ownsRow w.heap.size 25 1 wv j (nums .u64 (wordsTo l ws j)) ∧ Below w.heap.size w wr) (fun _ _ _ _ i _ => m - (intOf i).toNat)
    case atStart =>
      refine ⟨0, by omega, rfl, rfl, rfl, Nat.zero_le _, ?_, ?_, ?_⟩
      · exact (World.ownsRow_lit (base := w.heap.size) w #[] 0 (Nat.le_refl _) (by unfold maxLen; omega) (by simp)).alloc _
      · have h := World.ownsRow_lit (base := w.heap.size) (e := 25) (size := 1) (w.alloc (.cells #[] 3)) #[] 0 (by simp) (by unfold maxLen; omega) (by simp)
        have e : nums .u64 (wordsTo l ws 0) = [] := rfl
        rw [e]; simpa using h
      · exact ((Below.refl _ _).alloc (Nat.le_refl _) _).alloc (by simp) _
    case round =>
      obtain ⟨j, hj, rfl, rfl, rfl, hsum, hl1, hl2, hbe⟩ := hrel
      have HO1 := Lib.hid hl1
      have HO2 := Lib.hid hl2
      have HBE := Lib.hid hbe
      clear hl1 hl2 hbe
      have hlen : l.length = n := HL.out.1
      have hul : us.length = m := HU.out.1
      have hwl : ws.length = m := by rw [← HWS.out, List.length_map]; exact hul
      have HLEN := Lib.hid hlen
      have HWL := Lib.hid hwl
      by_cases hlt : j < m
      · obtain ⟨uj, huj⟩ : ∃ uj : Nat, us.getD j 0 = (uj : Int) := by
          have : 0 ≤ us.getD j 0 := by
            rw [List.getD_eq_getElem?_getD, List.getElem?_eq_getElem (by omega)]
            exact (HUS.out _ (List.getElem_mem _)).1
          exact ⟨(us.getD j 0).toNat, by omega⟩
        have huj1 : uj ≤ 255 := by
          have : us.getD j 0 ≤ 255 := by
            rw [List.getD_eq_getElem?_getD, List.getElem?_eq_getElem (by omega)]
            exact (HUS.out _ (List.getElem_mem _)).2
          omega
        obtain ⟨nj, hnj⟩ : ∃ nj, ws.getD j 0 = nj := ⟨_, rfl⟩
        have hmod : ((uj : Int) % 65) = (nj : Int) := by
          rw [← hnj, ← HWS.out, List.getD_eq_getElem?_getD, List.getElem?_map]
          rw [List.getD_eq_getElem?_getD] at huj
          rw [List.getElem?_eq_getElem (by omega)] at huj ⊢
          simp only [Option.getD_some, Option.map_some] at huj ⊢
          rw [huj]; omega
        have hnj64 : nj ≤ 64 := by omega
        have hs1 : sumTo ws (j + 1) = sumTo ws j + nj := by rw [sumTo_succ ws j (by omega), hnj]
        obtain ⟨ad, rfl, hcell⟩ := (HU.out.below HBE.out).2.2 (by omega)
        have c1' : wr.cell? (ad.add j) = some (.int .u8 uj) := by rw [hcell j hlt, huj]
        obtain ⟨a0, ha0⟩ : ∃ a0, sumTo ws j = a0 := ⟨_, rfl⟩
        rw [ha0] at hsum hs1
        rw [ha0]
        have HA0 := Lib.hid ha0
        have HS1 := Lib.hid hs1
        have HNJ := Lib.hid hnj
        clear hcell huj hnj hs1 hlen hul hwl ha0
        go_wp2_with (with_reducible refine stop_dst (N := 47) rfl ?_)
        refine unstop ?_
        refine print_append_num (w0 := w) w.heap.size rfl (.tmp 44) (.tmp 46) 23 3 .i64 8 rfl Tryd.underlying23 infoI64 (by decide) u5 ((ws.take j).map fun x : Nat => (x : Int)) (nj : Int) rfl rfl ?aO HBE.out HBE.out.size ?aL ?_
        case aO =>
          have e : ((ws.take j).map fun x : Nat => (x : Int)).length = j := by simp; have := HWL.out; omega
          rw [e]; exact HO1.out
        case aL => simp; have := HWL.out; omega
        intro v1 w2 hO2 hB2 hgr hat
        have h6 : w2.ownsRow w.heap.size 25 1 u6 j (nums .u64 (wordsTo l ws j)) := own_other HO2.out hgr (own_type_ne HO2.out HO1.out (by decide))
        have h5 : w2.ownsRow w.heap.size 3 1 v1 (j + 1) (nums .i64 ((ws.take (j + 1)).map fun x : Nat => (x : Int))) := by
          have hwj : j < ws.length := by rw [HWL.out]; exact hlt
          have e : (ws.take (j + 1)).map (fun x : Nat => (x : Int)) = (ws.take j).map (fun x : Nat => (x : Int)) ++ [(nj : Int)] := by
            rw [List.take_add_one, List.getElem?_eq_getElem hwj, List.map_append]
            have := HNJ.out
            rw [List.getD_eq_getElem?_getD, List.getElem?_eq_getElem hwj] at this
            simp at this
            simp [this]
          have e2 : ((ws.take j).map (fun x : Nat => (x : Int)) ++ [(nj : Int)]).length = j + 1 := by simp; have := HWL.out; omega
          rw [e2] at hO2
          rw [e]; exact hO2
        have H5 := Lib.hid h5
        have H6 := Lib.hid h6
        have HB2 := Lib.hid hB2
        clear hO2 hB2 hgr hat h5 h6
        go_wp2_with fail
        go_loop [8, 12, 49] (fun sv vv kv => ∃ (k : Nat) (b : Bool) (z : Int), k ≤ nj ∧ kv = .int .i64 k ∧ sv = .bool b ∧ vv = .int .u64 z ∧ (b = true ↔ 8 * n < a0 + k) ∧ (b = false → z = (num l a0 k : Int))) (fun _ _ kv => nj - (intOf kv).toNat)
        case atStart => exact ⟨0, false, 0, by omega, rfl, rfl, rfl, by simp; omega, fun _ => rfl⟩
        case round =>
          obtain ⟨k, b, z, hk, rfl, rfl, rfl, hbk, hz⟩ := hrel
          have HBK := Lib.hid hbk
          have HZ := Lib.hid hz
          clear hbk hz
          by_cases hkn : k < nj
          · by_cases hin : a0 + k < 8 * n
            · obtain ⟨N, hN⟩ : ∃ N, num l a0 k = N := ⟨_, rfl⟩
              have hbf : b = false := by
                cases b
                · rfl
                · have := HBK.out.1 rfl; omega
              have hzN : z = (N : Int) := by rw [HZ.out hbf, hN]
              subst hbf
              subst hzN
              obtain ⟨q, hq⟩ : ∃ q, (a0 + k) / 8 = q := ⟨_, rfl⟩
              obtain ⟨i, hi⟩ : ∃ i, 7 - (a0 + k) % 8 = i := ⟨_, rfl⟩
              have hq1 : ((a0 : Int) + (k : Int)) / 8 = (q : Int) := by omega
              have hi1 : (7 : Int) - ((a0 : Int) + (k : Int)) % 8 = (i : Int) := by omega
              have hqn : q < n := by omega
              have hi7 : i ≤ 7 := by omega
              obtain ⟨ad2, rfl, hcell⟩ := (HL.out.below HB2.out).2.2 (by omega)
              obtain ⟨bb, hbb⟩ : ∃ bb, byteAt l q = bb := ⟨_, rfl⟩
              have hq2 : q < l.length := by rw [HLEN.out]; exact hqn
              have hrng := HB.out _ (List.getElem_mem hq2)
              have hgd : l.getD q 0 = (bb : Int) := by
                rw [← hbb]; unfold byteAt
                rw [List.getD_eq_getElem?_getD, List.getElem?_eq_getElem hq2]; simp; omega
              have hbb1 : bb ≤ 255 := by
                have : l.getD q 0 ≤ 255 := by rw [List.getD_eq_getElem?_getD, List.getElem?_eq_getElem hq2]; exact hrng.2
                omega
              have c2' : w2.cell? (ad2.add q) = some (.int .u8 bb) := by rw [hcell q hqn, hgd]
              have HQ := Lib.hid hq
              have HI := Lib.hid hi
              have HBB := Lib.hid hbb
              have HN := Lib.hid hN
              clear hcell hgd hrng hbb hq hi hN
              obtain ⟨t, ht, htd⟩ : ∃ t : Nat, bits .and .u8 ((bb : Int) / 2 ^ i) 1 = (t : Int) ∧ t = bb / 2 ^ i % 2 := ⟨_, one_bit bb i (by omega), rfl⟩
              have ht1 : t ≤ 1 := by omega
              have HTD := Lib.hid htd
              clear htd
              go_wp2_with fail
              have hNlt : 2 * N + 1 < 18446744073709551616 := by
                have := num_lt l a0 k
                rw [HN.out] at this
                have h3 : 2 ^ k ≤ 2 ^ 63 := Nat.pow_le_pow_right (by decide) (by omega)
                omega
              refine ⟨⟨k + 1, false, _, by omega, by go_num, rfl, rfl, by simp; omega, fun _ => ?_⟩, by simp [intOf]; omega⟩
              rw [or_one N t ht1 hNlt, num, HN.out, bitAt, HQ.out, HI.out, HBB.out, HTD.out]
            · go_wp2_with fail
              refine ⟨⟨k + 1, true, z, by omega, by go_num, rfl, rfl, by simp; omega, fun h => by simp at h⟩, by simp [intOf]; omega⟩
          · have hkn' : k = nj := by omega
            subst hkn'
            cases b with
            | true =>
              have hbig := HBK.out.1 rfl
              go_wp2_with fail
              go_meet
              have hwl := HWL.out
              have hln := HLEN.out
              refine ⟨j, ws.take (j + 1), true, .inr ⟨rfl, by omega, rfl, by rw [HA0.out]; omega, by rw [HS1.out]; omega⟩, rfl, ?_, H6.out, HB2.out⟩
              have e : (ws.take (j + 1)).length = j + 1 := by rw [List.length_take]; omega
              rw [e]; exact H5.out
            | false =>
              have hsm : a0 + k ≤ 8 * n := by
                rcases Nat.lt_or_ge (8 * n) (a0 + k) with h | h
                · have := HBK.out.2 h; simp at this
                · exact h
              go_wp2_with (with_reducible refine stop_dst (N := 82) rfl ?_)
              refine unstop ?_
              refine print_append_num (w0 := w) w.heap.size rfl (.tmp 79) (.tmp 81) 24 25 .u64 8 rfl Tryd.underlying24 infoU64 (by decide) u6 (wordsTo l ws j) z rfl rfl ?bO HB2.out HB2.out.size ?bL ?_
              case bO => rw [wordsTo_len]; exact H6.out
              case bL => rw [wordsTo_len]; omega
              intro v2 w3 hO3 hB3 hgr _
              have h5 : w3.ownsRow w.heap.size 3 1 v1 (j + 1) (nums .i64 ((ws.take (j + 1)).map fun x : Nat => (x : Int))) := own_other H5.out hgr (own_type_ne H5.out H6.out (by decide))
              have h6 : w3.ownsRow w.heap.size 25 1 v2 (j + 1) (nums .u64 (wordsTo l ws (j + 1))) := by
                have e2 : (wordsTo l ws j ++ [z]).length = j + 1 := by rw [List.length_append, wordsTo_len]; rfl
                rw [e2] at hO3
                rw [wordsTo_succ, HA0.out, HNJ.out, ← HZ.out (by first | rfl | trivial)]
                exact hO3
              have X := Lib.hid (And.intro h5 (And.intro h6 hB3))
              clear hO3 hB3 hgr h5 h6
              go_wp2_with fail
              go_roundw
              case rel => exact ⟨j + 1, by omega, by go_num, rfl, by rw [HS1.out]; go_num, by rw [HS1.out]; exact hsm, X.out.1, X.out.2.1, X.out.2.2⟩
              case measure => simp [intOf]; omega
      · go_wp2_with fail
        go_meet
        have hjm : j = m := by omega
        subst hjm
        refine ⟨j, ws, false, .inl ⟨rfl, hwl.symm, rfl, by omega⟩, rfl, ?_, HO2.out, HBE.out⟩
        have := HO1.out
        rw [List.take_of_length_le (by omega)] at this
        rw [hwl]; exact this
  case rest =>
    obtain ⟨J, ws2, short, hst, rfl, hL, hW, hBe⟩ := hcut
    have hws64 : ∀ x ∈ ws, x ≤ 64 := by
      intro x hx
      rw [← HWS.out] at hx
      obtain ⟨u, _, rfl⟩ := List.mem_map.1 hx
      omega
    have hwl : ws.length = m := by rw [← HWS.out, List.length_map]; exact HU.out.1
    have hws2 : (∀ x ∈ ws2, x ≤ 64) ∧ ws2.length ≤ 100 := by
      rcases hst with ⟨_, _, rfl, _⟩ | ⟨_, _, rfl, _⟩
      · exact ⟨hws64, by omega⟩
      · exact ⟨fun x hx => hws64 x (List.mem_of_mem_take hx), by rw [List.length_take]; omega⟩
    have hJ : J ≤ 100 := by
      rcases hst with ⟨_, rfl, _, _⟩ | ⟨_, h, _, _⟩ <;> omega
    obtain ⟨A5, c5, rfl, hR5⟩ := own_reads hL
    have hdone := own_lt hW
    obtain ⟨A6, c6, rfl, hR6⟩ := own_reads hW
    have HST := Lib.hid hst
    have HR5 := Lib.hid hR5
    have HR6 := Lib.hid hR6
    have HBE := Lib.hid hBe
    have HW2 := Lib.hid hws2
    clear hst hL hW hR5 hR6 hBe hws2 hws64 hwl hdone
    go_wp2_with fail
    refine (words_any A n c l A5 ws2.length c5 ws2 wc ea eb (HL.out.below HBE.out) hc hm HB.out HR5.out HW2.out.1 (by have := HW2.out.2; omega) (HG.out.touch (U := []) (Touch.of_below HBE.out) (by simp))
      (fun k hk => HSF.out k (Nat.le_trans HBE.out.size hk))).mono ?_
    rintro e w2 ⟨j, v, code, rfl, hj, hs, hcode, hO, hB2⟩
    obtain ⟨rfl, hwt, rfl⟩ := stopped_told HST.out hj hs hcode
    rw [hwt] at hO
    obtain ⟨A7, c7, rfl, hR7⟩ := own_reads hO
    have HR7 := Lib.hid hR7
    have HR6' := Lib.hid (HR6.out.below hB2)
    have HB2 := Lib.hid (below_then HBE.out HBE.out.size hB2)
    have hwlen : (wordsTo l ws j).length = j := wordsTo_len _ _ _
    have HWLEN := Lib.hid hwlen
    clear hO hR7 hB2 hj hs hcode hwt hwlen
    cases short
    case true =>
      go_wp2_with fail
      go_loopw [106] (fun i wr => ∃ k q : Nat, k ≤ j ∧ i = .int .i64 k ∧ wr = w2.drewN q) (fun i _ => j - (intOf i).toNat)
      case atStart => exact ⟨0, 0, by omega, rfl, rfl⟩
      case round =>
        obtain ⟨k, q, hk, rfl, rfl⟩ := hrel
        by_cases hkj : k < j
        · obtain ⟨ad7, rfl, cell7⟩ := HR7.out.2.2 (by omega)
          obtain ⟨ad6, rfl, cell6⟩ := HR6'.out.2.2 (by omega)
          have e7 := cell7 k hkj
          have e6 := cell6 k hkj
          obtain ⟨z, hz⟩ : ∃ z, (wordsTo l ws j).getD k 0 = z := ⟨_, rfl⟩
          rw [hz] at e7 e6
          clear cell7 cell6
          go_wp2_with fail
          go_quiet (fail)
          go_wp2_with fail
          go_roundw
          case rel => exact ⟨k + 1, q + nq, by omega, by go_num, by simp⟩
          case measure => simp [intOf]; omega
        · go_wp2_with fail
          have hB3 : Below w.heap.size w (w2.drewN q) := below_drewN HB2.out q
          obtain ⟨w3, hw3⟩ : ∃ w3, w2.drewN q = w3 := ⟨_, rfl⟩
          have hsz : w2.heap.size = w3.heap.size := by rw [← hw3]; rfl
          rw [hw3] at hB3 ⊢
          rw [hsz]
          have HB3 := Lib.hid hB3
          clear hB3 hw3
          have hB4 : Below w.heap.size w (w3.alloc (.cells #[.int .u8 255] 5)) := HB3.out.alloc HB3.out.size _
          have hB5 : Below w.heap.size w ((w3.alloc (.cells #[.int .u8 255] 5)).alloc (.cells #[.int .i64 3] 3)) := hB4.alloc hB4.size _
          have hD : ReadsInt ((w3.alloc (.cells #[.int .u8 255] 5)).alloc (.cells #[.int .i64 3] 3)) .u8 (some ⟨w3.heap.size, 0, none⟩) 1 [255] := (one_reads w3 5 .u8 255).below ((Below.refl _ _).alloc (Nat.le_refl _) _)
          have hW : ReadsInt ((w3.alloc (.cells #[.int .u8 255] 5)).alloc (.cells #[.int .i64 3] 3)) .i64 (some ⟨w3.heap.size + 1, 0, none⟩) 1 (([3] : List Nat).map (fun x : Nat => (x : Int))) := by
            have h := one_reads (w3.alloc (.cells #[.int .u8 255] 5)) 3 .i64 3
            rw [show (w3.alloc (.cells #[.int .u8 255] 5)).heap.size = w3.heap.size + 1 from by simp] at h
            exact h
          refine (words_any _ 1 1 [255] _ 1 1 [3] _ ea eb hD (Nat.le_refl _) (by decide) (by simp) hW (by simp) (by decide) (HG.out.touch (U := []) (Touch.of_below hB5) (by simp))
            (fun k hk => HSF.out k (Nat.le_trans hB5.size hk))).mono ?_
          rintro e w4 ⟨j1, v1, code1, rfl, hj1, hs1, hcode1, hO1, hB6⟩
          obtain ⟨rfl, rfl⟩ : j1 = 1 ∧ code1 = 0 := by
            rcases hcode1 with ⟨h1, h2⟩ | ⟨h1, h2, _⟩
            · exact ⟨h1, h2⟩
            · obtain rfl : j1 = 0 := by simp at h1; exact h1
              simp [sumTo] at h2
          have e7 : wordsTo [255] [3] 1 = [7] := by decide
          rw [e7] at hO1
          obtain ⟨A8, c8, rfl, hR8⟩ := own_reads hO1
          have hB7 := below_then hB5 hB5.size hB6
          have HB7 := Lib.hid hB7
          have HR8 := Lib.hid hR8
          clear hO1 hB4 hB5 hB6 hB7 hD hW hj1 hs1 hcode1 hR8
          go_wp2_with fail
          refine (wordsIs_seven A8 c8 w4 HR8.out).mono ?_
          rintro e w5 ⟨rfl, rfl⟩
          go_wp2_with fail
          go_ret
          exact ⟨rfl, HB7.out⟩
    case false =>
      go_wp2_with fail
      go_loopw [106] (fun i wr => ∃ k q : Nat, k ≤ j ∧ i = .int .i64 k ∧ wr = w2.drewN q) (fun i _ => j - (intOf i).toNat)
      case atStart => exact ⟨0, 0, by omega, rfl, rfl⟩
      case round =>
        obtain ⟨k, q, hk, rfl, rfl⟩ := hrel
        by_cases hkj : k < j
        · obtain ⟨ad7, rfl, cell7⟩ := HR7.out.2.2 (by omega)
          obtain ⟨ad6, rfl, cell6⟩ := HR6'.out.2.2 (by omega)
          have e7 := cell7 k hkj
          have e6 := cell6 k hkj
          obtain ⟨z, hz⟩ : ∃ z, (wordsTo l ws j).getD k 0 = z := ⟨_, rfl⟩
          rw [hz] at e7 e6
          clear cell7 cell6
          go_wp2_with fail
          go_quiet (fail)
          go_wp2_with fail
          go_roundw
          case rel => exact ⟨k + 1, q + nq, by omega, by go_num, by simp⟩
          case measure => simp [intOf]; omega
        · go_wp2_with fail
          have hB3 : Below w.heap.size w (w2.drewN q) := below_drewN HB2.out q
          obtain ⟨w3, hw3⟩ : ∃ w3, w2.drewN q = w3 := ⟨_, rfl⟩
          have hsz : w2.heap.size = w3.heap.size := by rw [← hw3]; rfl
          rw [hw3] at hB3 ⊢
          rw [hsz]
          have HB3 := Lib.hid hB3
          clear hB3 hw3
          have hB4 : Below w.heap.size w (w3.alloc (.cells #[.int .u8 255] 5)) := HB3.out.alloc HB3.out.size _
          have hB5 : Below w.heap.size w ((w3.alloc (.cells #[.int .u8 255] 5)).alloc (.cells #[.int .i64 3] 3)) := hB4.alloc hB4.size _
          have hD : ReadsInt ((w3.alloc (.cells #[.int .u8 255] 5)).alloc (.cells #[.int .i64 3] 3)) .u8 (some ⟨w3.heap.size, 0, none⟩) 1 [255] := (one_reads w3 5 .u8 255).below ((Below.refl _ _).alloc (Nat.le_refl _) _)
          have hW : ReadsInt ((w3.alloc (.cells #[.int .u8 255] 5)).alloc (.cells #[.int .i64 3] 3)) .i64 (some ⟨w3.heap.size + 1, 0, none⟩) 1 (([3] : List Nat).map (fun x : Nat => (x : Int))) := by
            have h := one_reads (w3.alloc (.cells #[.int .u8 255] 5)) 3 .i64 3
            rw [show (w3.alloc (.cells #[.int .u8 255] 5)).heap.size = w3.heap.size + 1 from by simp] at h
            exact h
          refine (words_any _ 1 1 [255] _ 1 1 [3] _ ea eb hD (Nat.le_refl _) (by decide) (by simp) hW (by simp) (by decide) (HG.out.touch (U := []) (Touch.of_below hB5) (by simp))
            (fun k hk => HSF.out k (Nat.le_trans hB5.size hk))).mono ?_
          rintro e w4 ⟨j1, v1, code1, rfl, hj1, hs1, hcode1, hO1, hB6⟩
          obtain ⟨rfl, rfl⟩ : j1 = 1 ∧ code1 = 0 := by
            rcases hcode1 with ⟨h1, h2⟩ | ⟨h1, h2, _⟩
            · exact ⟨h1, h2⟩
            · obtain rfl : j1 = 0 := by simp at h1; exact h1
              simp [sumTo] at h2
          have e7 : wordsTo [255] [3] 1 = [7] := by decide
          rw [e7] at hO1
          obtain ⟨A8, c8, rfl, hR8⟩ := own_reads hO1
          have hB7 := below_then hB5 hB5.size hB6
          have HB7 := Lib.hid hB7
          have HR8 := Lib.hid hR8
          clear hO1 hB4 hB5 hB6 hB7 hD hW hj1 hs1 hcode1 hR8
          go_wp2_with fail
          refine (wordsIs_seven A8 c8 w4 HR8.out).mono ?_
          rintro e w5 ⟨rfl, rfl⟩
          go_wp2_with fail
          go_ret
          exact ⟨rfl, HB7.out⟩

theorem byte_wf {l : List Int} (h : ∀ x ∈ l, (Lit.int .u8 x).wf = true) : ∀ x ∈ l, 0 ≤ x ∧ x ≤ 255 := fun x hx => by
  have h0 := h x hx
  have h1 : IntKind.u8.min = 0 := rfl
  have h2 : IntKind.u8.max = 255 := rfl
  simp only [Lit.wf, Bool.and_eq_true, decide_eq_true_eq] at h0
  exact ⟨by omega, by omega⟩
theorem topWords (w : World) (A : Option Addr) (c : Nat) (l : List Int) (B : Option Addr) (d : Nat) (us : List Int)
    (hl : ReadsInt w .u8 A l.length l) (hc : l.length ≤ c) (hm : l.length * 1 ≤ 140737488351232) (hb : ∀ x ∈ l, (Lit.int .u8 x).wf = true)
    (hu : ReadsInt w .u8 B us.length us) (hcu : us.length ≤ d) (hmu : us.length * 1 ≤ 140737488351232) (hbu : ∀ x ∈ us, (Lit.int .u8 x).wf = true)
    (ea eb : Addr) (hG : Glob w ea eb) (hsafe : ∀ k, w.heap.size ≤ k → Safe k) :
    Calls Tryd.prog 3 #[.slice A l.length c, .slice B us.length d] w fun e w' => e = .returned (.bool true) ∧ Below w.heap.size w w' :=
  lawWords A l.length c l B us.length d us w ea eb hl hc (by omega) (byte_wf hb) hu (byte_wf hbu) (by omega) hG hsafe
end Go.Proofs.YtfpeoadgbidahaaDoor.Walk
