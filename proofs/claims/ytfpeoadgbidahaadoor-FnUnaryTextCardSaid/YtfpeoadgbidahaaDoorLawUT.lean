/- The walk of the law on the text of unary numbers. -/
import Derived.Test.YtfpeoadgbidahaaDoorBwP
import Derived.Test.YtfpeoadgbidahaaDoorLawUnary
import Derived.Lib.Bytes
import Derived.Outline
namespace Go.Proofs.YtfpeoadgbidahaaDoor.Walk
set_option linter.unusedVariables false
set_option linter.unusedSimpArgs false
open Go Go.RowKit Go.Proofs.YtfpeoadgbidahaaDoorW.PrintWords Go.Proofs.YtfpeoadgbidahaaDoor.Num

/-- Rows of two types lie in two blocks. -/
theorem own_apart {w : World} {b1 b2 s1 s2 n1 n2 : Nat} {e1 e2 : TypeId} {v1 v2 : Value} {x1 x2 : List Value} (h1 : w.ownsRow b1 e1 s1 v1 n1 x1) (h2 : w.ownsRow b2 e2 s2 v2 n2 x2) (hne : e1 ≠ e2) :
    ∀ k, v1.ownBlock = some k → k ∉ v2.ownBlock.toList := by
  intro k hk hm
  have hk2 : v2.ownBlock = some k := by
    rcases h : v2.ownBlock with _ | q
    · rw [h] at hm; simp at hm
    · rw [h] at hm; simp at hm; rw [hm]
  rcases h1.2 with ⟨rfl, _⟩ | ⟨g, cap, cur, rfl, _, hh, _⟩
  · simp [Value.ownBlock] at hk
  · rcases h2.2 with ⟨rfl, _⟩ | ⟨g', cap', cur', rfl, _, hh', _⟩
    · simp [Value.ownBlock] at hk2
    · have e1' : g = k := by simpa [Value.ownBlock] using hk
      have e2' : g' = k := by simpa [Value.ownBlock] using hk2
      subst e1'; subst e2'
      rw [hh] at hh'; injection hh' with hh'; injection hh' with _ h3 _; exact hne h3
theorem casts_len (us : List Nat) (j : Nat) (h : us.length = j) : natsTo us j = us.map fun x : Nat => (x : Int) := by
  unfold natsTo; rw [← h, List.take_length]
theorem utEnd : (uw [0] 1).flush.out = [128] := by decide
theorem utStr : strOfNums [128] = { data := #[128] } := by decide

set_option maxHeartbeats 4000000 in
set_option maxRecDepth 100000 in
theorem lawUT (A : Option Addr) (m c : Nat) (l : List Int) (w : World)
    (hl : ReadsInt w .u8 A m l) (hc : m ≤ c) (hm : m ≤ 140737488351232) (hbytes : ∀ x ∈ l, 0 ≤ x ∧ x ≤ 255) :
    Calls Tryd.prog 7 #[.slice A m c] w fun e w' => e = .returned (.bool true) ∧ Below w.heap.size w w' := by
  have HL := Lib.hid hl
  have HB := Lib.hid hbytes
  clear hl hbytes
  by_cases h1 : 2147483647 < m
  · go_enter Tryd.func7, Tryd.ntmps7
    go_wp2_with fail
    go_ret
    exact ⟨rfl, Below.refl _ _⟩
  by_cases h2 : 100 < m
  · go_enter Tryd.func7, Tryd.ntmps7
    go_wp2_with fail
    go_ret
    exact ⟨rfl, Below.refl _ _⟩
  obtain ⟨us, husd⟩ : ∃ us, l.map (fun x => x.toNat) = us := ⟨_, rfl⟩
  have hul : us.length = m := by rw [← husd, List.length_map]; exact HL.out.1
  have husj : ∀ j, j < m → l.getD j 0 = (us.getD j 0 : Int) ∧ us.getD j 0 ≤ 255 := fun j hj => by
    have hj' : j < l.length := by rw [HL.out.1]; exact hj
    have := HB.out _ (List.getElem_mem hj')
    rw [← husd, List.getD_eq_getElem?_getD, List.getD_eq_getElem?_getD, List.getElem?_map, List.getElem?_eq_getElem hj']
    simp only [Option.getD_some, Option.map_some]
    omega
  have HUL := Lib.hid hul
  have HUS := Lib.hid husj
  have hends : ∀ j, j ≤ m → ends us j ≤ 256 * j := fun j => by
    induction j with
    | zero => intro _; simp [ends, sumTo]
    | succ j ih => intro hj; have := ends_succ us j (by omega); have := (husj j (by omega)).2; have := ih (by omega); unfold ends at *; omega
  have HEN := Lib.hid hends
  clear husd hul husj hends
  go_enter Tryd.func7, Tryd.ntmps7
  go_wp2_with fail
  go_loopw [3, 4, 5, 22] (fun v av lv i wr => ∃ (j : Nat) (bs : List Int), j ≤ m ∧ i = .int .i64 j ∧ av = .int .i64 (ends us j) ∧ bs.length = (ends us j + 7) / 8 ∧ Text us j bs ∧
    wr.ownsRow w.heap.size 5 1 v bs.length (nums .u8 bs) ∧ wr.ownsRow w.heap.size 25 1 lv j (nums .u64 (natsTo us j)) ∧ Below w.heap.size w wr) (fun _ _ _ i _ => m - (intOf i).toNat)
  case atStart =>
    refine ⟨0, [], by omega, rfl, rfl, by simp [ends, sumTo], text_nil us, ?_, ?_, ?_⟩
    · exact own_touch (World.ownsRow_lit (base := w.heap.size) w #[] 0 (Nat.le_refl _) (by unfold maxLen; omega) (by simp)) (U := []) (Touch.of_below (below_alloc (Below.refl _ _) _)) (by simp)
    · have h := World.ownsRow_lit (base := w.heap.size) (e := 25) (size := 1) (w.alloc (.cells #[] 5)) #[] 0 (by simp) (by unfold maxLen; omega) (by simp)
      rw [World.size_alloc] at h; exact h
    · exact ((Below.refl _ _).alloc (Nat.le_refl _) _).alloc (by simp) _
  case round =>
    obtain ⟨j, bs, hj, rfl, rfl, hbl, htx, hown, hlown, hbe⟩ := hrel
    have HLO := Lib.hid hlown
    have HBL := Lib.hid hbl
    have HTX := Lib.hid htx
    have HO := Lib.hid hown
    have HBE := Lib.hid hbe
    clear hbl htx hown hlown hbe
    by_cases hlt : j < m
    · obtain ⟨ad, rfl, hcell⟩ := (HL.out.below HBE.out).2.2 (by omega)
      obtain ⟨u, hu⟩ : ∃ u, us.getD j 0 = u := ⟨_, rfl⟩
      have hu2 := HUS.out j hlt
      rw [hu] at hu2
      have c1' : wr.cell? (ad.add j) = some (.int .u8 u) := by rw [hcell j hlt, hu2.1]
      have hu255 := hu2.2
      obtain ⟨a0, ha0⟩ : ∃ a0, ends us j = a0 := ⟨_, rfl⟩
      have ha0b : a0 ≤ 256 * j := by rw [← ha0]; exact HEN.out j hj
      obtain ⟨p, hp⟩ : ∃ p, a0 + u = p := ⟨_, rfl⟩
      have hnext : ends us (j + 1) = p + 1 := by have := ends_succ us j (by rw [HUL.out]; exact hlt); unfold ends at *; omega
      have HN := Lib.hid hnext
      have HA0 := Lib.hid ha0
      rw [ha0]
      have HU := Lib.hid hu
      have hadd : (a0 : Int) + ((u : Int) + 1) = (p : Int) + 1 := by omega
      clear hcell hu2 hu hnext ha0
      go_wp2_with fail
      go_loopw [3] (fun v wx => ∃ cs : List Int, cs.length ≤ (p + 1 + 7) / 8 ∧ Text us j cs ∧ wx.ownsRow w.heap.size 5 1 v cs.length (nums .u8 cs) ∧ wx.ownsRow w.heap.size 25 1 u5 j (nums .u64 (natsTo us j)) ∧ Below w.heap.size w wx) (fun v _ => (p + 1 + 7) / 8 - sliceLen v)
      case atStart => exact ⟨bs, by rw [HBL.out, HA0.out]; omega, HTX.out, HO.out, HLO.out, HBE.out⟩
      case round =>
        obtain ⟨cs, hcl, htx, hown, hlown, hbe2⟩ := hrel
        have HLO3 := Lib.hid hlown
        obtain ⟨A3, c3, rfl, hr3⟩ := own_reads hown
        obtain ⟨nd, hnd⟩ : ∃ nd, (p + 1 + 7) / 8 = nd := ⟨_, rfl⟩
        have hq : ((p : Int) + 1 + 7) / 8 = (nd : Int) := by omega
        rw [hnd] at hcl ⊢
        have HR3 := Lib.hid hr3
        have HO3 := Lib.hid hown
        have HTX3 := Lib.hid htx
        have HBE3 := Lib.hid hbe2
        have HND := Lib.hid hnd
        obtain ⟨L, hL⟩ : ∃ L, cs.length = L := ⟨_, rfl⟩
        have HLL := Lib.hid hL
        rw [hL] at hcl ⊢
        clear hr3 hown hlown htx hbe2 hL hnd
        by_cases hlen : L < nd
        · go_wp2_with (with_reducible refine stop_dst (N := 39) rfl ?_)
          refine unstop ?_
          refine print_append_num (w0 := w) w.heap.size rfl (.tmp 37) (.tmp 38) 22 5 .u8 1 rfl Tryd.underlying22 infoU8 (by decide) (.slice A3 L c3) cs 0 rfl rfl ?aO HBE3.out HBE3.out.size ?aL ?_
          case aO => have := HO3.out; rw [HLL.out] at this ⊢; exact this
          case aL => rw [HLL.out]; omega
          intro v1 wy hO1 hB1 hgr hat
          obtain ⟨A4, c4, rfl, hr4⟩ := own_reads hO1
          have ho3 := HO3.out
          rw [HLL.out] at ho3
          have hlo := own_touch HLO3.out (touch_grown hgr) (own_apart HLO3.out ho3 (by decide))
          clear ho3
          have X := Lib.hid (And.intro hO1 (And.intro hlo hB1))
          clear hO1 hB1 hgr hat hr4 hlo
          go_wp2_with fail
          go_roundw
          case rel =>
            refine ⟨cs ++ [0], ?_, HTX3.out.push, ?_, X.out.2.1, X.out.2.2⟩
            · have := HLL.out; have := HND.out; simp; omega
            · have e : (cs ++ [(0 : Int)]).length = cs.length + 1 := by simp
              have h := X.out.1
              rw [e] at h ⊢; exact h
          case measure => simp [sliceLen]; rw [HLL.out]; omega
        · obtain rfl : nd = L := by omega
          obtain ⟨q, hq0⟩ : ∃ q, p / 8 = q := ⟨_, rfl⟩
          obtain ⟨i, hi0⟩ : ∃ i, 7 - p % 8 = i := ⟨_, rfl⟩
          have hq1 : (p : Int) / 8 = (q : Int) := by omega
          have hi1 : (7 : Int) - (p : Int) % 8 = (i : Int) := by omega
          have hi7 : i ≤ 7 := by omega
          obtain ⟨r, hr0⟩ : ∃ r, p % 8 = r := ⟨_, rfl⟩
          have hpB : p ≤ 26000 := by omega
          have hwp : IntKind.i64.wrap (p : Int) = (p : Int) := by rw [IntKind.wrap_i64]; omega
          have hwq : IntKind.i64.wrap (q : Int) = (q : Int) := by rw [IntKind.wrap_i64]; omega
          have hwr : IntKind.i64.wrap (r : Int) = (r : Int) := by rw [IntKind.wrap_i64]; omega
          have hwi : IntKind.i64.wrap (i : Int) = (i : Int) := by rw [IntKind.wrap_i64]; omega
          have htd : (p : Int).tdiv 8 = (q : Int) := by rw [Int.tdiv_eq_ediv_of_nonneg (by omega)]; exact hq1
          have htm : (p : Int).tmod 8 = (r : Int) := by rw [Int.tmod_eq_emod_of_nonneg (by omega)]; omega
          have hri : (7 : Int) - (r : Int) = (i : Int) := by omega
          have hqL : q < nd := by have := HND.out; omega
          have hown := HO3.out
          rw [HLL.out] at hown
          obtain ⟨g, c4, hA, hgb, hgc⟩ := own_block hown (by omega)
          injection hA with hA1 _ hA3
          subst hA1
          subst hA3
          obtain ⟨x, hx⟩ : ∃ x : Nat, cs.getD q 0 = (x : Int) := by
            have hql : q < cs.length := by rw [HLL.out]; exact hqL
            have := (HTX3.out.bytes _ (List.getElem_mem hql)).1
            rw [List.getD_eq_getElem?_getD, List.getElem?_eq_getElem hql]
            exact ⟨(cs[q]).toNat, by simp; omega⟩
          have hx255 : x < 256 := by
            have hql : q < cs.length := by rw [HLL.out]; exact hqL
            have := (HTX3.out.bytes _ (List.getElem_mem hql)).2
            rw [List.getD_eq_getElem?_getD, List.getElem?_eq_getElem hql] at hx
            simp at hx; omega
          have c2' : wr.cell? ⟨g, q, none⟩ = some (.int .u8 x) := by
            have hql : q < cs.length := by rw [HLL.out]; exact hqL
            rw [hown.cellAt q (by omega)]
            rw [List.getD_eq_getElem?_getD, List.getElem?_eq_getElem hql] at hx
            simp [nums, hql] at hx ⊢; exact hx
          have f2' : wr.frozen? ⟨g, q, none⟩ = false := hown.frozenAt q
          obtain ⟨y, hyd⟩ : ∃ y : Nat, y = x ||| 2 ^ i := ⟨_, rfl⟩
          obtain ⟨z, hz⟩ : ∃ z : Nat, 2 ^ i = z := ⟨_, rfl⟩
          have hzw : IntKind.u8.wrap ((2 : Int) ^ i) = (z : Int) := by
            have h8 : 2 ^ i < 2 ^ 8 := Nat.pow_lt_pow_right (by decide) (by omega)
            have e : ((2 : Int) ^ i) = ((2 ^ i : Nat) : Int) := by simp
            rw [e, hz, IntKind.wrap_u8]; omega
          have hy : bits .or .u8 (x : Int) (z : Int) = (y : Int) := by rw [hyd, ← hz]; exact or_one_byte x i hx255 hi7
          clear hz
          have HX := Lib.hid hx
          have HYD := Lib.hid hyd
          have HOW := Lib.hid hown
          have HQ0 := Lib.hid hq0
          have HI0 := Lib.hid hi0
          clear hx hyd hown hq0 hi0
          go_wp2_with fail
          go_still_tail 13, (by kernel_rfl)
          go_wp2_with (with_reducible refine stop_dst (N := 57) rfl ?_)
          refine unstop ?_
          have hst := (World.ownsRow.stored (w := wr.drew) HOW.out q (.int .u8 y)).1
          have hlo := own_touch HLO3.out (U := [g]) (((Touch.refl [g] wr).drew).setCell (p := ⟨g, q, none⟩) (.inl (by simp)) (.int .u8 y)) (by
            have h := own_apart HLO3.out HOW.out (by decide)
            intro k hk; have := h k hk; simpa [Value.ownBlock] using this)
          have hbe4 := HBE3.out.drew.setCell (p := ⟨g, q, none⟩) hgb (.int .u8 y)
          obtain ⟨wz, hwz⟩ : ∃ wz, wr.drew.setCell ⟨g, q, none⟩ (.int .u8 y) = wz := ⟨_, rfl⟩
          change wpList _ _ _ _ _ ((wr.drew.setCell ⟨g, q, none⟩ (.int .u8 y)).alloc (.cells #[.int .u64 u] 25))
          have hsz : wr.heap.size = wz.heap.size := by rw [← hwz]; simp [World.setCell]
          rw [hwz] at hst hlo hbe4 ⊢
          rw [hsz]
          have HST := Lib.hid hst
          have HLO4 := Lib.hid hlo
          have HBE4 := Lib.hid hbe4
          clear hst hlo hbe4 hwz hsz c2' f2'
          refine print_append_num (w0 := w) w.heap.size rfl (.tmp 53) (.tmp 56) 24 25 .u64 8 rfl Tryd.underlying24 infoU64 (by decide) u5 (natsTo us j) (u : Int) rfl rfl ?bO HBE4.out HBE4.out.size ?bL ?_
          case bO => rw [natsTo_len us j (by rw [HUL.out]; exact hj)]; exact HLO4.out
          case bL => rw [natsTo_len us j (by rw [HUL.out]; exact hj)]; omega
          intro v1 wy hO1 hB1 hgr hat
          have hwo := own_touch HST.out (touch_grown hgr) (own_apart HST.out HLO4.out (by decide))
          have hO1' : wy.ownsRow w.heap.size 25 1 v1 (j + 1) (nums .u64 (natsTo us (j + 1))) := by
            rw [natsTo_succ us j (by rw [HUL.out]; exact hlt), HU.out]
            have e : (natsTo us j ++ [(u : Int)]).length = j + 1 := by rw [List.length_append, natsTo_len us j (by rw [HUL.out]; exact hj)]; rfl
            rw [e] at hO1; exact hO1
          have X := Lib.hid (And.intro hwo (And.intro hO1' hB1))
          clear hO1 hB1 hgr hat hwo hO1'
          go_wp2_with fail
          go_roundw
          case rel =>
            have e : (nums .u8 cs).set q (.int .u8 y) = nums .u8 (cs.set q (y : Int)) := by simp [nums, List.map_set]
            have hln : cs.length = nd := HLL.out
            have hql : q < cs.length := by rw [hln]; exact hqL
            have htx := HTX3.out.put (us := us) (j := j) p x (by rw [HQ0.out]; exact hql) (by rw [HQ0.out]; exact HX.out) HN.out
            rw [HQ0.out, HI0.out, ← HYD.out] at htx
            refine ⟨j + 1, cs.set q (y : Int), by omega, by go_num, by rw [HN.out]; go_num, ?_, htx, ?_, X.out.2.1, X.out.2.2⟩
            · rw [List.length_set, hln, HN.out, ← HND.out]
            · rw [List.length_set, hln, ← e]; exact X.out.1
          case measure => simp [intOf]; omega
    · obtain rfl : j = m := by omega
      have hwl := HUL.out
      have htd := HTX.out
      rw [← hwl] at htd
      have hbl := HBL.out
      rw [← hwl] at hbl
      have hun := htd.done hbl
      have hut := uw_text htd hbl
      rw [hwl] at hut
      have hus255 : ∀ k, us.getD k 0 ≤ 255 := fun k => by
        rcases Nat.lt_or_ge k j with hk | hk
        · exact (HUS.out k hk).2
        · rw [List.getD_eq_getElem?_getD, List.getElem?_eq_none (by omega)]; simp
      obtain ⟨Ab, cb, rfl, hrb⟩ := own_reads HO.out
      obtain ⟨Al, cl, rfl, hrl⟩ := own_reads HLO.out
      have hbb : bs.length ≤ 140737488351232 := by have := HBL.out; have := HEN.out j hj; omega
      have hcall0 := unaryText Al j cl us wr (by rw [← casts_len us j hwl]; exact hrl) hwl (by omega) hus255
      rw [hut] at hcall0
      have hlen : us.length = j := hwl
      obtain ⟨L, hL⟩ : ∃ L, bs.length = L := ⟨_, rfl⟩
      rw [hL] at hbb hcall0 hrb ⊢
      have HLL := Lib.hid hL
      have HUN := Lib.hid hun
      have HRB := Lib.hid hrb
      have HRL := Lib.hid hrl
      have HCALL0 := Lib.hid hcall0
      have H255 := Lib.hid hus255
      have HLEN := Lib.hid hlen
      clear hun hrb hrl htd hbl hL hwl hut hus255 hcall0 hlen
      go_wp2_with fail
      refine HCALL0.out.mono ?_
      rintro e w2 ⟨v, rfl, hO, hB⟩
      obtain ⟨A7, c7, rfl, hR7⟩ := own_reads hO
      have hc7 := own_cap hO
      have hB2 := below_then HBE.out HBE.out.size hB
      have hcall := unary_any A7 L c7 bs us w2 hR7 hc7 hbb HTX.out.bytes HUN.out (by rw [HLEN.out]; omega) (fun k => by have := H255.out k; omega)
      rw [HLEN.out] at hcall
      have HCALL := Lib.hid hcall
      have HRB2 := Lib.hid (HRB.out.below hB)
      have HRL2 := Lib.hid (HRL.out.below hB)
      have HB2 := Lib.hid hB2
      have HR7 := Lib.hid hR7
      clear hO hB hB2 hR7 hcall
      go_wp2_with fail
      refine HCALL.out.mono ?_
      rintro e w3 ⟨v, rfl, hO, hB⟩
      obtain ⟨A9, c9, rfl, hR9⟩ := own_reads hO
      have hB3 := below_then HB2.out HB2.out.size hB
      have HR9 := Lib.hid hR9
      have HB3 := Lib.hid hB3
      obtain ⟨s1, hs1⟩ : ∃ s, strOfNums bs = s := ⟨_, rfl⟩
      have hbeq : (s1.toList == s1.toList) = true := beq_iff_eq.mpr rfl
      have hk1 := string_of_reads (P := Tryd.prog) (src := 22) (dst := 9) (e := 5) (c := c7) Tryd.underlying22 Tryd.underlying5 Tryd.underlying9 (HR7.out.below hB)
      have hk2 := string_of_reads (P := Tryd.prog) (src := 22) (dst := 9) (e := 5) (c := cb) Tryd.underlying22 Tryd.underlying5 Tryd.underlying9 (HRB2.out.below hB)
      rw [hs1] at hk1 hk2
      have HRL3 := Lib.hid (HRL2.out.below hB)
      clear hO hB hB3 hR9 hs1
      go_wp2_with fail
      go_loopw [86] (fun i wx => ∃ k q : Nat, k ≤ j ∧ i = .int .i64 k ∧ wx = w3.drewN q) (fun i _ => j - (intOf i).toNat)
      case atStart => exact ⟨0, 0, by omega, rfl, rfl⟩
      case round =>
        obtain ⟨k, q, hk, rfl, rfl⟩ := hrel
        by_cases hkj : k < j
        · obtain ⟨ad9, rfl, cell9⟩ := HR9.out.2.2 (by omega)
          obtain ⟨ad5, rfl, cell5⟩ := HRL3.out.2.2 (by omega)
          obtain ⟨z, hz⟩ : ∃ z : Nat, (natsTo us j).getD k 0 = (z : Int) := by
            refine ⟨us.getD k 0, ?_⟩
            have hk' : k < us.length := by rw [HLEN.out]; exact hkj
            rw [natsTo, List.getD_eq_getElem?_getD, List.getD_eq_getElem?_getD, List.getElem?_map, List.getElem?_take, if_pos hkj, List.getElem?_eq_getElem hk']; rfl
          have e9 : w3.cell? (ad9.add k) = some (.int .u64 z) := by rw [cell9 k hkj, hz]
          have e5 : w3.cell? (ad5.add k) = some (.int .u64 z) := by rw [cell5 k hkj, hz]
          clear cell9 cell5 hz
          go_wp2_with fail
          go_quiet (fail)
          go_wp2_with fail
          go_roundw
          case rel => exact ⟨k + 1, q + nq, by omega, by go_num, by simp⟩
          case measure => simp [intOf]; omega
        · have hbq : Below w.heap.size w (w3.drewN q) := below_drewN HB3.out q
          obtain ⟨w4, hw4⟩ : ∃ w4, w3.drewN q = w4 := ⟨_, rfl⟩
          rw [hw4] at hbq ⊢
          have HB4 := Lib.hid hbq
          clear hbq hw4
          have hrd : ReadsInt (w4.alloc (.cells #[.int .u64 0] 25)) .u64 (some ⟨w4.heap.size, 0, none⟩) 1 ([0].map fun x : Nat => (x : Int)) := by
            refine ⟨rfl, by decide, fun _ => ⟨_, rfl, fun i hi => ?_⟩⟩
            obtain rfl : i = 0 := by omega
            exact World.cell?_alloc_at _ _ _ _ rfl
          have hcl := unaryText (some ⟨w4.heap.size, 0, none⟩) 1 1 [0] (w4.alloc (.cells #[.int .u64 0] 25)) hrd rfl (by decide) (fun k => by rcases k with _ | k <;> simp)
          rw [utEnd] at hcl
          have HCL := Lib.hid hcl
          have HB5 := Lib.hid (HB4.out.alloc HB4.out.size (.cells #[.int .u64 0] 25))
          clear hrd hcl
          go_wp2_with fail
          refine HCL.out.mono ?_
          rintro e w5 ⟨v, rfl, hO, hB⟩
          have hk3 := own_string (P := Tryd.prog) (src := 22) (dst := 9) (e := 5) Tryd.underlying22 Tryd.underlying5 Tryd.underlying9 hO
          rw [utStr] at hk3
          have HB6 := Lib.hid (below_then HB5.out HB5.out.size hB)
          clear hO hB
          go_wp2_with fail
          go_ret
          exact ⟨rfl, HB6.out⟩

theorem topUT (w : World) (A : Option Addr) (c : Nat) (l : List Int)
    (hl : ReadsInt w .u8 A l.length l) (hc : l.length ≤ c) (hm : l.length * 1 ≤ 140737488351232) (hb : ∀ x ∈ l, (Lit.int .u8 x).wf = true)
    (ea eb : Addr) (hG : Glob w ea eb) (hsafe : ∀ k, w.heap.size ≤ k → Safe k) :
    Calls Tryd.prog 7 #[.slice A l.length c] w fun e w' => e = .returned (.bool true) ∧ Below w.heap.size w w' :=
  lawUT A l.length c l w hl hc (by omega) (fun x hx => by
    have h0 := hb x hx
    have h1 : IntKind.u8.min = 0 := rfl
    have h2 : IntKind.u8.max = 255 := rfl
    simp only [Lit.wf, Bool.and_eq_true, decide_eq_true_eq] at h0
    exact ⟨by omega, by omega⟩)
end Go.Proofs.YtfpeoadgbidahaaDoor.Walk
