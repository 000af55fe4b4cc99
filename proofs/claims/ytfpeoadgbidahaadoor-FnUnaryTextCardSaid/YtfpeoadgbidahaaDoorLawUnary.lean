/- The walk of the law on unary numbers. -/
import Derived.Test.YtfpeoadgbidahaaDoorLawUnaryP
import Derived.Deep.DeepCutAuto
import Derived.Deep.CutBlock
import Derived.Outline
namespace Go.Proofs.YtfpeoadgbidahaaDoor.Walk
set_option linter.unusedVariables false
set_option linter.unusedSimpArgs false
open Go Go.RowKit Go.Proofs.YtfpeoadgbidahaaDoorW.PrintWords Go.Proofs.YtfpeoadgbidahaaDoor.Num

def sliceLen : Value → Nat
  | .slice _ n _ => n
  | _ => 0

theorem own_block {w : World} {base size n : Nat} {e : TypeId} {v : Value} {xs : List Value} (h : w.ownsRow base e size v n xs) (hn : 0 < n) : ∃ g cap, v = .slice (some ⟨g, 0, none⟩) n cap ∧ base ≤ g ∧ n ≤ cap := by
  rcases h.2 with ⟨_, h0⟩ | ⟨g, cap, cur, hv, hb, _, hc, _⟩
  · omega
  · exact ⟨g, cap, hv, hb, hc⟩

theorem own_cap {w : World} {base size n c : Nat} {e : TypeId} {A : Option Addr} {xs : List Value} (h : w.ownsRow base e size (.slice A n c) n xs) : n ≤ c := by
  rcases h.2 with ⟨h0, h1⟩ | ⟨g, cap, cur, hv, hb, _, hc, _⟩
  · omega
  · injection hv with _ _ h3; omega

set_option maxHeartbeats 4000000 in
set_option maxRecDepth 100000 in
theorem lawUnary (A : Option Addr) (m c : Nat) (l : List Int) (w : World)
    (hl : ReadsInt w .u8 A m l) (hc : m ≤ c) (hm : m ≤ 140737488351232) (hbytes : ∀ x ∈ l, 0 ≤ x ∧ x ≤ 255) :
    Calls Tryd.prog 4 #[.slice A m c] w fun e w' => e = .returned (.bool true) ∧ Below w.heap.size w w' := by
  have HL := Lib.hid hl
  have HB := Lib.hid hbytes
  clear hl hbytes
  by_cases h1 : 2147483647 < m
  · go_enter Tryd.func4, Tryd.ntmps4
    go_wp2_with fail
    go_ret
    exact ⟨rfl, Below.refl _ _⟩
  by_cases h2 : 100 < m
  · go_enter Tryd.func4, Tryd.ntmps4
    go_wp2_with fail
    go_ret
    exact ⟨rfl, Below.refl _ _⟩
  obtain ⟨us, husd⟩ : ∃ us, l.map (fun x => x.toNat) = us := ⟨_, rfl⟩
  have hul : us.length = m := by rw [← husd, List.length_map]; exact HL.out.1
  have husj : ∀ j, j < m → l.getD j 0 = (us.getD j 0 : Int) ∧ us.getD j 0 ≤ 255 := fun j hj => by
    have hj' : j < l.length := by rw [HL.out.1]; exact hj
    have := HB.out _ (List.getElem_mem hj')
    rw [← husd, List.getD_eq_getElem?_getD, List.getD_eq_getElem?_getD, List.getElem?_map, List.getElem?_eq_getElem hj']
    simp only [Option.getD_some, Option.map_some]
    omega
  have HUL := Lib.hid hul
  have HUS := Lib.hid husj
  have hends : ∀ j, j ≤ m → ends us j ≤ 256 * j := fun j => by
    induction j with
    | zero => intro _; simp [ends, sumTo]
    | succ j ih => intro hj; have := ends_succ us j (by omega); have := (husj j (by omega)).2; have := ih (by omega); unfold ends at *; omega
  have HEN := Lib.hid hends
  clear husd hul husj hends
  go_enter Tryd.func4, Tryd.ntmps4
  go_wp2_with fail
  go_loopw [3, 4, 19] (fun v av i wr => ∃ (j : Nat) (bs : List Int), j ≤ m ∧ i = .int .i64 j ∧ av = .int .i64 (ends us j) ∧ bs.length = (ends us j + 7) / 8 ∧ Text us j bs ∧
    wr.ownsRow w.heap.size 5 1 v bs.length (nums .u8 bs) ∧ Below w.heap.size w wr) (fun _ _ i _ => m - (intOf i).toNat)
  case atStart =>
    refine ⟨0, [], by omega, rfl, rfl, by simp [ends, sumTo], text_nil us, ?_, ?_⟩
    · exact World.ownsRow_lit (base := w.heap.size) w #[] 0 (Nat.le_refl _) (by unfold maxLen; omega) (by simp)
    · exact (Below.refl _ _).alloc (Nat.le_refl _) _
  case round =>
    obtain ⟨j, bs, hj, rfl, rfl, hbl, htx, hown, hbe⟩ := hrel
    have HBL := Lib.hid hbl
    have HTX := Lib.hid htx
    have HO := Lib.hid hown
    have HBE := Lib.hid hbe
    clear hbl htx hown hbe
    by_cases hlt : j < m
    · obtain ⟨ad, rfl, hcell⟩ := (HL.out.below HBE.out).2.2 (by omega)
      obtain ⟨u, hu⟩ : ∃ u, us.getD j 0 = u := ⟨_, rfl⟩
      have hu2 := HUS.out j hlt
      rw [hu] at hu2
      have c1' : wr.cell? (ad.add j) = some (.int .u8 u) := by rw [hcell j hlt, hu2.1]
      have hu255 := hu2.2
      obtain ⟨a0, ha0⟩ : ∃ a0, ends us j = a0 := ⟨_, rfl⟩
      have ha0b : a0 ≤ 256 * j := by rw [← ha0]; exact HEN.out j hj
      obtain ⟨p, hp⟩ : ∃ p, a0 + u = p := ⟨_, rfl⟩
      have hnext : ends us (j + 1) = p + 1 := by have := ends_succ us j (by rw [HUL.out]; exact hlt); unfold ends at *; omega
      have HN := Lib.hid hnext
      have HA0 := Lib.hid ha0
      rw [ha0]
      have hadd : (a0 : Int) + ((u : Int) + 1) = (p : Int) + 1 := by omega
      clear hcell hu2 hu hnext ha0
      go_wp2_with fail
      go_loopw [3] (fun v wx => ∃ cs : List Int, cs.length ≤ (p + 1 + 7) / 8 ∧ Text us j cs ∧ wx.ownsRow w.heap.size 5 1 v cs.length (nums .u8 cs) ∧ Below w.heap.size w wx) (fun v _ => (p + 1 + 7) / 8 - sliceLen v)
      case atStart => exact ⟨bs, by rw [HBL.out, HA0.out]; omega, HTX.out, HO.out, HBE.out⟩
      case round =>
        obtain ⟨cs, hcl, htx, hown, hbe2⟩ := hrel
        obtain ⟨A3, c3, rfl, hr3⟩ := own_reads hown
        obtain ⟨nd, hnd⟩ : ∃ nd, (p + 1 + 7) / 8 = nd := ⟨_, rfl⟩
        have hq : ((p : Int) + 1 + 7) / 8 = (nd : Int) := by omega
        rw [hnd] at hcl ⊢
        have HR3 := Lib.hid hr3
        have HO3 := Lib.hid hown
        have HTX3 := Lib.hid htx
        have HBE3 := Lib.hid hbe2
        have HND := Lib.hid hnd
        obtain ⟨L, hL⟩ : ∃ L, cs.length = L := ⟨_, rfl⟩
        have HLL := Lib.hid hL
        rw [hL] at hcl ⊢
        clear hr3 hown htx hbe2 hL hnd
        by_cases hlen : L < nd
        · go_wp2_with (with_reducible refine stop_dst (N := 36) rfl ?_)
          refine unstop ?_
          refine print_append_num (w0 := w) w.heap.size rfl (.tmp 34) (.tmp 35) 22 5 .u8 1 rfl Tryd.underlying22 infoU8 (by decide) (.slice A3 L c3) cs 0 rfl rfl ?aO HBE3.out HBE3.out.size ?aL ?_
          case aO => have := HO3.out; rw [HLL.out] at this ⊢; exact this
          case aL => rw [HLL.out]; omega
          intro v1 wy hO1 hB1 hgr hat
          obtain ⟨A4, c4, rfl, hr4⟩ := own_reads hO1
          have X := Lib.hid (And.intro hO1 hB1)
          clear hO1 hB1 hgr hat hr4
          go_wp2_with fail
          go_roundw
          case rel =>
            refine ⟨cs ++ [0], ?_, HTX3.out.push, ?_, X.out.2⟩
            · have := HLL.out; have := HND.out; simp; omega
            · have e : (cs ++ [(0 : Int)]).length = cs.length + 1 := by simp
              have h := X.out.1
              rw [e] at h ⊢; exact h
          case measure => simp [sliceLen]; rw [HLL.out]; omega
        · obtain rfl : nd = L := by omega
          obtain ⟨q, hq0⟩ : ∃ q, p / 8 = q := ⟨_, rfl⟩
          obtain ⟨i, hi0⟩ : ∃ i, 7 - p % 8 = i := ⟨_, rfl⟩
          have hq1 : (p : Int) / 8 = (q : Int) := by omega
          have hi1 : (7 : Int) - (p : Int) % 8 = (i : Int) := by omega
          have hi7 : i ≤ 7 := by omega
          obtain ⟨r, hr0⟩ : ∃ r, p % 8 = r := ⟨_, rfl⟩
          have hpB : p ≤ 26000 := by omega
          have hwp : IntKind.i64.wrap (p : Int) = (p : Int) := by rw [IntKind.wrap_i64]; omega
          have hwq : IntKind.i64.wrap (q : Int) = (q : Int) := by rw [IntKind.wrap_i64]; omega
          have hwr : IntKind.i64.wrap (r : Int) = (r : Int) := by rw [IntKind.wrap_i64]; omega
          have hwi : IntKind.i64.wrap (i : Int) = (i : Int) := by rw [IntKind.wrap_i64]; omega
          have htd : (p : Int).tdiv 8 = (q : Int) := by rw [Int.tdiv_eq_ediv_of_nonneg (by omega)]; exact hq1
          have htm : (p : Int).tmod 8 = (r : Int) := by rw [Int.tmod_eq_emod_of_nonneg (by omega)]; omega
          have hri : (7 : Int) - (r : Int) = (i : Int) := by omega
          have hqL : q < nd := by have := HND.out; omega
          have hown := HO3.out
          rw [HLL.out] at hown
          obtain ⟨g, c4, hA, hgb, hgc⟩ := own_block hown (by omega)
          injection hA with hA1 _ hA3
          subst hA1
          subst hA3
          obtain ⟨x, hx⟩ : ∃ x : Nat, cs.getD q 0 = (x : Int) := by
            have hql : q < cs.length := by rw [HLL.out]; exact hqL
            have := (HTX3.out.bytes _ (List.getElem_mem hql)).1
            rw [List.getD_eq_getElem?_getD, List.getElem?_eq_getElem hql]
            exact ⟨(cs[q]).toNat, by simp; omega⟩
          have hx255 : x < 256 := by
            have hql : q < cs.length := by rw [HLL.out]; exact hqL
            have := (HTX3.out.bytes _ (List.getElem_mem hql)).2
            rw [List.getD_eq_getElem?_getD, List.getElem?_eq_getElem hql] at hx
            simp at hx; omega
          have c2' : wr.cell? ⟨g, q, none⟩ = some (.int .u8 x) := by
            have hql : q < cs.length := by rw [HLL.out]; exact hqL
            rw [hown.cellAt q (by omega)]
            rw [List.getD_eq_getElem?_getD, List.getElem?_eq_getElem hql] at hx
            simp [nums, hql] at hx ⊢; exact hx
          have f2' : wr.frozen? ⟨g, q, none⟩ = false := hown.frozenAt q
          obtain ⟨y, hyd⟩ : ∃ y : Nat, y = x ||| 2 ^ i := ⟨_, rfl⟩
          obtain ⟨z, hz⟩ : ∃ z : Nat, 2 ^ i = z := ⟨_, rfl⟩
          have hzw : IntKind.u8.wrap ((2 : Int) ^ i) = (z : Int) := by
            have h8 : 2 ^ i < 2 ^ 8 := Nat.pow_lt_pow_right (by decide) (by omega)
            have e : ((2 : Int) ^ i) = ((2 ^ i : Nat) : Int) := by simp
            rw [e, hz, IntKind.wrap_u8]; omega
          have hy : bits .or .u8 (x : Int) (z : Int) = (y : Int) := by rw [hyd, ← hz]; exact or_one_byte x i hx255 hi7
          clear hz
          have HX := Lib.hid hx
          have HYD := Lib.hid hyd
          have HOW := Lib.hid hown
          have HQ0 := Lib.hid hq0
          have HI0 := Lib.hid hi0
          clear hx hyd hown hq0 hi0
          go_wp2_with fail
          go_still_tail 13, (by kernel_rfl)
          go_wp2_with fail
          go_roundw
          case rel =>
            have hst := (World.ownsRow.stored (w := wr.drew) HOW.out q (.int .u8 y)).1
            have e : (nums .u8 cs).set q (.int .u8 y) = nums .u8 (cs.set q (y : Int)) := by simp [nums, List.map_set]
            have hln : cs.length = nd := HLL.out
            have hql : q < cs.length := by rw [hln]; exact hqL
            have htx := HTX3.out.put (us := us) (j := j) p x (by rw [HQ0.out]; exact hql) (by rw [HQ0.out]; exact HX.out) HN.out
            rw [HQ0.out, HI0.out, ← HYD.out] at htx
            refine ⟨j + 1, cs.set q (y : Int), by omega, by go_num, by rw [HN.out]; go_num, ?_, htx, ?_, ?_⟩
            · rw [List.length_set, hln, HN.out, ← HND.out]
            · rw [List.length_set, hln, ← e]; exact hst
            · exact HBE3.out.drew.setCell (p := ⟨g, q, none⟩) hgb _
          case measure => simp [intOf]; omega
    · obtain rfl : j = m := by omega
      have hwl := HUL.out
      have htd := HTX.out
      rw [← hwl] at htd
      have hun := htd.done (by rw [hwl]; exact HBL.out)
      obtain ⟨Ab, cb, rfl, hrb⟩ := own_reads HO.out
      have hcb := own_cap HO.out
      have HUN := Lib.hid hun
      have HRB := Lib.hid hrb
      have hbb : bs.length ≤ 140737488351232 := by have := HBL.out; have := HEN.out j hj; omega
      have hlen : us.length = j := hwl
      obtain ⟨L, hL⟩ : ∃ L, bs.length = L := ⟨_, rfl⟩
      rw [hL] at hbb hcb ⊢
      have HLL := Lib.hid hL
      clear hun hrb htd hL hwl
      have hcall := unary_any Ab L cb bs us wr (by have h := HRB.out; rw [HLL.out] at h; exact h) hcb hbb HTX.out.bytes HUN.out (by omega) (fun k => by
        rcases Nat.lt_or_ge k j with hk | hk
        · have := (HUS.out k hk).2; omega
        · rw [List.getD_eq_getElem?_getD, List.getElem?_eq_none (by omega)]; simp)
      rw [hlen] at hcall
      have HCALL := Lib.hid hcall
      clear hcall
      go_wp2_with fail
      refine HCALL.out.mono ?_
      rintro e w2 ⟨v, rfl, hO, hB⟩
      obtain ⟨A7, c7, rfl, hR7⟩ := own_reads hO
      have hB2 := below_then HBE.out HBE.out.size hB
      have HL2 := Lib.hid (HL.out.below hB2)
      have HB2 := Lib.hid hB2
      have HR7 := Lib.hid hR7
      have HLEN := Lib.hid hlen
      clear hO hB hR7 hB2 hlen
      go_wp2_with fail
      go_loopw [69] (fun i wx => ∃ k q : Nat, k ≤ j ∧ i = .int .i64 k ∧ wx = w2.drewN q) (fun i _ => j - (intOf i).toNat)
      case atStart => exact ⟨0, 0, by omega, rfl, rfl⟩
      case round =>
        obtain ⟨k, q, hk, rfl, rfl⟩ := hrel
        by_cases hkj : k < j
        · obtain ⟨ad7, rfl, cell7⟩ := HR7.out.2.2 (by omega)
          obtain ⟨ad6, rfl, cell6⟩ := HL2.out.2.2 (by omega)
          obtain ⟨z, hz⟩ : ∃ z, us.getD k 0 = z := ⟨_, rfl⟩
          have hz255 : z ≤ 255 := by rw [← hz]; exact (HUS.out k hkj).2
          have e7 : w2.cell? (ad7.add k) = some (.int .u64 z) := by
            rw [cell7 k hkj, natsTo, List.getD_eq_getElem?_getD, List.getElem?_map, List.getElem?_take, if_pos hkj]
            rw [List.getD_eq_getElem?_getD, List.getElem?_eq_getElem (by rw [HLEN.out]; exact hkj)] at hz
            rw [List.getElem?_eq_getElem (by rw [HLEN.out]; exact hkj)]
            simp at hz ⊢; omega
          have e6 : w2.cell? (ad6.add k) = some (.int .u8 z) := by rw [cell6 k hkj, (HUS.out k hkj).1, hz]
          clear cell7 cell6 hz
          go_wp2_with fail
          go_quiet (fail)
          go_wp2_with fail
          go_roundw
          case rel => exact ⟨k + 1, q + nq, by omega, by go_num, by simp⟩
          case measure => simp [intOf]; omega
        · go_wp2_with fail
          go_ret
          exact ⟨rfl, below_drewN HB2.out q⟩

theorem topUnary (w : World) (A : Option Addr) (c : Nat) (l : List Int)
    (hl : ReadsInt w .u8 A l.length l) (hc : l.length ≤ c) (hm : l.length * 1 ≤ 140737488351232) (hb : ∀ x ∈ l, (Lit.int .u8 x).wf = true)
    (ea eb : Addr) (hG : Glob w ea eb) (hsafe : ∀ k, w.heap.size ≤ k → Safe k) :
    Calls Tryd.prog 4 #[.slice A l.length c] w fun e w' => e = .returned (.bool true) ∧ Below w.heap.size w w' :=
  lawUnary A l.length c l w hl hc (by omega) (fun x hx => by
    have h0 := hb x hx
    have h1 : IntKind.u8.min = 0 := rfl
    have h2 : IntKind.u8.max = 255 := rfl
    simp only [Lit.wf, Bool.and_eq_true, decide_eq_true_eq] at h0
    exact ⟨by omega, by omega⟩)
end Go.Proofs.YtfpeoadgbidahaaDoor.Walk
