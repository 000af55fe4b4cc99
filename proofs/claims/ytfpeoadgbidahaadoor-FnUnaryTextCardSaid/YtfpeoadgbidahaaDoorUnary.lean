/- (*bits.Reader).ReadUnary and impl.Unary, where the bits are whole. -/
import Derived.Test.YtfpeoadgbidahaaDoorWords
import Derived.Outline
namespace Go.Proofs.YtfpeoadgbidahaaDoor.Walk
set_option linter.unusedVariables false
set_option linter.unusedSimpArgs false
open Go Go.RowKit Go.Proofs.YtfpeoadgbidahaaDoorW.PrintWords Go.Proofs.YtfpeoadgbidahaaDoor.Num

theorem num_one (l : List Int) (a : Nat) : num l a 1 = bitAt l a := by simp [num]

set_option maxHeartbeats 1000000 in
set_option maxRecDepth 100000 in
theorem br_unary {ty fn g : Nat} {S D : List Nat} {l : List Int} {St : World → Nat → Prop} (R : Src ty fn g S D l St) (hbytes : ∀ x ∈ l, 0 ≤ x ∧ x ≤ 255) (w : World) (gb at_ x : Nat)
    (h : Br ty g gb l St w at_) (hz : ∀ t, t < x → bitAt l (at_ + t) = 0) (ho : bitAt l (at_ + x) = 1) (hav : at_ + x + 1 ≤ 8 * l.length) (hgb : gb ∉ D) (hx : x < 18446744073709551616) :
    Calls Tryd.prog 19 #[.pointer (some ⟨gb, 0, none⟩)] w fun e w' =>
      e = .returned (.tuple #[.int .u64 x, .nilIface]) ∧ Touch (gb :: S) w w' ∧ Br ty g gb l St w' (at_ + x + 1) := by
  have HR := Lib.hid R
  have HB := Lib.hid hbytes
  have HZ := Lib.hid hz
  have HO := Lib.hid ho
  have HBR := Lib.hid h
  clear R hbytes hz ho h
  go_enter Tryd.func19, Tryd.ntmps19
  go_wp2_with fail
  go_loopw [2] (fun v wr => ∃ k : Nat, k ≤ x ∧ v = .int .u64 k ∧ Touch (gb :: S) w wr ∧ Br ty g gb l St wr (at_ + k)) (fun v _ => x - (intOf v).toNat)
  case atStart => exact ⟨0, by omega, rfl, Touch.refl _ _, HBR.out⟩
  case round =>
    obtain ⟨k, hk, rfl, ht, hbr⟩ := hrel
    have HT := Lib.hid ht
    have HBR2 := Lib.hid hbr
    clear ht hbr
    by_cases hkx : k < x
    · have hb0 := HZ.out k hkx
      have hn := num_one l (at_ + k)
      rw [hb0] at hn
      have HN := Lib.hid hn
      clear hn hb0
      go_wp2_with fail
      refine (br_read HR.out HB.out wr gb 1 (at_ + k) HBR2.out (by decide) (by omega) hgb).mono ?_
      rw [HN.out]
      rintro e w2 ⟨rfl, ht, hbr⟩
      have X := Lib.hid (And.intro (HT.out.trans ht) hbr)
      clear ht hbr
      go_wp2_with fail
      go_roundw
      case rel => exact ⟨k + 1, by omega, by go_num, X.out.1, X.out.2⟩
      case measure => simp [intOf]; omega
    · obtain rfl : k = x := by omega
      have hn := num_one l (at_ + k)
      rw [HO.out] at hn
      have HN := Lib.hid hn
      clear hn
      go_wp2_with fail
      refine (br_read HR.out HB.out wr gb 1 (at_ + k) HBR2.out (by decide) (by omega) hgb).mono ?_
      rw [HN.out]
      rintro e w2 ⟨rfl, ht, hbr⟩
      have X := Lib.hid (And.intro (HT.out.trans ht) hbr)
      clear ht hbr
      go_wp2_with fail
      go_ret2
      exact ⟨rfl, X.out.1, X.out.2⟩

/-- l holds the unary numbers us, from its first bit on. -/
structure Unaries (l : List Int) (us : List Nat) : Prop where
  fits : sumTo (us.map (· + 1)) us.length ≤ 8 * l.length
  zero : ∀ j, j < us.length → ∀ t, t < us.getD j 0 → bitAt l (sumTo (us.map (· + 1)) j + t) = 0
  one : ∀ j, j < us.length → bitAt l (sumTo (us.map (· + 1)) j + us.getD j 0) = 1
def natsTo (us : List Nat) (j : Nat) : List Int := (us.take j).map fun x : Nat => (x : Int)
theorem natsTo_succ (us : List Nat) (j : Nat) (h : j < us.length) : natsTo us (j + 1) = natsTo us j ++ [(us.getD j 0 : Int)] := by
  unfold natsTo
  rw [List.take_add_one, List.getElem?_eq_getElem h, List.map_append, List.getD_eq_getElem?_getD, List.getElem?_eq_getElem h]; rfl
theorem natsTo_len (us : List Nat) (j : Nat) (h : j ≤ us.length) : (natsTo us j).length = j := by simp [natsTo]; omega
theorem ends_succ (us : List Nat) (j : Nat) (h : j < us.length) : sumTo (us.map (· + 1)) (j + 1) = sumTo (us.map (· + 1)) j + us.getD j 0 + 1 := by
  rw [sumTo_succ _ j (by simpa using h)]
  simp [List.getD_eq_getElem?_getD, List.getElem?_eq_getElem h]; omega
theorem sumTo_le (ws : List Nat) {i j : Nat} (h : i ≤ j) : sumTo ws i ≤ sumTo ws j := by
  unfold sumTo
  have e : ws.take i = (ws.take j).take i := by rw [List.take_take, Nat.min_eq_left h]
  rw [e]
  have := List.take_append_drop i (ws.take j)
  have h2 : (ws.take j).sum = ((ws.take j).take i).sum + ((ws.take j).drop i).sum := by rw [← List.sum_append, this]
  omega

set_option maxHeartbeats 2000000 in
set_option maxRecDepth 100000 in
theorem unary_any (A : Option Addr) (n c : Nat) (l : List Int) (us : List Nat) (w : World)
    (hl : ReadsInt w .u8 A n l) (hc : n ≤ c) (hm : n ≤ 140737488351232) (hbytes : ∀ x ∈ l, 0 ≤ x ∧ x ≤ 255) (hu : Unaries l us) (hus : us.length ≤ 17592186044416) (hw64 : ∀ j, us.getD j 0 < 18446744073709551616) :
    Calls Tryd.prog 11 #[.slice A n c, .int .i64 us.length] w fun e w' =>
      ∃ v, e = .returned (.tuple #[v, .int .i64 0]) ∧ w'.ownsRow w.heap.size 25 1 v us.length (nums .u64 (natsTo us us.length)) ∧ Below w.heap.size w w' := by
  have HL := Lib.hid hl
  have HB := Lib.hid hbytes
  have HU := Lib.hid hu
  have HW64 := Lib.hid hw64
  obtain ⟨m, hm0⟩ : ∃ m, us.length = m := ⟨_, rfl⟩
  have HM0 := Lib.hid hm0
  rw [hm0] at hus ⊢
  clear hl hbytes hu hw64 hm0
  go_enter Tryd.func11, Tryd.ntmps11
  go_wp2_with fail
  refine (mkReader A n c l w HL.out hc hm).mono ?_
  rintro e w1 ⟨gb, gr, gd, A1, n1, c1, rfl, hb1, hmade⟩
  have HB1 := Lib.hid hb1
  have HM := Lib.hid hmade
  clear hb1 hmade
  go_wp2_with fail
  go_loopw [7, 13] (fun v i wr => ∃ j : Nat, j ≤ m ∧ i = .int .i64 j ∧ wr.ownsRow w.heap.size 25 1 v j (nums .u64 (natsTo us j)) ∧ (∀ k, v.ownBlock = some k → k ≠ gb ∧ k ∉ [gr, gd]) ∧
    Br 49 gr gb l (RdrSt gr A1 n1 c1 l) wr (sumTo (us.map (· + 1)) j) ∧ Below w.heap.size w wr ∧ gb < wr.heap.size ∧ gr < wr.heap.size ∧ gd < wr.heap.size) (fun _ i _ => m - (intOf i).toNat)
  case atStart => exact ⟨0, by omega, rfl, own_nil _ _ _ _, fun k hk => by simp [Value.ownBlock] at hk, HM.out.br, HB1.out, HM.out.gb1, HM.out.gr1, HM.out.gd1⟩
  case round =>
    obtain ⟨j, hj, rfl, hown, hne, hbr, hbel, hl1, hl2, hl3⟩ := hrel
    have HO := Lib.hid hown
    have HNE := Lib.hid hne
    have HBR := Lib.hid hbr
    have HBE := Lib.hid hbel
    have HL1 := Lib.hid (And.intro hl1 (And.intro hl2 hl3))
    clear hown hne hbr hbel hl1 hl2 hl3
    by_cases hlt : j < m
    · obtain ⟨nj, hnj⟩ : ∃ nj, us.getD j 0 = nj := ⟨_, rfl⟩
      have hsum : sumTo (us.map (· + 1)) (j + 1) = sumTo (us.map (· + 1)) j + nj + 1 := by rw [ends_succ us j (by rw [HM0.out]; exact hlt), hnj]
      have hav : sumTo (us.map (· + 1)) j + nj + 1 ≤ 8 * l.length := by
        rw [← hsum]
        exact Nat.le_trans (sumTo_le _ (by rw [HM0.out]; omega)) HU.out.fits
      have h64 : nj < 18446744073709551616 := by rw [← hnj]; exact HW64.out j
      have HNJ := Lib.hid hnj
      have HSUM := Lib.hid hsum
      have HAV := Lib.hid hav
      clear hnj hsum hav
      have R := rdr_src gr gd A1 n1 c1 l HM.out.len HM.out.blk HM.out.ne2
      have HR := Lib.hid R
      clear R
      go_wp2_with fail
      refine (br_unary HR.out HB.out wr gb (sumTo (us.map (· + 1)) j) nj HBR.out (by have := HU.out.zero j (by rw [HM0.out]; exact hlt); rw [HNJ.out] at this; exact this)
        (by have := HU.out.one j (by rw [HM0.out]; exact hlt); rw [HNJ.out] at this; exact this) HAV.out HM.out.ne1 h64).mono ?_
      rintro e w2 ⟨rfl, ht, hbr⟩
      have hO2 : w2.ownsRow w.heap.size 25 1 u7 j (nums .u64 (natsTo us j)) := own_touch HO.out ht (fun k hk hm => by
        have h0 := HNE.out k hk
        simp at h0 hm
        omega)
      have hBE2 : Below w.heap.size w w2 := ht.below HBE.out (fun k hk => by
        have h1 := HM.out.gb0; have h2 := HM.out.gr0; have := HB1.out.size
        simp at hk; omega)
      have hs2 := ht.size
      have HO2 := Lib.hid hO2
      have HBE2 := Lib.hid hBE2
      have HBR2 := Lib.hid hbr
      have HS2 := Lib.hid hs2
      clear ht hbr hO2 hBE2 hs2
      go_wp2_with (with_reducible refine stop_dst (N := 26) rfl ?_)
      refine unstop ?_
      refine print_append_num (w0 := w) w.heap.size rfl (.tmp 23) (.tmp 25) 24 25 .u64 8 rfl Tryd.underlying24 infoU64 (by decide) u7 (natsTo us j) (nj : Int) rfl rfl ?aO HBE2.out HBE2.out.size ?aL ?_
      case aO => rw [natsTo_len us j (by rw [HM0.out]; exact hj)]; exact HO2.out
      case aL => rw [natsTo_len us j (by rw [HM0.out]; exact hj)]; omega
      intro v1 w3 hO3 hB3 hgr hat
      have ht3 := touch_grown hgr
      have hbr3 : Br 49 gr gb l (RdrSt gr A1 n1 c1 l) w3 (sumTo (us.map (· + 1)) (j + 1)) := by
        rw [HSUM.out]
        exact HBR2.out.move HR.out ht3 (fun k hk => HNE.out k (by simpa using hk))
      have hne3 : ∀ k, v1.ownBlock = some k → k ≠ gb ∧ k ∉ [gr, gd] := fun k hk => by
        rcases hat with h | ⟨b, h, hb⟩
        · exact HNE.out k (by rw [← h]; exact hk)
        · obtain rfl : b = k := by rw [h] at hk; exact Option.some.inj hk
          have h1 := HL1.out; have h2 := HS2.out
          simp; omega
      have hO3' : w3.ownsRow w.heap.size 25 1 v1 (j + 1) (nums .u64 (natsTo us (j + 1))) := by
        rw [natsTo_succ us j (by rw [HM0.out]; exact hlt), HNJ.out]
        have e : (natsTo us j ++ [(nj : Int)]).length = j + 1 := by rw [List.length_append, natsTo_len us j (by rw [HM0.out]; exact hj)]; rfl
        rw [e] at hO3; exact hO3
      have X := Lib.hid (And.intro hO3' (And.intro hne3 (And.intro hbr3 hB3)))
      have hs3 : wr.heap.size ≤ w3.heap.size := Nat.le_trans HS2.out (by have := ht3.size; exact this)
      have HS3 := Lib.hid hs3
      clear hO3 hB3 hgr hat ht3 hbr3 hne3 hO3' hs3
      go_wp2_with fail
      go_roundw
      case rel => exact ⟨j + 1, by omega, by go_num, X.out.1, X.out.2.1, X.out.2.2.1, X.out.2.2.2, by have := HL1.out; have := HS3.out; omega, by have := HL1.out; have := HS3.out; omega, by have := HL1.out; have := HS3.out; omega⟩
      case measure => simp [intOf]; omega
    · obtain rfl : j = m := by omega
      go_wp2_with fail
      go_ret2
      exact ⟨_, rfl, HO.out, HBE.out⟩
end Go.Proofs.YtfpeoadgbidahaaDoor.Walk
