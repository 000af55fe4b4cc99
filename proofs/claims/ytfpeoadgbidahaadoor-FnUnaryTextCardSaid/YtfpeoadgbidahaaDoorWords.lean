/- impl.Words: words of bits up to the first of which bits are missing. -/
import Derived.Test.YtfpeoadgbidahaaDoorMake
import Derived.Outline
namespace Go.Proofs.YtfpeoadgbidahaaDoor.Walk
set_option linter.unusedVariables false
set_option linter.unusedSimpArgs false
open Go Go.RowKit Go.Proofs.YtfpeoadgbidahaaDoorW.PrintWords Go.Proofs.YtfpeoadgbidahaaDoor.Num

def sumTo (ws : List Nat) (j : Nat) : Nat := (ws.take j).sum
theorem sumTo_succ (ws : List Nat) (j : Nat) (h : j < ws.length) : sumTo ws (j + 1) = sumTo ws j + ws.getD j 0 := by
  unfold sumTo
  rw [List.take_add_one, List.getElem?_eq_getElem h, List.getD_eq_getElem?_getD, List.getElem?_eq_getElem h, List.sum_append]
  simp
theorem own_touch {w w' : World} {base : Nat} {e : TypeId} {size n : Nat} {v : Value} {xs : List Value} (h : w.ownsRow base e size v n xs) {U : List Nat} (t : Touch U w w') (hU : ∀ k, v.ownBlock = some k → k ∉ U) : w'.ownsRow base e size v n xs := by
  obtain ⟨h1, h2 | ⟨g, cap, cur, rfl, hb, hh, hn, hc, hs, ht⟩⟩ := h
  · exact ⟨h1, .inl h2⟩
  · exact ⟨h1, .inr ⟨g, cap, cur, rfl, hb, t.heap hh (hU g rfl), hn, hc, hs, ht⟩⟩
def wordsTo (l : List Int) (ws : List Nat) (j : Nat) : List Int := (List.range j).map fun i => (num l (sumTo ws i) (ws.getD i 0) : Int)
theorem wordsTo_succ (l : List Int) (ws : List Nat) (j : Nat) : wordsTo l ws (j + 1) = wordsTo l ws j ++ [(num l (sumTo ws j) (ws.getD j 0) : Int)] := by
  simp [wordsTo, List.range_succ]
theorem wordsTo_len (l : List Int) (ws : List Nat) (j : Nat) : (wordsTo l ws j).length = j := by simp [wordsTo]

/-- What Words tells: j words, and whether bits were missing. -/
def WordsTold (l : List Int) (ws : List Nat) (w : World) (e : Ending) (w' : World) : Prop :=
  ∃ (j : Nat) (v : Value) (code : Int), e = .returned (.tuple #[v, .int .i64 code]) ∧ j ≤ ws.length ∧ sumTo ws j ≤ 8 * l.length ∧
    ((j = ws.length ∧ code = 0) ∨ (j < ws.length ∧ 8 * l.length < sumTo ws (j + 1) ∧ code = 1)) ∧
    w'.ownsRow w.heap.size 25 1 v j (nums .u64 (wordsTo l ws j)) ∧ Below w.heap.size w w'

theorem infoU64 : (Tryd.prog.info? 25).map (fun i => (i.zero, i.size, i.bytes)) = some (some (.int .u64 0), 1, 8) := by kernel_rfl

set_option maxHeartbeats 2000000 in
set_option maxRecDepth 100000 in
theorem words_any (A : Option Addr) (n c : Nat) (l : List Int) (B : Option Addr) (m d : Nat) (ws : List Nat) (w : World) (ea eb : Addr)
    (hl : ReadsInt w .u8 A n l) (hc : n ≤ c) (hm : n ≤ 140737488351232) (hbytes : ∀ x ∈ l, 0 ≤ x ∧ x ≤ 255)
    (hw : ReadsInt w .i64 B m (ws.map (fun x : Nat => (x : Int)))) (hws : ∀ x ∈ ws, x ≤ 64) (hmd : m * 8 ≤ 140737488351232) (hG : Glob w ea eb) (hsafe : ∀ k, w.heap.size ≤ k → Safe k) :
    Calls Tryd.prog 9 #[.slice A n c, .slice B m d] w (WordsTold l ws w) := by
  have HW := Lib.hid hw
  have HL := Lib.hid hl
  have HB := Lib.hid hbytes
  have HWS := Lib.hid hws
  have HG := Lib.hid hG
  have HSF := Lib.hid hsafe
  have hwl : ws.length = m := by have := hw.1; simpa using this
  have HWL := Lib.hid hwl
  clear hw hl hbytes hws hG hsafe hwl
  go_enter Tryd.func9, Tryd.ntmps9
  go_wp2_with fail
  refine (mkReader A n c l w HL.out hc hm).mono ?_
  rintro e w1 ⟨gb, gr, gd, A1, n1, c1, rfl, hb1, hmade⟩
  have HB1 := Lib.hid hb1
  have HM := Lib.hid hmade
  clear hb1 hmade
  go_wp2_with fail
  go_loopw [7, 16] (fun v i wr => ∃ j : Nat, j ≤ m ∧ i = .int .i64 j ∧ wr.ownsRow w.heap.size 25 1 v j (nums .u64 (wordsTo l ws j)) ∧ (∀ k, v.ownBlock = some k → k ≠ gb ∧ k ∉ [gr, gd]) ∧
    Br 49 gr gb l (RdrSt gr A1 n1 c1 l) wr (sumTo ws j) ∧ Below w.heap.size w wr ∧ gb < wr.heap.size ∧ gr < wr.heap.size ∧ gd < wr.heap.size) (fun _ i _ => m - (intOf i).toNat)
  case atStart => exact ⟨0, by omega, rfl, own_nil _ _ _ _, fun k hk => by simp [Value.ownBlock] at hk, HM.out.br, HB1.out, HM.out.gb1, HM.out.gr1, HM.out.gd1⟩
  case round =>
    obtain ⟨j, hj, rfl, hown, hne, hbr, hbel, hl1, hl2, hl3⟩ := hrel
    have HO := Lib.hid hown
    have HNE := Lib.hid hne
    have HBR := Lib.hid hbr
    have HBE := Lib.hid hbel
    have HL1 := Lib.hid (And.intro hl1 (And.intro hl2 hl3))
    clear hown hne hbr hbel hl1 hl2 hl3
    by_cases hlt : j < m
    · obtain ⟨nj, hnj⟩ : ∃ nj, ws.getD j 0 = nj := ⟨_, rfl⟩
      have hnj64 : nj ≤ 64 := by
        rw [← hnj, List.getD_eq_getElem?_getD, List.getElem?_eq_getElem (by rw [HWL.out]; exact hlt)]
        exact HWS.out _ (List.getElem_mem _)
      obtain ⟨ad, rfl, hcell⟩ := (HW.out.below HBE.out).2.2 (by omega)
      have c1' : wr.cell? (ad.add j) = some (.int .i64 nj) := by
        rw [hcell j hlt, ← hnj]
        rw [List.getD_eq_getElem?_getD, List.getD_eq_getElem?_getD, List.getElem?_map, List.getElem?_eq_getElem (by rw [HWL.out]; exact hlt)]
        rfl
      have HNJ := Lib.hid hnj
      have hsum : sumTo ws (j + 1) = sumTo ws j + nj := by rw [sumTo_succ ws j (by rw [HWL.out]; exact hlt), hnj]
      have HSUM := Lib.hid hsum
      clear hcell hnj hsum
      have R := rdr_src gr gd A1 n1 c1 l HM.out.len HM.out.blk HM.out.ne2
      have HR := Lib.hid R
      clear R
      by_cases hav : sumTo ws j + nj ≤ 8 * l.length
      · go_wp2_with fail
        refine (br_read HR.out HB.out wr gb nj (sumTo ws j) HBR.out hnj64 hav HM.out.ne1).mono ?_
        rintro e w2 ⟨rfl, ht, hbr⟩
        have hO2 : w2.ownsRow w.heap.size 25 1 u7 j (nums .u64 (wordsTo l ws j)) := own_touch HO.out ht (fun k hk hm => by
          have h0 := HNE.out k hk
          simp at h0 hm
          omega)
        have hBE2 : Below w.heap.size w w2 := ht.below HBE.out (fun k hk => by
          have h1 := HM.out.gb0; have h2 := HM.out.gr0; have := HB1.out.size
          simp at hk; omega)
        have hs2 := ht.size
        have HO2 := Lib.hid hO2
        have HBE2 := Lib.hid hBE2
        have HBR2 := Lib.hid hbr
        have HS2 := Lib.hid hs2
        clear ht hbr hO2 hBE2 hs2
        go_wp2_with (with_reducible refine stop_dst (N := 36) rfl ?_)
        refine unstop ?_
        refine print_append_num (w0 := w) w.heap.size rfl (.tmp 33) (.tmp 35) 24 25 .u64 8 rfl Tryd.underlying24 infoU64 (by decide) u7 (wordsTo l ws j) (num l (sumTo ws j) nj : Int) rfl rfl ?aO HBE2.out HBE2.out.size ?aL ?_
        case aO => rw [wordsTo_len]; exact HO2.out
        case aL => rw [wordsTo_len]; omega
        intro v1 w3 hO3 hB3 hgr hat
        have ht3 := touch_grown hgr
        have hbr3 : Br 49 gr gb l (RdrSt gr A1 n1 c1 l) w3 (sumTo ws (j + 1)) := by
          rw [HSUM.out]
          exact HBR2.out.move HR.out ht3 (fun k hk => HNE.out k (by simpa using hk))
        have hne3 : ∀ k, v1.ownBlock = some k → k ≠ gb ∧ k ∉ [gr, gd] := fun k hk => by
          rcases hat with h | ⟨b, h, hb⟩
          · exact HNE.out k (by rw [← h]; exact hk)
          · obtain rfl : b = k := by rw [h] at hk; exact Option.some.inj hk
            have h1 := HL1.out; have h2 := HS2.out
            simp; omega
        have hO3' : w3.ownsRow w.heap.size 25 1 v1 (j + 1) (nums .u64 (wordsTo l ws (j + 1))) := by
          rw [wordsTo_succ, HNJ.out]
          have e : (wordsTo l ws j ++ [(num l (sumTo ws j) nj : Int)]).length = j + 1 := by simp [wordsTo_len]
          rw [e] at hO3; exact hO3
        have X := Lib.hid (And.intro hO3' (And.intro hne3 (And.intro hbr3 hB3)))
        have hs3 : wr.heap.size ≤ w3.heap.size := Nat.le_trans HS2.out (by have := ht3.size; exact this)
        have HS3 := Lib.hid hs3
        clear hO3 hB3 hgr hat ht3 hbr3 hne3 hO3' hs3
        go_wp2_with fail
        go_roundw
        case rel => exact ⟨j + 1, by omega, by go_num, X.out.1, X.out.2.1, X.out.2.2.1, X.out.2.2.2, by have := HL1.out; have := HS3.out; omega, by have := HL1.out; have := HS3.out; omega, by have := HL1.out; have := HS3.out; omega⟩
        case measure => simp [intOf]; omega
      · go_wp2_with fail
        have hsf : ∀ k ∈ gb :: [gr], Safe k := fun k hk => HSF.out k (by
          have h1 := HM.out.gb0; have h2 := HM.out.gr0; have := HB1.out.size
          simp at hk; omega)
        refine (br_fail HR.out wr gb nj (sumTo ws j) ea eb HBR.out hnj64 (by omega) HM.out.ne1 (HG.out.touch (U := []) (Touch.of_below HBE.out) (by simp)) hsf).mono ?_
        rintro e w2 ⟨a, _, rfl, ht⟩
        have hO2 : w2.ownsRow w.heap.size 25 1 u7 j (nums .u64 (wordsTo l ws j)) := own_touch HO.out ht (fun k hk hm => by
          have h0 := HNE.out k hk
          simp at h0 hm
          omega)
        have hBE2 : Below w.heap.size w w2 := ht.below HBE.out (fun k hk => by
          have h1 := HM.out.gb0; have h2 := HM.out.gr0; have := HB1.out.size
          simp at hk; omega)
        have HO2 := Lib.hid hO2
        have HBE2 := Lib.hid hBE2
        clear ht hO2 hBE2 hsf
        go_wp2_with fail
        go_ret2
        exact ⟨j, _, 1, rfl, by rw [HWL.out]; omega, HBR.out.le HR.out, .inr ⟨by rw [HWL.out]; exact hlt, by rw [HSUM.out]; omega, rfl⟩, HO2.out, HBE2.out⟩
    · go_wp2_with fail
      go_ret2
      have hjm : j = m := by omega
      exact ⟨j, _, 0, rfl, by rw [HWL.out]; exact hj, HBR.out.le (rdr_src gr gd A1 n1 c1 l HM.out.len HM.out.blk HM.out.ne2), .inl ⟨by rw [HWL.out]; exact hjm, rfl⟩, HO.out, HBE.out⟩
end Go.Proofs.YtfpeoadgbidahaaDoor.Walk
