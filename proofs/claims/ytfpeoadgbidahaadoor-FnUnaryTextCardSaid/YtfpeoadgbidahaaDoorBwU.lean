/- bits.WriteUnary and impl.UnaryText. -/
import Derived.Test.YtfpeoadgbidahaaDoorBw
import Derived.Outline
namespace Go.Proofs.YtfpeoadgbidahaaDoor.Walk
set_option linter.unusedVariables false
set_option linter.unusedSimpArgs false
open Go Go.RowKit Go.Proofs.YtfpeoadgbidahaaDoorW.PrintWords Go.Proofs.YtfpeoadgbidahaaDoor.Num

set_option maxHeartbeats 1000000 in
set_option maxRecDepth 100000 in
theorem bw_unary (B b gw x : Nat) (s : WS) (w : World) (h : Bw B b gw s w) (hB : B ≤ w.heap.size) (hx : x ≤ 100000) (hlim : s.out.length ≤ 500000) :
    Calls Tryd.prog 25 #[.pointer (some ⟨gw, 0, none⟩), .int .u64 x] w fun e w' =>
      e = .returned .nilIface ∧ Bw B b gw (s.puts 1 (x + 1)) w' ∧ Below B w w' := by
  have HH := Lib.hid h
  obtain ⟨F, hF⟩ : ∃ F, s.puts 1 (x + 1) = F := ⟨_, rfl⟩
  rw [hF]
  have HF := Lib.hid hF
  clear h hF
  go_enter Tryd.func25, Tryd.ntmps25
  go_wp2_with fail
  go_loopw [1] (fun nv wr => ∃ (m : Nat) (u : WS), nv = .int .u64 m ∧ m ≤ x ∧ u.puts 1 (m + 1) = F ∧ Bw B b gw u wr ∧ Below B w wr ∧ u.out.length + m ≤ s.out.length + x) (fun nv _ => (intOf nv).toNat)
  case atStart => exact ⟨x, s, rfl, Nat.le_refl _, HF.out, HH.out, Below.refl _ _, Nat.le_refl _⟩
  case round =>
    obtain ⟨m, u, rfl, hm, hp, hbw, hbe, hl⟩ := hrel
    have HP := Lib.hid hp
    have HBW := Lib.hid hbw
    have HBE := Lib.hid hbe
    clear hp hbw hbe
    by_cases h8 : 8 < m
    · obtain ⟨k, rfl⟩ : ∃ k, m = k + 8 := ⟨m - 8, by omega⟩
      go_wp2_with fail
      refine (bw_byte B b gw 0 u wr HBW.out (Nat.le_trans hB HBE.out.size) (by decide) (by omega)).mono ?_
      rintro e w1 ⟨rfl, hb, hbe⟩
      have X := Lib.hid (And.intro hb (HBE.out.trans hbe))
      clear hb hbe
      go_wp2_with fail
      go_roundw
      case rel =>
        refine ⟨k, u.puts 0 8, by go_num, by omega, ?_, X.out.1, X.out.2, ?_⟩
        · rw [← HP.out, ← WS.puts_one k 8 u, show 8 + k + 1 = k + 8 + 1 by omega]
        · have := WS.puts_len 0 8 u; omega
      case measure => simp [intOf]; omega
    · have hw1 : ((m : Int) + 1) % 256 = ((m + 1 : Nat) : Int) := by omega
      go_wp2_with fail
      refine (bw_bits B b gw 1 (m + 1) u wr HBW.out (Nat.le_trans hB HBE.out.size) (by decide) (by omega) (by omega)).mono ?_
      rw [HP.out]
      rintro e w1 ⟨rfl, hb, hbe⟩
      have X := Lib.hid (And.intro hb (HBE.out.trans hbe))
      clear hb hbe
      go_wp2_with fail
      go_ret
      exact ⟨rfl, X.out⟩

theorem newBw (ty : Nat) (x : Value) (w : World) : Calls Tryd.prog 24 #[.iface ty x] w fun e w' =>
    e = .returned (.pointer (some ⟨w.heap.size, 0, none⟩)) ∧ w' = w.alloc (.cells #[.iface ty x, .int .u8 0, .int .u8 0] 81) := by
  go_enter Tryd.func24, Tryd.ntmps24
  go_wp2_with fail
  go_ret
  exact ⟨rfl, rfl⟩

/-- What is written behind j numbers. -/
def uw (us : List Nat) : Nat → WS
  | 0 => ⟨[], 0, 0⟩
  | j + 1 => (uw us j).puts 1 (us.getD j 0 + 1)
theorem uw_len (us : List Nat) (hus : ∀ j, us.getD j 0 ≤ 255) : ∀ j, (uw us j).out.length ≤ 256 * j
  | 0 => by simp [uw]
  | j + 1 => by
    have h1 := uw_len us hus j
    have h2 := WS.puts_len 1 (us.getD j 0 + 1) (uw us j)
    have h3 := hus j
    rw [uw]; omega
theorem WS.flush_len (s : WS) : s.flush.out.length ≤ s.out.length + 8 := by
  unfold WS.flush
  split
  · omega
  · have := WS.puts_len 0 (8 - s.nb) s; omega

set_option maxHeartbeats 2000000 in
set_option maxRecDepth 100000 in
theorem unaryText (A : Option Addr) (n c : Nat) (us : List Nat) (w : World) (hl : ReadsInt w .u64 A n (us.map fun x : Nat => (x : Int))) (hn : us.length = n) (hn1 : n ≤ 100) (hus : ∀ j, us.getD j 0 ≤ 255) :
    Calls Tryd.prog 15 #[.slice A n c] w fun e w' =>
      ∃ x, e = .returned x ∧ w'.ownsRow w.heap.size 5 1 x (uw us n).flush.out.length (nums .u8 (uw us n).flush.out) ∧ Below w.heap.size w w' := by
  have HL := Lib.hid hl
  have HN := Lib.hid hn
  have HUS := Lib.hid hus
  have HLEN := Lib.hid (uw_len us hus)
  have hb0 : Buf w.heap.size w.heap.size [] (w.alloc (.cells #[.slice none 0 0, .int .i64 0, .int .i8 0] 57)) := Lib.fresh_isBuffer 57 5 w
  have hbe0 : Below w.heap.size w (w.alloc (.cells #[.slice none 0 0, .int .i64 0, .int .i8 0] 57)) := (Below.refl _ _).alloc (Nat.le_refl _) _
  have X0 := Lib.hid (And.intro hb0 hbe0)
  obtain ⟨cv, hcv⟩ : ∃ cv, (uw us n).flush.out = cv := ⟨_, rfl⟩
  rw [hcv]
  have HCV := Lib.hid hcv
  clear hl hn hus hb0 hbe0 hcv
  go_enter Tryd.func15, Tryd.ntmps15
  go_wp2_with fail
  refine (newBw _ _ _).mono ?_
  rintro e w1 ⟨rfl, hw1⟩
  have hgw : (w.alloc (.cells #[.slice none 0 0, .int .i64 0, .int .i8 0] 57)).heap.size = w.heap.size + 1 := by simp
  obtain ⟨gw, hgw2⟩ : ∃ gw, w.heap.size + 1 = gw := ⟨_, rfl⟩
  rw [hgw, hgw2]
  have hbw : Bw w.heap.size w.heap.size gw (uw us 0) w1 := by
    refine ⟨⟨show 0 < 8 by decide, show 0 < 2 ^ 0 by decide⟩, ?_, ?_, by omega⟩
    · rw [hw1]; exact Lib.IsBuffer.alloc X0.out.1 _
    · rw [hw1, ← hgw2, ← hgw]; exact heap_alloc_new _ _
  have hbel : Below w.heap.size w w1 := by rw [hw1]; exact X0.out.2.alloc X0.out.2.size _
  have HBW0 := Lib.hid hbw
  have HBE0 := Lib.hid hbel
  clear hbw hbel hw1 hgw hgw2
  go_wp2_with fail
  go_loopw [11] (fun i wr => ∃ j : Nat, j ≤ n ∧ i = .int .i64 j ∧ Bw w.heap.size w.heap.size gw (uw us j) wr ∧ Below w.heap.size w wr) (fun i _ => n - (intOf i).toNat)
  case atStart => exact ⟨0, by omega, rfl, HBW0.out, HBE0.out⟩
  case round =>
    obtain ⟨j, hj, rfl, hbw, hbe⟩ := hrel
    have HBW := Lib.hid hbw
    have HBE := Lib.hid hbe
    clear hbw hbe
    by_cases hlt : j < n
    · obtain ⟨ad, rfl, hcell⟩ := (HL.out.below HBE.out).2.2 (by omega)
      obtain ⟨x, hx⟩ : ∃ x, us.getD j 0 = x := ⟨_, rfl⟩
      have hx255 : x ≤ 255 := by rw [← hx]; exact HUS.out j
      have cj : wr.cell? (ad.add j) = some (.int .u64 x) := by
        have hj' : j < us.length := by rw [HN.out]; exact hlt
        rw [hcell j hlt]
        rw [List.getD_eq_getElem?_getD, List.getElem?_eq_getElem hj'] at hx
        rw [List.getD_eq_getElem?_getD, List.getElem?_map, List.getElem?_eq_getElem hj']
        simp at hx ⊢; omega
      have HX := Lib.hid hx
      clear hcell hx
      go_wp2_with fail
      refine (bw_unary w.heap.size w.heap.size gw x (uw us j) wr HBW.out HBE.out.size (by omega) (by have := HLEN.out j; omega)).mono ?_
      rintro e w2 ⟨rfl, hb, hbe⟩
      have X := Lib.hid (And.intro hb (HBE.out.trans hbe))
      clear hb hbe
      go_wp2_with fail
      go_roundw
      case rel => exact ⟨j + 1, by omega, by go_num, by rw [uw, HX.out]; exact X.out.1, X.out.2⟩
      case measure => simp [intOf]; omega
    · obtain rfl : j = n := by omega
      go_wp2_with fail
      refine (bw_align w.heap.size w.heap.size gw (uw us j) wr HBW.out HBE.out.size (by have := HLEN.out j; omega)).mono ?_
      rintro e w2 ⟨⟨sk, rfl⟩, hb, hbe⟩
      have hlc : cv.length ≤ 30000 := by rw [← HCV.out]; have h1 := (uw us j).flush_len; have h2 := HLEN.out j; omega
      have hb2 := hb.buf
      rw [HCV.out] at hb2
      have X1 := Lib.hid (And.intro hb2 (HBE.out.trans hbe))
      clear hb hbe hb2
      go_wp2_with fail
      have hb2 : Buf w.heap.size w.heap.size cv (w2.alloc (.cells #[] 5)) := Lib.IsBuffer.alloc X1.out.1 _
      have hbe2 : Below w.heap.size w (w2.alloc (.cells #[] 5)) := X1.out.2.alloc X1.out.2.size _
      have hlit := World.ownsRow_lit (base := w.heap.size) (e := 5) (size := 1) w2 #[] 0 X1.out.2.size (by unfold maxLen; omega) (by simp)
      have HB2 := Lib.hid hb2
      have HBE2 := Lib.hid hbe2
      have HLIT := Lib.hid hlit
      clear hb2 hbe2 hlit
      refine (Tryd.Buffer_Bytes w.heap.size w.heap.size (nums .u8 cv) _ HB2.out).mono ?_
      rintro e w3 ⟨x, rfl, hox, q, rfl⟩
      rw [nums_length] at hox
      obtain ⟨A2, c2, rfl, hR2⟩ := own_reads hox
      have HR2 := Lib.hid hR2
      clear hox hR2
      go_wp2_with (with_reducible refine stop_dst (N := 24) rfl ?_)
      refine unstop ?_
      refine print_append_row (w0 := w) w.heap.size rfl (.tmp 22) (.tmp 23) 22 5 .u8 1 rfl Tryd.underlying22 infoU8 (by decide) _ [] cv A2 cv.length c2 rfl rfl ?aO ?aR ?aB ?aS ?aL ?_
      case aO => exact HLIT.out
      case aR => exact HR2.out
      case aB => exact below_drewN HBE2.out q
      case aS => exact HBE2.out.size
      case aL => simp; omega
      intro v3 w3 hO3 hB3 _ _
      rw [List.nil_append] at hO3
      have X3 := Lib.hid (And.intro hO3 hB3)
      clear hO3 hB3
      go_wp2_with fail
      go_ret
      exact ⟨_, rfl, X3.out⟩
end Go.Proofs.YtfpeoadgbidahaaDoor.Walk
