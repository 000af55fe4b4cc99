/- utf8.Encode whatever the number (below 2^31), and impl.NumberText. -/
import Derived.Test.YtfpeoadgbidahaaEnc
import Derived.Test.YtfpeoadgbidahaaCode
import Derived.Outline
namespace Go.Proofs.Ytfpeoadgbidahaa.Walk
set_option linter.unusedVariables false
set_option linter.unusedSimpArgs false
open Go Go.RowKit Go.Proofs.YtfpeoadgbidahaaW.PrintWords Go.Proofs.Ytfpeoadgbidahaa.Num

set_option maxHeartbeats 1000000 in
set_option maxRecDepth 100000 in
theorem enc0 (B b v : Nat) (xs : List Int) (w : World) (h : Buf B b xs w) (hB : B ≤ w.heap.size) (hlim : xs.length ≤ 100000) (hhi : v < 128) :
    Calls Try.prog 6 #[.iface 35 (.pointer (some ⟨b, 0, none⟩)), .int .u64 v] w fun e w' =>
      e = .returned .nilIface ∧ Buf B b (xs ++ [(v : Int)]) w' ∧ Below B w w' := by
  have HH := Lib.hid h
  clear h
  go_enter Try.func6, Try.ntmps6
  go_wp2_with fail
  refine (put_byte B b v xs w HH.out hB (by omega)).mono ?_
  rintro e w1 ⟨rfl, hb1, hbe1⟩
  have X1 := Lib.hid (And.intro hb1 hbe1)
  clear hb1 hbe1
  go_wp2_with fail
  go_ret
  exact ⟨rfl, X1.out⟩

theorem enc_any (B b v : Nat) (xs : List Int) (w : World) (h : Buf B b xs w) (hB : B ≤ w.heap.size) (hlim : xs.length ≤ 100000) (hv : v < 2147483648) :
    Calls Try.prog 6 #[.iface 35 (.pointer (some ⟨b, 0, none⟩)), .int .u64 v] w fun e w' =>
      e = .returned .nilIface ∧ Buf B b (xs ++ coded v) w' ∧ Below B w w' := by
  have key : ∀ m top, more v = m → m ≠ 0 → 65280 / 2 ^ (m + 1) % 256 = top → coded v = ((top + v / 64 ^ m : Nat) : Int) :: tail v m := by
    intro m top hm h0 ht
    rw [coded, hm, first, if_neg h0, ht]
  by_cases h1 : v < 128
  · have e : coded v = [(v : Int)] := by
      have hm : more v = 0 := by unfold more; rw [if_pos h1]
      rw [coded, hm, first, if_pos rfl, tail]
    rw [e]; exact enc0 B b v xs w h hB hlim h1
  by_cases h2 : v < 2048
  · rw [key 1 192 (by unfold more; rw [if_neg h1, if_pos h2]) (by decide) (by decide)]
    exact enc1 B b v xs w h hB hlim (by omega) h2
  by_cases h3 : v < 65536
  · rw [key 2 224 (by unfold more; rw [if_neg h1, if_neg h2, if_pos h3]) (by decide) (by decide)]
    exact enc2 B b v xs w h hB hlim (by omega) h3
  by_cases h4 : v < 2097152
  · rw [key 3 240 (by unfold more; rw [if_neg h1, if_neg h2, if_neg h3, if_pos h4]) (by decide) (by decide)]
    exact enc3 B b v xs w h hB hlim (by omega) h4
  by_cases h5 : v < 67108864
  · rw [key 4 248 (by unfold more; rw [if_neg h1, if_neg h2, if_neg h3, if_neg h4, if_pos h5]) (by decide) (by decide)]
    exact enc4 B b v xs w h hB hlim (by omega) h5
  · rw [key 5 252 (by unfold more; rw [if_neg h1, if_neg h2, if_neg h3, if_neg h4, if_neg h5, if_pos hv]) (by decide) (by decide)]
    exact enc5 B b v xs w h hB hlim (by omega) hv

set_option maxHeartbeats 1000000 in
set_option maxRecDepth 100000 in
theorem numText (v : Nat) (w : World) (hv : v < 2147483648) :
    Calls Try.prog 4 #[.int .u64 v] w fun e w' =>
      ∃ x, e = .returned (.tuple #[x, .int .i64 0]) ∧ w'.ownsRow w.heap.size 5 1 x (coded v).length (nums .u8 (coded v)) ∧ Below w.heap.size w w' := by
  have hb0 : Buf w.heap.size w.heap.size [] (w.alloc (.cells #[.slice none 0 0, .int .i64 0, .int .i8 0] 31)) := Lib.fresh_isBuffer 31 5 w
  have hbe0 : Below w.heap.size w (w.alloc (.cells #[.slice none 0 0, .int .i64 0, .int .i8 0] 31)) := (Below.refl _ _).alloc (Nat.le_refl _) _
  have X0 := Lib.hid (And.intro hb0 hbe0)
  obtain ⟨cv, hcv⟩ : ∃ cv, coded v = cv := ⟨_, rfl⟩
  have hlc : cv.length ≤ 7 := by rw [← hcv, coded_len]; have := more_le v; omega
  have henc : ∀ (wx : World) (b : Nat), Buf w.heap.size b [] wx → w.heap.size ≤ wx.heap.size → Calls Try.prog 6 #[.iface 35 (.pointer (some ⟨b, 0, none⟩)), .int .u64 v] wx fun e w' =>
      e = .returned .nilIface ∧ Buf w.heap.size b cv w' ∧ Below w.heap.size wx w' := fun wx b h1 h2 => by
    have h := enc_any w.heap.size b v [] wx h1 h2 (by simp) hv
    rw [hcv, List.nil_append] at h; exact h
  have HE := Lib.hid henc
  rw [hcv]
  clear hb0 hbe0 hcv henc
  go_enter Try.func4, Try.ntmps4
  go_wp2_with fail
  refine (HE.out _ w.heap.size X0.out.1 X0.out.2.size).mono ?_
  rintro e w1 ⟨rfl, hb1, hbe1⟩
  have X1 := Lib.hid (And.intro hb1 (X0.out.2.trans hbe1))
  clear hb1 hbe1
  go_wp2_with fail
  have hb2 : Buf w.heap.size w.heap.size cv (w1.alloc (.cells #[] 5)) := Lib.IsBuffer.alloc X1.out.1 _
  have hbe2 : Below w.heap.size w (w1.alloc (.cells #[] 5)) := X1.out.2.alloc X1.out.2.size _
  have hlit := World.ownsRow_lit (base := w.heap.size) (e := 5) (size := 1) w1 #[] 0 X1.out.2.size (by unfold maxLen; omega) (by simp)
  have HB2 := Lib.hid hb2
  have HBE2 := Lib.hid hbe2
  have HLIT := Lib.hid hlit
  clear hb2 hbe2 hlit
  refine (Try.Buffer_Bytes w.heap.size w.heap.size (nums .u8 cv) _ HB2.out).mono ?_
  rintro e w2 ⟨x, rfl, hox, q, rfl⟩
  rw [nums_length] at hox
  obtain ⟨A2, c2, rfl, hR2⟩ := own_reads hox
  have HR2 := Lib.hid hR2
  clear hox hR2
  go_wp2_with (with_reducible refine stop_dst (N := 11) rfl ?_)
  refine unstop ?_
  refine print_append_row (w0 := w) w.heap.size rfl (.tmp 9) (.tmp 10) 23 5 .u8 1 rfl Try.underlying23 infoU8 (by decide) _ [] cv A2 cv.length c2 rfl rfl ?aO ?aR ?aB ?aS ?aL ?_
  case aO => exact HLIT.out
  case aR => exact HR2.out
  case aB => exact below_drewN HBE2.out q
  case aS => exact HBE2.out.size
  case aL => simp; omega
  intro v3 w3 hO3 hB3 _ _
  rw [List.nil_append] at hO3
  have X3 := Lib.hid (And.intro hO3 hB3)
  clear hO3 hB3
  go_wp2_with fail
  refine (code_good w3).mono ?_
  rintro e w4 ⟨rfl, rfl⟩
  go_wp2_with fail
  go_ret2
  exact ⟨_, rfl, X3.out⟩
end Go.Proofs.Ytfpeoadgbidahaa.Walk
