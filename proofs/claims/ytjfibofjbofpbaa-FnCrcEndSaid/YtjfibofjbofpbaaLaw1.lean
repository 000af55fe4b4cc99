/- The walks of the laws on the sums. -/
import Derived.Test.YtjfibofjbofpbaaCrcS
namespace Go.Proofs.Ytjfibofjbofpbaa.CrcL
open Go Go.RowKit Go.Proofs.YtjfibofjbofpbaaW.PrintWords Go.Proofs.Ytjfibofjbofpbaa.Crc Go.Proofs.Ytjfibofjbofpbaa.CrcP Go.Proofs.Ytjfibofjbofpbaa.CrcS Go.Proofs.Ytjfibofjbofpbaa.PFnCrc8

theorem kdC {w : World} {A : Option Addr} {n : Nat} {l : List Int} (h : ReadsInt w .u8 A n l) : Kd.C (Kd.int .u8) w A n l :=
  Kd.C_of_reads (d := (0 : Int)) (h1 := fun _ => rfl) h

set_option maxHeartbeats 400000 in
theorem ref8 (A : Option Addr) (c : Nat) (l : List Int) (w : World) (hl : ReadsInt w .u8 A l.length l) (hc : l.length ≤ c) (hm : l.length ≤ 2 ^ 62) (hb : ∀ x ∈ l, Byte x) :
    Calls Try.prog 18 #[.slice A l.length c] w fun e w' => e = .returned (.int .i64 (crc8 l)) ∧ Below w.heap.size w w' := by
  obtain ⟨K, hK⟩ := spec8 l hm hb
  have HK := Lib.hid hK
  have HL := Lib.hid hl
  have HC := Lib.hid hc
  clear hK hl hc hm hb
  go_enter Try.func18, Try.ntmps18
  go_wp2_with fail
  refine (spec_Crc.calls K A c l 8 7 (crc8 l) w (kdC HL.out) HC.out HK.out).mono ?_
  rintro e w1 ⟨rfl, hd⟩
  have HD := Lib.hid hd.below
  clear hd
  go_wp2_with fail
  go_ret
  exact ⟨rfl, HD.out⟩

set_option maxHeartbeats 400000 in
theorem ref16 (A : Option Addr) (c : Nat) (l : List Int) (w : World) (hl : ReadsInt w .u8 A l.length l) (hc : l.length ≤ c) (hm : l.length ≤ 2 ^ 62) (hb : ∀ x ∈ l, Byte x) :
    Calls Try.prog 16 #[.slice A l.length c] w fun e w' => e = .returned (.int .i64 (crc16 l)) ∧ Below w.heap.size w w' := by
  obtain ⟨K, hK⟩ := spec16 l hm hb
  have HK := Lib.hid hK
  have HL := Lib.hid hl
  have HC := Lib.hid hc
  clear hK hl hc hm hb
  go_enter Try.func16, Try.ntmps16
  go_wp2_with fail
  refine (spec_Crc.calls K A c l 16 32773 (crc16 l) w (kdC HL.out) HC.out HK.out).mono ?_
  rintro e w1 ⟨rfl, hd⟩
  have HD := Lib.hid hd.below
  clear hd
  go_wp2_with fail
  go_ret
  exact ⟨rfl, HD.out⟩

theorem crc8_range (l : List Int) (hb : ∀ x ∈ l, Byte x) : 0 ≤ crc8 l ∧ crc8 l < 256 := by
  rw [crc8_is l hb]; have := (l.foldl b8 0#8).isLt; omega
theorem crc16_range (l : List Int) (hb : ∀ x ∈ l, Byte x) : 0 ≤ crc16 l ∧ crc16 l < 65536 := by
  rw [crc16_is l hb]; have := (l.foldl b16 0#16).isLt; omega
theorem one8 : crc8 [1] = 7 := by rw [crc8_is [1] (by simp [Byte])]; decide +kernel
theorem one16 : crc16 [1] = 32773 := by rw [crc16_is [1] (by simp [Byte])]; decide +kernel

/-- The text of one byte, 1, in a new block. -/
theorem one_reads (w : World) (T : Nat) : ReadsInt (w.alloc (.cells #[.int .u8 1] T)) .u8 (some ⟨w.heap.size, 0, none⟩) 1 [1] := by
  refine ⟨rfl, by omega, fun _ => ⟨_, rfl, fun j hj => ?_⟩⟩
  obtain rfl : j = 0 := by omega
  rw [add_plain, World.cell?_alloc_at _ _ _ _ rfl]; rfl

set_option maxHeartbeats 1000000 in
set_option maxRecDepth 100000 in
theorem law8 (A : Option Addr) (c : Nat) (l : List Int) (w : World) (hl : ReadsInt w .u8 A l.length l) (hc : l.length ≤ c) (hm : l.length ≤ 2 ^ 62) (hb : ∀ x ∈ l, Byte x) :
    Calls Try.prog 8 #[.slice A l.length c] w fun e w' => e = .returned (.bool true) ∧ Below w.heap.size w w' := by
  obtain ⟨x, hx⟩ : ∃ x, crc8 l = x := ⟨_, rfl⟩
  obtain ⟨hx0, hx1⟩ : 0 ≤ x ∧ x < 256 := by rw [← hx]; exact crc8_range l hb
  have HX := Lib.hid hx
  have HL := Lib.hid hl
  have HC := Lib.hid hc
  have HB := Lib.hid hb
  have HM := Lib.hid hm
  obtain ⟨n, hn⟩ : ∃ n, l.length = n := ⟨_, rfl⟩
  have HN := Lib.hid hn
  rw [hn] at hm ⊢
  clear hx hl hc hb hn
  by_cases h1 : 2147483647 < n
  · go_enter Try.func8, Try.ntmps8
    go_wp2_with fail
    go_ret
    exact ⟨rfl, Below.refl _ _⟩
  · by_cases h2 : 65536 < n
    · go_enter Try.func8, Try.ntmps8
      go_wp2_with fail
      go_ret
      exact ⟨rfl, Below.refl _ _⟩
    · go_enter Try.func8, Try.ntmps8
      go_wp2_with fail
      refine (sum8 A n c l w (by have h := HL.out; rw [HN.out] at h; exact h)).mono ?_
      rintro e w1 ⟨rfl, hb1⟩
      rw [HX.out]
      have HB1 := Lib.hid hb1
      clear hb1
      go_wp2_with fail
      have hr := ref8 A c l w1 (HL.out.below HB1.out) HC.out HM.out HB.out
      rw [HN.out, HX.out] at hr
      refine hr.mono ?_
      clear hr
      rintro e w2 ⟨rfl, hb2⟩
      have HB2 := Lib.hid (below_then HB1.out HB1.out.size hb2)
      clear hb2
      go_wp2_with fail
      refine (sum8 _ _ _ [1] _ (one_reads w2 _)).mono ?_
      rintro e w3 ⟨rfl, hb3⟩
      have HB3 := Lib.hid (below_then (below_alloc HB2.out _) (below_alloc HB2.out _).size hb3)
      clear hb3
      rw [one8]
      go_wp2_with fail
      go_ret
      exact ⟨rfl, HB3.out⟩

set_option maxHeartbeats 1000000 in
set_option maxRecDepth 100000 in
theorem law16 (A : Option Addr) (c : Nat) (l : List Int) (w : World) (hl : ReadsInt w .u8 A l.length l) (hc : l.length ≤ c) (hm : l.length ≤ 2 ^ 62) (hb : ∀ x ∈ l, Byte x) :
    Calls Try.prog 7 #[.slice A l.length c] w fun e w' => e = .returned (.bool true) ∧ Below w.heap.size w w' := by
  obtain ⟨x, hx⟩ : ∃ x, crc16 l = x := ⟨_, rfl⟩
  obtain ⟨hx0, hx1⟩ : 0 ≤ x ∧ x < 65536 := by rw [← hx]; exact crc16_range l hb
  have HX := Lib.hid hx
  have HL := Lib.hid hl
  have HC := Lib.hid hc
  have HB := Lib.hid hb
  have HM := Lib.hid hm
  obtain ⟨n, hn⟩ : ∃ n, l.length = n := ⟨_, rfl⟩
  have HN := Lib.hid hn
  rw [hn] at hm ⊢
  clear hx hl hc hb hn
  by_cases h1 : 2147483647 < n
  · go_enter Try.func7, Try.ntmps7
    go_wp2_with fail
    go_ret
    exact ⟨rfl, Below.refl _ _⟩
  · by_cases h2 : 65536 < n
    · go_enter Try.func7, Try.ntmps7
      go_wp2_with fail
      go_ret
      exact ⟨rfl, Below.refl _ _⟩
    · go_enter Try.func7, Try.ntmps7
      go_wp2_with fail
      refine (sum16 A n c l w (by have h := HL.out; rw [HN.out] at h; exact h) HB.out).mono ?_
      rintro e w1 ⟨rfl, hb1⟩
      rw [HX.out]
      have HB1 := Lib.hid hb1
      clear hb1
      go_wp2_with fail
      have hr := ref16 A c l w1 (HL.out.below HB1.out) HC.out HM.out HB.out
      rw [HN.out, HX.out] at hr
      refine hr.mono ?_
      clear hr
      rintro e w2 ⟨rfl, hb2⟩
      have HB2 := Lib.hid (below_then HB1.out HB1.out.size hb2)
      clear hb2
      go_wp2_with fail
      refine (sum16 _ _ _ [1] _ (one_reads w2 _) (by simp [Byte])).mono ?_
      rintro e w3 ⟨rfl, hb3⟩
      have HB3 := Lib.hid (below_then (below_alloc HB2.out _) (below_alloc HB2.out _).size hb3)
      clear hb3
      rw [one16]
      go_wp2_with fail
      go_ret
      exact ⟨rfl, HB3.out⟩

theorem byte_of_wf (l : List Int) (h : ∀ x ∈ l, (Lit.int .u8 x).wf = true) : ∀ x ∈ l, Byte x := by
  intro x hx
  have h0 := h x hx
  have h1 : IntKind.u8.min = 0 := rfl
  have h2 : IntKind.u8.max = 255 := rfl
  simp only [Lit.wf, Bool.and_eq_true, decide_eq_true_eq] at h0
  exact ⟨by omega, by omega⟩
theorem top8 (A : Option Addr) (c : Nat) (l : List Int) (w : World) (hl : ReadsInt w .u8 A l.length l) (hc : l.length ≤ c) (y : l.length * 1 ≤ 140737488351232) (hw : ∀ x ∈ l, (Lit.int .u8 x).wf = true) :
    Calls Try.prog 8 #[.slice A l.length c] w fun e w' => e = .returned (.bool true) ∧ Below w.heap.size w w' :=
  law8 A c l w hl hc (by omega) (byte_of_wf l hw)
theorem top16 (A : Option Addr) (c : Nat) (l : List Int) (w : World) (hl : ReadsInt w .u8 A l.length l) (hc : l.length ≤ c) (y : l.length * 1 ≤ 140737488351232) (hw : ∀ x ∈ l, (Lit.int .u8 x).wf = true) :
    Calls Try.prog 7 #[.slice A l.length c] w fun e w' => e = .returned (.bool true) ∧ Below w.heap.size w w' :=
  law16 A c l w hl hc (by omega) (byte_of_wf l hw)
end Go.Proofs.Ytjfibofjbofpbaa.CrcL
