/- The walk of the law on a text with its own sum behind it. -/
import Derived.Test.YtjfibofjbofpbaaLaw1
import Derived.Test.YtjfibofjbofpbaaStop
namespace Go.Proofs.Ytjfibofjbofpbaa.CrcL
open Go Go.RowKit Go.Proofs.YtjfibofjbofpbaaW.PrintWords Go.Proofs.Ytjfibofjbofpbaa.Crc Go.Proofs.Ytjfibofjbofpbaa.CrcP Go.Proofs.Ytjfibofjbofpbaa.CrcS Go.Proofs.Ytjfibofjbofpbaa.PFnCrc8 Go.Proofs.Ytjfibofjbofpbaa.Walk

theorem info5 : (Try.prog.info? 5).map (fun i => (i.zero, i.size, i.bytes)) = some (some (.int .u8 0), 1, 1) := by kernel_rfl

theorem xor_self8 (x : BitVec 8) : stSs 7#8 x 8 x = 0#8 := by
  have h := stTs_xor 7#8 x 8 x
  rw [BitVec.xor_self, shl8, BitVec.xor_zero] at h
  rw [← h]; decide +kernel
theorem b8_self (F : BitVec 8) : b8 F (F.toNat : Int) = 0#8 := by unfold b8; rw [ofInt_nat]; exact xor_self8 F
/-- A text with its own sum behind it has the sum 0. -/
theorem end8 (l : List Int) (hb : ∀ x ∈ l, Byte x) : crc8 (l ++ [crc8 l]) = 0 := by
  have h := crc8_is l hb
  have hr := crc8_range l hb
  rw [crc8_is _ (by intro x hx; rcases List.mem_append.1 hx with h | h; exact hb x h; rw [List.mem_singleton.1 h]; exact ⟨by omega, by omega⟩), List.foldl_append]
  show ((b8 (l.foldl b8 0#8) (crc8 l)).toNat : Int) = 0
  rw [h, b8_self]; rfl
theorem b16_as (c : BitVec 16) (n : Nat) : b16 c (n : Int) = stTs 32773#16 8 (c ^^^ BitVec.ofNat 16 (n * 256)) := by
  have hd : BitVec.ofInt 16 ((n : Int) * 256) = BitVec.ofNat 16 (n * 256) := by
    have : (n : Int) * 256 = ((n * 256 : Nat) : Int) := by simp
    rw [this, BitVec.ofInt_natCast]
  have z : BitVec.ofNat 16 (n * 256) <<< 8 = 0#16 := by
    apply BitVec.eq_of_toNat_eq; rw [BitVec.toNat_shiftLeft, Nat.shiftLeft_eq, BitVec.toNat_ofNat]; simp; omega
  rw [stTs_xor, z, BitVec.xor_zero]
  unfold b16
  rw [hd]
theorem low_moved (k : Nat) (hk : k < 256) : stTs 32773#16 8 (BitVec.ofNat 16 k) = BitVec.ofNat 16 (k * 256) := by
  have hmsb : ∀ j < 8, (BitVec.ofNat 16 k <<< j).msb = false := by
    intro j hj
    rw [BitVec.msb_eq_getLsbD_last, BitVec.getLsbD_shiftLeft, BitVec.getLsbD_ofNat]
    have : k.testBit (16 - 1 - j) = false := Nat.testBit_lt_two_pow (Nat.lt_of_lt_of_le hk (Nat.pow_le_pow_right (n := 2) (by decide) (show 8 ≤ 16 - 1 - j by omega)))
    simp only [this, Bool.and_false]
  have h := stTs_low 32773#16 (BitVec.ofNat 16 k) 8 hmsb 0#16
  have z : stTs 32773#16 8 0#16 = 0#16 := by decide +kernel
  rw [z, BitVec.zero_xor, BitVec.zero_xor] at h
  rw [h]
  apply BitVec.eq_of_toNat_eq; rw [BitVec.toNat_shiftLeft, Nat.shiftLeft_eq, BitVec.toNat_ofNat, BitVec.toNat_ofNat]; omega
theorem b16_self (F : BitVec 16) : b16 (b16 F ((F.toNat / 256 : Nat) : Int)) ((F.toNat % 256 : Nat) : Int) = 0#16 := by
  have hF := F.isLt
  have e : F ^^^ BitVec.ofNat 16 (F.toNat / 256 * 256) = BitVec.ofNat 16 (F.toNat % 256) := by
    apply BitVec.eq_of_getLsbD_eq
    intro i hi
    have m256 : F.toNat / 256 * 256 = (F.toNat >>> 8) * 2 ^ 8 := by rw [Nat.shiftRight_eq_div_pow]
    have o256 : F.toNat % 256 = F.toNat % 2 ^ 8 := rfl
    rw [m256, o256, BitVec.getLsbD_xor, BitVec.getLsbD_ofNat, BitVec.getLsbD_ofNat, Nat.testBit_mul_two_pow, Nat.testBit_mod_two_pow, Nat.testBit_shiftRight]
    by_cases h8 : 8 ≤ i
    · have : ¬ i < 8 := by omega
      have e8 : 8 + (i - 8) = i := by omega
      simp [h8, this, e8, hi, BitVec.testBit_toNat]
    · have : i < 8 := by omega
      simp [h8, this, hi, BitVec.testBit_toNat]
  rw [b16_as, b16_as, e, low_moved _ (by omega), BitVec.xor_self]
  decide +kernel
theorem end16 (l : List Int) (hb : ∀ x ∈ l, Byte x) : crc16 (l ++ [crc16 l / 256, crc16 l % 256]) = 0 := by
  have h := crc16_is l hb
  have hr := crc16_range l hb
  rw [crc16_is _ (by
    intro x hx
    rcases List.mem_append.1 hx with h | h
    · exact hb x h
    · simp only [List.mem_cons, List.not_mem_nil, or_false] at h
      rcases h with h | h <;> (rw [h]; exact ⟨by omega, by omega⟩)), List.foldl_append]
  show ((b16 (b16 (l.foldl b16 0#16) (crc16 l / 256)) (crc16 l % 256)).toNat : Int) = 0
  have e1 : ((l.foldl b16 0#16).toNat : Int) / 256 = (((l.foldl b16 0#16).toNat / 256 : Nat) : Int) := by omega
  have e2 : ((l.foldl b16 0#16).toNat : Int) % 256 = (((l.foldl b16 0#16).toNat % 256 : Nat) : Int) := by omega
  rw [h, e1, e2, b16_self]; rfl
theorem two_reads (w : World) (T : Nat) (x y : Int) : ReadsInt (w.alloc (.cells #[.int .u8 x, .int .u8 y] T)) .u8 (some ⟨w.heap.size, 0, none⟩) 2 [x, y] := by
  refine ⟨rfl, by omega, fun _ => ⟨_, rfl, fun j hj => ?_⟩⟩
  rw [add_plain, World.cell?_alloc_at _ _ _ _ rfl]
  rcases j with _ | _ | j
  · rfl
  · rfl
  · omega
set_option maxHeartbeats 1000000 in
set_option maxRecDepth 100000 in
theorem lawEnd (A : Option Addr) (c : Nat) (l : List Int) (w : World) (hl : ReadsInt w .u8 A l.length l) (hc : l.length ≤ c) (hm : l.length ≤ 140737488351232) (hb : ∀ x ∈ l, Byte x) :
    Calls Try.prog 9 #[.slice A l.length c] w fun e w' => e = .returned (.bool true) ∧ Below w.heap.size w w' := by
  obtain ⟨x, hx⟩ : ∃ x, crc8 l = x := ⟨_, rfl⟩
  obtain ⟨hx0, hx1⟩ : 0 ≤ x ∧ x < 256 := by rw [← hx]; exact crc8_range l hb
  obtain ⟨y, hy⟩ : ∃ y, crc16 l = y := ⟨_, rfl⟩
  obtain ⟨hy0, hy1⟩ : 0 ≤ y ∧ y < 65536 := by rw [← hy]; exact crc16_range l hb
  have HX := Lib.hid hx
  have HY := Lib.hid hy
  have HL := Lib.hid hl
  have HC := Lib.hid hc
  have HB := Lib.hid hb
  have HM := Lib.hid hm
  obtain ⟨n, hn⟩ : ∃ n, l.length = n := ⟨_, rfl⟩
  have HN := Lib.hid hn
  rw [hn] at hm ⊢
  clear hx hy hl hc hb hn
  by_cases h1 : 2147483647 < n
  · go_enter Try.func9, Try.ntmps9
    go_wp2_with fail
    go_ret
    exact ⟨rfl, Below.refl _ _⟩
  · by_cases h2 : 65536 < n
    · go_enter Try.func9, Try.ntmps9
      go_wp2_with fail
      go_ret
      exact ⟨rfl, Below.refl _ _⟩
    · go_enter Try.func9, Try.ntmps9
      go_wp2_with fail
      refine (sum8 A n c l w (by have h := HL.out; rw [HN.out] at h; exact h)).mono ?_
      rintro e w1 ⟨rfl, hb1⟩
      rw [HX.out]
      have HB1 := Lib.hid hb1
      clear hb1
      go_wp2_with fail
      have hr := sum16 A n c l w1 (by have h := HL.out.below HB1.out; rw [HN.out] at h; exact h) HB.out
      rw [HY.out] at hr
      refine hr.mono ?_
      clear hr
      rintro e w2 ⟨rfl, hb2⟩
      have HB2 := Lib.hid (below_then HB1.out HB1.out.size hb2)
      clear hb2
      go_wp2_with (with_reducible refine stop_dst (N := 17) rfl ?_)
      refine unstop ?_
      refine print_append_row (w0 := w) w.heap.size rfl (.tmp 15) (.tmp 16) 31 5 .u8 1 rfl Try.underlying31 info5 (by decide) _ [] l A n c rfl rfl ?aO ?aR ?aB ?aS ?aL ?_
      case aO => exact World.ownsRow_lit (base := w.heap.size) w2 #[] 0 HB2.out.size (by unfold maxLen; omega) (by simp)
      case aR => rw [← HN.out]; exact (HL.out.below HB2.out).below (below_alloc (Below.refl _ _) _)
      case aB => exact below_alloc HB2.out _
      case aS => have := HB2.out.size; simp; omega
      case aL => simp; omega
      intro v1 w3 HO3 hB3 _ _
      rw [List.nil_append] at HO3
      have HO3' := Lib.hid HO3
      have HB3 := Lib.hid hB3
      clear HO3 hB3
      go_wp2_with (with_reducible refine stop_dst (N := 20) rfl ?_)
      refine unstop ?_
      refine print_append_num (w0 := w) w.heap.size rfl (.tmp 17) (.tmp 19) 31 5 .u8 1 rfl Try.underlying31 info5 (by decide) v1 l x rfl rfl HO3'.out HB3.out HB3.out.size (by rw [HN.out]; omega) ?_
      intro v2 w4 HO4 hB4 _ _
      generalize hm4 : (l ++ [x]).length = m4 at HO4
      obtain ⟨A4, c4, rfl, hR4⟩ := own_reads HO4
      have HR4 := Lib.hid hR4
      have HB4 := Lib.hid hB4
      clear HO4 hB4 hR4 hm4
      go_wp2_with fail
      refine (sum8 A4 m4 c4 (l ++ [x]) w4 HR4.out).mono ?_
      rintro e w5 ⟨rfl, hb5⟩
      have HB5 := Lib.hid (below_then HB4.out HB4.out.size hb5)
      clear hb5
      have z8 : crc8 (l ++ [x]) = 0 := by rw [← HX.out]; exact end8 l HB.out
      rw [z8]
      clear z8
      go_wp2_with (with_reducible refine stop_dst (N := 26) rfl ?_)
      refine unstop ?_
      refine gate_guard (by rfl) ?_
      refine print_append_row (w0 := w) w.heap.size rfl (.tmp 24) (.tmp 25) 31 5 .u8 1 rfl Try.underlying31 info5 (by decide) _ [] l A n c rfl rfl ?bO ?bR ?bB ?bS ?bL ?_
      case bO => exact World.ownsRow_lit (base := w.heap.size) w5 #[] 0 HB5.out.size (by unfold maxLen; omega) (by simp)
      case bR => rw [← HN.out]; exact (HL.out.below HB5.out).below (below_alloc (Below.refl _ _) _)
      case bB => exact below_alloc HB5.out _
      case bS => have := HB5.out.size; simp; omega
      case bL => simp; omega
      intro v6 w6 HO6 hB6 _ _
      rw [List.nil_append] at HO6
      have HO6' := Lib.hid HO6
      have HB6 := Lib.hid hB6
      clear HO6 hB6
      go_wp2_with (with_reducible refine stop_dst (N := 33) rfl ?_)
      refine unstop ?_
      refine gate_guard (by rfl) ?_
      refine print_append_row (w0 := w) w.heap.size rfl (.tmp 26) (.tmp 32) 31 5 .u8 1 rfl Try.underlying31 info5 (by decide) v6 l [y / 256, y % 256] (some ⟨w6.heap.size, 0, none⟩) 2 2 rfl rfl ?cO (two_reads w6 _ _ _) (below_alloc HB6.out _) ?cS ?cL ?_
      case cO => exact HO6'.out.alloc _
      case cS => have := HB6.out.size; simp; omega
      case cL => rw [HN.out]; omega
      intro v7 w7 HO7 hB7 _ _
      generalize hm7 : (l ++ [y / 256, y % 256]).length = m7 at HO7
      obtain ⟨A7, c7, rfl, hR7⟩ := own_reads HO7
      have HR7 := Lib.hid hR7
      have HB7 := Lib.hid hB7
      clear HO7 hB7 hR7 hm7
      go_wp2_with fail
      refine (sum16 A7 m7 c7 (l ++ [y / 256, y % 256]) w7 HR7.out ?_).mono ?_
      · intro z hz
        rcases List.mem_append.1 hz with h | h
        · exact HB.out z h
        · simp only [List.mem_cons, List.not_mem_nil, or_false] at h
          rcases h with h | h <;> (rw [h]; exact ⟨by omega, by omega⟩)
      rintro e w8 ⟨rfl, hb8⟩
      have HB8 := Lib.hid (below_then HB7.out HB7.out.size hb8)
      clear hb8
      have z16 : crc16 (l ++ [y / 256, y % 256]) = 0 := by rw [← HY.out]; exact end16 l HB.out
      rw [z16]
      clear z16
      go_wp2_with fail
      refine (sum8 _ _ _ [1] _ (one_reads w8 _)).mono ?_
      rintro e w9 ⟨rfl, hb9⟩
      have HB9 := Lib.hid (below_then (below_alloc HB8.out _) (below_alloc HB8.out _).size hb9)
      clear hb9
      rw [one8]
      go_wp2_with fail
      go_ret
      exact ⟨rfl, HB9.out⟩

theorem topEnd (A : Option Addr) (c : Nat) (l : List Int) (w : World) (hl : ReadsInt w .u8 A l.length l) (hc : l.length ≤ c) (y : l.length * 1 ≤ 140737488351232) (hw : ∀ x ∈ l, (Lit.int .u8 x).wf = true) :
    Calls Try.prog 9 #[.slice A l.length c] w fun e w' => e = .returned (.bool true) ∧ Below w.heap.size w w' :=
  lawEnd A c l w hl hc (by omega) (byte_of_wf l hw)
end Go.Proofs.Ytjfibofjbofpbaa.CrcL
