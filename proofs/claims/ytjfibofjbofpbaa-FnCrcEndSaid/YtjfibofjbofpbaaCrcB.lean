/- Update of both sums: over a table that lies in memory and a slice of bytes it tells a fold over the bytes and writes nothing. -/
import Derived.Test.YtjfibofjbofpbaaWWords
import Derived.Test.YtjfibofjbofpbaaProg
import Derived.WalkKit
import Derived.KernelRfl
import Derived.Deep.LoopGhost
import Derived.WalkLawsBesides
import Derived.WalkSpells
import Derived.Lib.Hide
import Derived.Test.YtjfibofjbofpbaaCrcA
namespace Go.Proofs.Ytjfibofjbofpbaa.Crc
open Go.RowKit Go.Proofs.YtjfibofjbofpbaaW.PrintWords

theorem ret_int {k : IntKind} {a b : Int} (h : a = b) : Ending.returned (.int k a) = .returned (.int k b) := by rw [h]
def up8 (t : Nat → Int) (c : Int) (l : List Int) : Int := l.foldl (fun c v => t (Go.bits .xor .u8 c v).toNat) c

def Byte (x : Int) : Prop := 0 ≤ x ∧ x ≤ 255

theorem take_step (l : List Int) (k : Nat) (hk : k < l.length) : l.take (k + 1) = l.take k ++ [l.getD k 0] := by
  rw [List.take_add_one, List.getElem?_eq_getElem hk, List.getD_eq_getElem?_getD, List.getElem?_eq_getElem hk]; rfl
theorem up8_step (t : Nat → Int) (c : Int) (l : List Int) (k : Nat) (hk : k < l.length) : up8 t c (l.take (k + 1)) = t (Go.bits .xor .u8 (up8 t c (l.take k)) (l.getD k 0)).toNat := by
  rw [take_step l k hk, up8, List.foldl_append]; rfl

theorem xor_byte (a b : Int) : 0 ≤ Go.bits .xor .u8 a b ∧ Go.bits .xor .u8 a b < 256 := by
  have h : Go.bits .xor .u8 a b = IntKind.u8.wrap ((BitVec.ofInt 8 a ^^^ BitVec.ofInt 8 b).toNat : Int) := rfl
  rw [h, IntKind.wrap_u8']; omega

set_option maxHeartbeats 400000 in
set_option maxRecDepth 100000 in
theorem upd8 (t : Nat → Int) (c : Int) (g : Nat) (A : Option Addr) (n cap : Nat) (l : List Int) (w : World) (hl : ReadsInt w .u8 A n l)
    (hg : w.heap[g]? = some (.cells (tabA .u8 t 256) 49 (0, 0))) :
    Calls Try.prog 27 #[.int .u8 c, .pointer (some ⟨g, 0, none⟩), .slice A n cap] w fun e w' => e = .returned (.int .u8 (up8 t c l)) ∧ w = w' := by
  obtain ⟨hlen, hmax, hcell⟩ := hl
  have HG := Lib.hid hg
  have HC := Lib.hid hcell
  have HL := Lib.hid hlen
  clear hg hcell hlen
  go_enter Try.func27, Try.ntmps27
  go_wp2
  go_loop [0, 11] (fun x i => ∃ k : Nat, k ≤ n ∧ i = .int .i64 k ∧ x = .int .u8 (up8 t c (l.take k))) (fun _ i => n - (intOf i).toNat)
  case atStart => exact ⟨0, by omega, rfl, rfl⟩
  case round =>
    obtain ⟨k, hk, rfl, rfl⟩ := hrel
    by_cases hlt : k < n
    · obtain ⟨ad, rfl, hc⟩ := HC.out (by omega)
      have c1 : w.cell? (ad.add k) = some (.int .u8 (l.getD k 0)) := hc k hlt
      clear hc
      obtain ⟨v, hv⟩ : ∃ v, l.getD k 0 = v := ⟨_, rfl⟩
      rw [hv] at c1
      obtain ⟨u, hu⟩ : ∃ u, up8 t c (l.take k) = u := ⟨_, rfl⟩
      obtain ⟨j, hj, hj1⟩ : ∃ j : Nat, Go.bits .xor .u8 u v = (j : Int) ∧ j < 256 := by
        have := xor_byte u v
        exact ⟨(Go.bits .xor .u8 u v).toNat, by omega, by omega⟩
      have c2 : w.cell? ⟨g, j, none⟩ = some (.int .u8 (t j)) := by
        rw [cell_of_row w _ j _ _ (0, 0) HG.out, tabA_get _ _ _ _ hj1, if_pos hj1]
      have hs : up8 t c (l.take (k + 1)) = t j := by
        rw [up8_step t c l k (by rw [HL.out]; exact hlt), hu, hv, hj]; rfl
      have HS := Lib.hid hs
      have HU := Lib.hid hu
      have HV := Lib.hid hv
      clear hs hv
      rw [hu]
      clear hu
      go_wp2
      go_round
      case rel => exact ⟨k + 1, by omega, by go_num, by rw [HS.out]⟩
      case measure => simp [intOf]; omega
    · have hfin : up8 t c (l.take k) = up8 t c l := by rw [List.take_of_length_le (by rw [HL.out]; omega)]
      have HF := Lib.hid hfin
      clear hfin
      go_wp2
      go_ret
      exact ⟨ret_int HF.out, rfl⟩

theorem xor_word (a b : Int) : 0 ≤ Go.bits .xor .u16 a b ∧ Go.bits .xor .u16 a b < 65536 := by
  have h : Go.bits .xor .u16 a b = IntKind.u16.wrap ((BitVec.ofInt 16 a ^^^ BitVec.ofInt 16 b).toNat : Int) := rfl
  rw [h, IntKind.wrap_u16]; omega

theorem xor_low (a b : Int) (ha : 0 ≤ a) (ha1 : a < 256) (hb : 0 ≤ b) (hb1 : b < 256) : 0 ≤ Go.bits .xor .u16 a b ∧ Go.bits .xor .u16 a b < 256 := by
  rw [u16_xor a b ha (by omega) hb (by omega)]
  have := Nat.xor_lt_two_pow (n := 8) (x := a.toNat) (y := b.toNat) (by omega) (by omega)
  omega

def s16 (t : Nat → Int) (c v : Int) : Int := Go.bits .xor .u16 (IntKind.u16.wrap (c * 256)) (t (Go.bits .xor .u16 (c / 256) v).toNat)
def up16 (t : Nat → Int) (c : Int) (l : List Int) : Int := l.foldl (s16 t) c
theorem up16_step (t : Nat → Int) (c : Int) (l : List Int) (k : Nat) (hk : k < l.length) : up16 t c (l.take (k + 1)) = s16 t (up16 t c (l.take k)) (l.getD k 0) := by
  rw [take_step l k hk, up16, List.foldl_append]; rfl
theorem up16_range (t : Nat → Int) (c : Int) (hc : 0 ≤ c ∧ c < 65536) (l : List Int) : 0 ≤ up16 t c l ∧ up16 t c l < 65536 := by
  induction l generalizing c with
  | nil => exact hc
  | cons v l ih => exact ih _ (xor_word _ _)

set_option maxHeartbeats 400000 in
set_option maxRecDepth 100000 in
theorem upd16 (t : Nat → Int) (c : Int) (hc : 0 ≤ c ∧ c < 65536) (g : Nat) (A : Option Addr) (n cap : Nat) (l : List Int) (w : World) (hl : ReadsInt w .u8 A n l)
    (hb : ∀ x ∈ l, Byte x) (hg : w.heap[g]? = some (.cells (tabA .u16 t 256) 47 (0, 0))) :
    Calls Try.prog 25 #[.int .u16 c, .pointer (some ⟨g, 0, none⟩), .slice A n cap] w fun e w' => e = .returned (.int .u16 (up16 t c l)) ∧ w = w' := by
  obtain ⟨hlen, hmax, hcell⟩ := hl
  have HG := Lib.hid hg
  have HC := Lib.hid hcell
  have HL := Lib.hid hlen
  have HB := Lib.hid hb
  have HR := Lib.hid (up16_range t c hc)
  clear hg hcell hlen hb hc
  go_enter Try.func25, Try.ntmps25
  go_wp2
  go_loop [0, 11] (fun x i => ∃ k : Nat, k ≤ n ∧ i = .int .i64 k ∧ x = .int .u16 (up16 t c (l.take k))) (fun _ i => n - (intOf i).toNat)
  case atStart => exact ⟨0, by omega, rfl, rfl⟩
  case round =>
    obtain ⟨k, hk, rfl, rfl⟩ := hrel
    by_cases hlt : k < n
    · obtain ⟨ad, rfl, hc⟩ := HC.out (by omega)
      have c1 : w.cell? (ad.add k) = some (.int .u8 (l.getD k 0)) := hc k hlt
      clear hc
      obtain ⟨v, hv⟩ : ∃ v, l.getD k 0 = v := ⟨_, rfl⟩
      have hv0 : 0 ≤ v ∧ v ≤ 255 := by
        rw [← hv, List.getD_eq_getElem?_getD, List.getElem?_eq_getElem (by rw [HL.out]; exact hlt)]
        exact HB.out _ (List.getElem_mem _)
      obtain ⟨hv0, hv1⟩ := hv0
      rw [hv] at c1
      obtain ⟨u, hu⟩ : ∃ u, up16 t c (l.take k) = u := ⟨_, rfl⟩
      have hu0 : 0 ≤ u ∧ u < 65536 := by rw [← hu]; exact HR.out _
      obtain ⟨hu0, hu1⟩ := hu0
      obtain ⟨j, hj, hj1⟩ : ∃ j : Nat, Go.bits .xor .u16 (u / 256) v = (j : Int) ∧ j < 256 := by
        have := xor_low (u / 256) v (by omega) (by omega) hv0 (by omega)
        exact ⟨(Go.bits .xor .u16 (u / 256) v).toNat, by omega, by omega⟩
      have c2 : w.cell? ⟨g, j, none⟩ = some (.int .u16 (t j)) := by
        rw [cell_of_row w _ j _ _ (0, 0) HG.out, tabA_get _ _ _ _ hj1, if_pos hj1]
      have hs : up16 t c (l.take (k + 1)) = Go.bits .xor .u16 (IntKind.u16.wrap (u * 256)) (t j) := by
        rw [up16_step t c l k (by rw [HL.out]; exact hlt), hu, hv, s16, hj]; rfl
      have hw : IntKind.u16.wrap v = v := by rw [IntKind.wrap_u16]; omega
      have HS := Lib.hid hs
      have HU := Lib.hid hu
      have HV := Lib.hid hv
      clear hs hv
      rw [hu]
      clear hu
      go_wp2
      go_round
      case rel => exact ⟨k + 1, by omega, by go_num, by rw [HS.out]⟩
      case measure => simp [intOf]; omega
    · have hfin : up16 t c (l.take k) = up16 t c l := by rw [List.take_of_length_le (by rw [HL.out]; omega)]
      have HF := Lib.hid hfin
      clear hfin
      go_wp2
      go_ret
      exact ⟨ret_int HF.out, rfl⟩
end Go.Proofs.Ytjfibofjbofpbaa.Crc
