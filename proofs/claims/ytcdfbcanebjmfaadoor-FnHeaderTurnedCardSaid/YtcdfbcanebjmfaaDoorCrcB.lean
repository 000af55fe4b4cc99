/- The table of a sum, made anew: makeTable of both sums lays 256 numbers, each by eight steps. -/
/- Update of both sums: over a table that lies in memory and a slice of bytes it tells a fold over the bytes and writes nothing. -/
import Derived.Test.YtcdfbcanebjmfaaDoorProg
import Derived.WalkKit
import Derived.KernelRfl
import Derived.Deep.LoopGhost
import Derived.WalkLawsBesides
import Derived.WalkSpells
import Derived.Lib.Hide
import Derived.Test.YtcdfbcanebjmfaaDoorWWords
namespace Go.Proofs.YtcdfbcanebjmfaaDoor.Crc
open Go.RowKit

/-- A table of 256 numbers of which the first k are laid. -/
def tabA (kd : IntKind) (f : Nat → Int) (k : Nat) : Array Value := ((List.range 256).map fun j => Value.int kd (if j < k then f j else 0)).toArray
theorem tabA_size (kd : IntKind) (f : Nat → Int) (k : Nat) : (tabA kd f k).size = 256 := by simp [tabA]
theorem tabA_get (kd : IntKind) (f : Nat → Int) (k j : Nat) (hj : j < 256) : (tabA kd f k)[j]? = some (.int kd (if j < k then f j else 0)) := by
  simp [tabA, hj]
theorem tabA_put (kd : IntKind) (f : Nat → Int) (k : Nat) (hk : k < 256) : (tabA kd f k).setIfInBounds k (.int kd (f k)) = tabA kd f (k + 1) := by
  apply Array.ext_getElem?
  intro j
  by_cases hj : j < 256
  · rw [tabA_get _ _ _ _ hj, Array.getElem?_setIfInBounds]
    by_cases e : k = j
    · subst e; simp [tabA_size, hk]
    · rw [if_neg e, tabA_get _ _ _ _ hj]
      by_cases h : j < k
      · rw [if_pos h, if_pos (by omega)]
      · rw [if_neg h, if_neg (by omega)]
  · rw [Array.getElem?_eq_none (by simp [tabA_size]; omega), Array.getElem?_eq_none (by simp [tabA_size]; omega)]

theorem zero8' (w : World) : Sem.run Tryd.prog (zeroValue 140) w = .ok (.agg (tabA .u8 (fun _ => 0) 0)) w := by kernel_rfl
theorem zero8 (w : World) (f : Nat → Int) : Sem.run Tryd.prog (zeroValue 140) w = .ok (.agg (tabA .u8 f 0)) w := by
  have e : tabA .u8 f 0 = tabA .u8 (fun _ => 0) 0 := by simp [tabA]
  rw [e]
  exact zero8' w

/-- One step of the sum over 8 bits. -/
def st8 (p c : Int) : Int := if (Go.bits .and .u8 c 128 != 0) = true then Go.bits .xor .u8 (c * 2 % 256) p else c * 2 % 256
def sts8 (p : Int) : Nat → Int → Int
  | 0, c => c
  | n + 1, c => st8 p (sts8 p n c)
def f8 (p : Int) (j : Nat) : Int := sts8 p 8 j

def Tab8 (p : Int) (w wr : World) (k : Nat) : Prop := Below w.heap.size w wr ∧ wr.heap.size = w.heap.size + 1 ∧ wr.heap[w.heap.size]? = some (.cells (tabA .u8 (f8 p) k) 140 (0, 0))

set_option maxHeartbeats 400000 in
set_option maxRecDepth 100000 in
theorem mk8 (p : Int) (w : World) : Calls Tryd.prog 37 #[.int .u8 p] w fun e w' => e = .returned (.pointer (some ⟨w.heap.size, 0, none⟩)) ∧ Tab8 p w w' 256 := by
  have hz : ∀ w', Sem.run Tryd.prog (zeroValue 140) w' = .ok (.agg (tabA .u8 (f8 p) 0)) w' := fun w' => zero8 w' _
  go_enter Tryd.func37, Tryd.ntmps37
  go_wp2
  clear hz
  go_loopw [7] (fun i wr => ∃ k : Nat, k ≤ 256 ∧ i = .int .i64 k ∧ Tab8 p w wr k) (fun i _ => 256 - (intOf i).toNat)
  case atStart =>
    refine ⟨0, by omega, rfl, (Below.refl _ _).alloc (Nat.le_refl _) _, by simp, ?_⟩
    show (w.heap.push _)[w.heap.size]? = _
    rw [Array.getElem?_push_size]
  case round =>
    obtain ⟨k, hk, rfl, hb, hsz, hrow⟩ := hrel
    by_cases hlt : k < 256
    · go_wp2
      have HR := Lib.hid hrow
      clear hrow
      go_loop [4, 5] (fun c j => ∃ m : Nat, m ≤ 8 ∧ j = .int .i64 m ∧ c = .int .u8 (sts8 p m k)) (fun _ j => 8 - (intOf j).toNat)
      case atStart => exact ⟨0, by omega, rfl, rfl⟩
      case round =>
        obtain ⟨m, hm, rfl, rfl⟩ := hrel
        by_cases hl2 : m < 8
        · by_cases hc : (Go.bits .and .u8 (sts8 p m k) 128 != 0) = true
          · go_wp2
            go_round
            case rel => exact ⟨m + 1, by omega, by go_num, by simp only [sts8, st8, if_pos hc]⟩
            case measure => simp [intOf]; omega
          · have hc' : (Go.bits .and .u8 (sts8 p m k) 128 != 0) = false := by simpa using hc
            go_wp2
            go_round
            case rel => exact ⟨m + 1, by omega, by go_num, by simp only [sts8, st8, if_neg hc]⟩
            case measure => simp [intOf]; omega
        · obtain rfl : m = 8 := by omega
          have hcell : wr.cell? ⟨w.heap.size, k, none⟩ = some (.int .u8 0) := by
            rw [cell_of_row wr _ k _ _ (0, 0) HR.out, tabA_get _ _ _ _ hlt, if_neg (by omega)]
          have hfz : wr.frozen? ⟨w.heap.size, k, none⟩ = false := by simp [World.frozen?, HR.out]
          go_wp2
          go_roundw
          case rel =>
            refine ⟨k + 1, by omega, by go_num, hb.setCell (Nat.le_refl _) _, by simp [World.setCell, hsz], ?_⟩
            show (wr.setCell ⟨w.heap.size, k, none⟩ (.int .u8 (f8 p k))).heap[w.heap.size]? = _
            simp only [World.setCell, Array.getElem?_modify, if_true, HR.out]
            simp [tabA_put _ _ _ hlt]
          case measure => simp [intOf]; omega
    · obtain rfl : k = 256 := by omega
      go_wp2
      go_ret
      exact ⟨rfl, hb, hsz, hrow⟩

theorem zero16' (w : World) : Sem.run Tryd.prog (zeroValue 121) w = .ok (.agg (tabA .u16 (fun _ => 0) 0)) w := by kernel_rfl
theorem zero16 (w : World) (f : Nat → Int) : Sem.run Tryd.prog (zeroValue 121) w = .ok (.agg (tabA .u16 f 0)) w := by
  have e : tabA .u16 f 0 = tabA .u16 (fun _ => 0) 0 := by simp [tabA]
  rw [e]
  exact zero16' w

/-- One step of the sum over 16 bits. -/
def st16 (p c : Int) : Int := if (Go.bits .and .u16 c 32768 != 0) = true then Go.bits .xor .u16 (IntKind.u16.wrap (c * 2)) p else IntKind.u16.wrap (c * 2)
def sts16 (p : Int) : Nat → Int → Int
  | 0, c => c
  | n + 1, c => st16 p (sts16 p n c)
def f16 (p : Int) (j : Nat) : Int := sts16 p 8 (j * 256)

def Tab16 (p : Int) (w wr : World) (k : Nat) : Prop := Below w.heap.size w wr ∧ wr.heap.size = w.heap.size + 1 ∧ wr.heap[w.heap.size]? = some (.cells (tabA .u16 (f16 p) k) 121 (0, 0))

set_option maxHeartbeats 400000 in
set_option maxRecDepth 100000 in
theorem mk16 (p : Int) (w : World) : Calls Tryd.prog 24 #[.int .u16 p] w fun e w' => e = .returned (.pointer (some ⟨w.heap.size, 0, none⟩)) ∧ Tab16 p w w' 256 := by
  have hz : ∀ w', Sem.run Tryd.prog (zeroValue 121) w' = .ok (.agg (tabA .u16 (f16 p) 0)) w' := fun w' => zero16 w' _
  go_enter Tryd.func24, Tryd.ntmps24
  go_wp2
  clear hz
  go_loopw [7] (fun i wr => ∃ k : Nat, k ≤ 256 ∧ i = .int .i64 k ∧ Tab16 p w wr k) (fun i _ => 256 - (intOf i).toNat)
  case atStart =>
    refine ⟨0, by omega, rfl, (Below.refl _ _).alloc (Nat.le_refl _) _, by simp, ?_⟩
    show (w.heap.push _)[w.heap.size]? = _
    rw [Array.getElem?_push_size]
  case round =>
    obtain ⟨k, hk, rfl, hb, hsz, hrow⟩ := hrel
    by_cases hlt : k < 256
    · go_wp2
      have HR := Lib.hid hrow
      clear hrow
      go_loop [4, 5] (fun c j => ∃ m : Nat, m ≤ 8 ∧ j = .int .i64 m ∧ c = .int .u16 (sts16 p m (k * 256))) (fun _ j => 8 - (intOf j).toNat)
      case atStart => exact ⟨0, by omega, rfl, rfl⟩
      case round =>
        obtain ⟨m, hm, rfl, rfl⟩ := hrel
        by_cases hl2 : m < 8
        · by_cases hc : (Go.bits .and .u16 (sts16 p m (k * 256)) 32768 != 0) = true
          · go_wp2
            go_round
            case rel => exact ⟨m + 1, by omega, by go_num, by simp only [sts16, st16, if_pos hc]⟩
            case measure => simp [intOf]; omega
          · have hc' : (Go.bits .and .u16 (sts16 p m (k * 256)) 32768 != 0) = false := by simpa using hc
            go_wp2
            go_round
            case rel => exact ⟨m + 1, by omega, by go_num, by simp only [sts16, st16, if_neg hc]⟩
            case measure => simp [intOf]; omega
        · obtain rfl : m = 8 := by omega
          have hcell : wr.cell? ⟨w.heap.size, k, none⟩ = some (.int .u16 0) := by
            rw [cell_of_row wr _ k _ _ (0, 0) HR.out, tabA_get _ _ _ _ hlt, if_neg (by omega)]
          have hfz : wr.frozen? ⟨w.heap.size, k, none⟩ = false := by simp [World.frozen?, HR.out]
          go_wp2
          go_roundw
          case rel =>
            refine ⟨k + 1, by omega, by go_num, hb.setCell (Nat.le_refl _) _, by simp [World.setCell, hsz], ?_⟩
            show (wr.setCell ⟨w.heap.size, k, none⟩ (.int .u16 (f16 p k))).heap[w.heap.size]? = _
            simp only [World.setCell, Array.getElem?_modify, if_true, HR.out]
            simp [tabA_put _ _ _ hlt]
          case measure => simp [intOf]; omega
    · obtain rfl : k = 256 := by omega
      go_wp2
      go_ret
      exact ⟨rfl, hb, hsz, hrow⟩
end Go.Proofs.YtcdfbcanebjmfaaDoor.Crc
namespace Go.Proofs.YtcdfbcanebjmfaaDoor.Crc
open Go.RowKit Go.Proofs.YtcdfbcanebjmfaaDoorW.PrintWords

theorem ret_int {k : IntKind} {a b : Int} (h : a = b) : Ending.returned (.int k a) = .returned (.int k b) := by rw [h]
def up8 (t : Nat → Int) (c : Int) (l : List Int) : Int := l.foldl (fun c v => t (Go.bits .xor .u8 c v).toNat) c

def Byte (x : Int) : Prop := 0 ≤ x ∧ x ≤ 255

theorem take_step (l : List Int) (k : Nat) (hk : k < l.length) : l.take (k + 1) = l.take k ++ [l.getD k 0] := by
  rw [List.take_add_one, List.getElem?_eq_getElem hk, List.getD_eq_getElem?_getD, List.getElem?_eq_getElem hk]; rfl
theorem up8_step (t : Nat → Int) (c : Int) (l : List Int) (k : Nat) (hk : k < l.length) : up8 t c (l.take (k + 1)) = t (Go.bits .xor .u8 (up8 t c (l.take k)) (l.getD k 0)).toNat := by
  rw [take_step l k hk, up8, List.foldl_append]; rfl

theorem xor_byte (a b : Int) : 0 ≤ Go.bits .xor .u8 a b ∧ Go.bits .xor .u8 a b < 256 := by
  have h : Go.bits .xor .u8 a b = IntKind.u8.wrap ((BitVec.ofInt 8 a ^^^ BitVec.ofInt 8 b).toNat : Int) := rfl
  rw [h, IntKind.wrap_u8']; omega

set_option maxHeartbeats 400000 in
set_option maxRecDepth 100000 in
theorem upd8 (t : Nat → Int) (c : Int) (g : Nat) (A : Option Addr) (n cap : Nat) (l : List Int) (w : World) (hl : ReadsInt w .u8 A n l)
    (hg : w.heap[g]? = some (.cells (tabA .u8 t 256) 140 (0, 0))) :
    Calls Tryd.prog 80 #[.int .u8 c, .pointer (some ⟨g, 0, none⟩), .slice A n cap] w fun e w' => e = .returned (.int .u8 (up8 t c l)) ∧ w = w' := by
  obtain ⟨hlen, hmax, hcell⟩ := hl
  have HG := Lib.hid hg
  have HC := Lib.hid hcell
  have HL := Lib.hid hlen
  clear hg hcell hlen
  go_enter Tryd.func80, Tryd.ntmps80
  go_wp2
  go_loop [0, 11] (fun x i => ∃ k : Nat, k ≤ n ∧ i = .int .i64 k ∧ x = .int .u8 (up8 t c (l.take k))) (fun _ i => n - (intOf i).toNat)
  case atStart => exact ⟨0, by omega, rfl, rfl⟩
  case round =>
    obtain ⟨k, hk, rfl, rfl⟩ := hrel
    by_cases hlt : k < n
    · obtain ⟨ad, rfl, hc⟩ := HC.out (by omega)
      have c1 : w.cell? (ad.add k) = some (.int .u8 (l.getD k 0)) := hc k hlt
      clear hc
      obtain ⟨v, hv⟩ : ∃ v, l.getD k 0 = v := ⟨_, rfl⟩
      rw [hv] at c1
      obtain ⟨u, hu⟩ : ∃ u, up8 t c (l.take k) = u := ⟨_, rfl⟩
      obtain ⟨j, hj, hj1⟩ : ∃ j : Nat, Go.bits .xor .u8 u v = (j : Int) ∧ j < 256 := by
        have := xor_byte u v
        exact ⟨(Go.bits .xor .u8 u v).toNat, by omega, by omega⟩
      have c2 : w.cell? ⟨g, j, none⟩ = some (.int .u8 (t j)) := by
        rw [cell_of_row w _ j _ _ (0, 0) HG.out, tabA_get _ _ _ _ hj1, if_pos hj1]
      have hs : up8 t c (l.take (k + 1)) = t j := by
        rw [up8_step t c l k (by rw [HL.out]; exact hlt), hu, hv, hj]; rfl
      have HS := Lib.hid hs
      have HU := Lib.hid hu
      have HV := Lib.hid hv
      clear hs hv
      rw [hu]
      clear hu
      go_wp2
      go_round
      case rel => exact ⟨k + 1, by omega, by go_num, by rw [HS.out]⟩
      case measure => simp [intOf]; omega
    · have hfin : up8 t c (l.take k) = up8 t c l := by rw [List.take_of_length_le (by rw [HL.out]; omega)]
      have HF := Lib.hid hfin
      clear hfin
      go_wp2
      go_ret
      exact ⟨ret_int HF.out, rfl⟩

theorem xor_word (a b : Int) : 0 ≤ Go.bits .xor .u16 a b ∧ Go.bits .xor .u16 a b < 65536 := by
  have h : Go.bits .xor .u16 a b = IntKind.u16.wrap ((BitVec.ofInt 16 a ^^^ BitVec.ofInt 16 b).toNat : Int) := rfl
  rw [h, IntKind.wrap_u16]; omega

theorem xor_low (a b : Int) (ha : 0 ≤ a) (ha1 : a < 256) (hb : 0 ≤ b) (hb1 : b < 256) : 0 ≤ Go.bits .xor .u16 a b ∧ Go.bits .xor .u16 a b < 256 := by
  rw [u16_xor a b ha (by omega) hb (by omega)]
  have := Nat.xor_lt_two_pow (n := 8) (x := a.toNat) (y := b.toNat) (by omega) (by omega)
  omega

def s16 (t : Nat → Int) (c v : Int) : Int := Go.bits .xor .u16 (IntKind.u16.wrap (c * 256)) (t (Go.bits .xor .u16 (c / 256) v).toNat)
def up16 (t : Nat → Int) (c : Int) (l : List Int) : Int := l.foldl (s16 t) c
theorem up16_step (t : Nat → Int) (c : Int) (l : List Int) (k : Nat) (hk : k < l.length) : up16 t c (l.take (k + 1)) = s16 t (up16 t c (l.take k)) (l.getD k 0) := by
  rw [take_step l k hk, up16, List.foldl_append]; rfl
theorem up16_range (t : Nat → Int) (c : Int) (hc : 0 ≤ c ∧ c < 65536) (l : List Int) : 0 ≤ up16 t c l ∧ up16 t c l < 65536 := by
  induction l generalizing c with
  | nil => exact hc
  | cons v l ih => exact ih _ (xor_word _ _)

set_option maxHeartbeats 400000 in
set_option maxRecDepth 100000 in
theorem upd16 (t : Nat → Int) (c : Int) (hc : 0 ≤ c ∧ c < 65536) (g : Nat) (A : Option Addr) (n cap : Nat) (l : List Int) (w : World) (hl : ReadsInt w .u8 A n l)
    (hb : ∀ x ∈ l, Byte x) (hg : w.heap[g]? = some (.cells (tabA .u16 t 256) 121 (0, 0))) :
    Calls Tryd.prog 72 #[.int .u16 c, .pointer (some ⟨g, 0, none⟩), .slice A n cap] w fun e w' => e = .returned (.int .u16 (up16 t c l)) ∧ w = w' := by
  obtain ⟨hlen, hmax, hcell⟩ := hl
  have HG := Lib.hid hg
  have HC := Lib.hid hcell
  have HL := Lib.hid hlen
  have HB := Lib.hid hb
  have HR := Lib.hid (up16_range t c hc)
  clear hg hcell hlen hb hc
  go_enter Tryd.func72, Tryd.ntmps72
  go_wp2
  go_loop [0, 11] (fun x i => ∃ k : Nat, k ≤ n ∧ i = .int .i64 k ∧ x = .int .u16 (up16 t c (l.take k))) (fun _ i => n - (intOf i).toNat)
  case atStart => exact ⟨0, by omega, rfl, rfl⟩
  case round =>
    obtain ⟨k, hk, rfl, rfl⟩ := hrel
    by_cases hlt : k < n
    · obtain ⟨ad, rfl, hc⟩ := HC.out (by omega)
      have c1 : w.cell? (ad.add k) = some (.int .u8 (l.getD k 0)) := hc k hlt
      clear hc
      obtain ⟨v, hv⟩ : ∃ v, l.getD k 0 = v := ⟨_, rfl⟩
      have hv0 : 0 ≤ v ∧ v ≤ 255 := by
        rw [← hv, List.getD_eq_getElem?_getD, List.getElem?_eq_getElem (by rw [HL.out]; exact hlt)]
        exact HB.out _ (List.getElem_mem _)
      obtain ⟨hv0, hv1⟩ := hv0
      rw [hv] at c1
      obtain ⟨u, hu⟩ : ∃ u, up16 t c (l.take k) = u := ⟨_, rfl⟩
      have hu0 : 0 ≤ u ∧ u < 65536 := by rw [← hu]; exact HR.out _
      obtain ⟨hu0, hu1⟩ := hu0
      obtain ⟨j, hj, hj1⟩ : ∃ j : Nat, Go.bits .xor .u16 (u / 256) v = (j : Int) ∧ j < 256 := by
        have := xor_low (u / 256) v (by omega) (by omega) hv0 (by omega)
        exact ⟨(Go.bits .xor .u16 (u / 256) v).toNat, by omega, by omega⟩
      have c2 : w.cell? ⟨g, j, none⟩ = some (.int .u16 (t j)) := by
        rw [cell_of_row w _ j _ _ (0, 0) HG.out, tabA_get _ _ _ _ hj1, if_pos hj1]
      have hs : up16 t c (l.take (k + 1)) = Go.bits .xor .u16 (IntKind.u16.wrap (u * 256)) (t j) := by
        rw [up16_step t c l k (by rw [HL.out]; exact hlt), hu, hv, s16, hj]; rfl
      have hw : IntKind.u16.wrap v = v := by rw [IntKind.wrap_u16]; omega
      have HS := Lib.hid hs
      have HU := Lib.hid hu
      have HV := Lib.hid hv
      clear hs hv
      rw [hu]
      clear hu
      go_wp2
      go_round
      case rel => exact ⟨k + 1, by omega, by go_num, by rw [HS.out]⟩
      case measure => simp [intOf]; omega
    · have hfin : up16 t c (l.take k) = up16 t c l := by rw [List.take_of_length_le (by rw [HL.out]; omega)]
      have HF := Lib.hid hfin
      clear hfin
      go_wp2
      go_ret
      exact ⟨ret_int HF.out, rfl⟩
def crc8 (l : List Int) : Int := up8 (f8 7) 0 l
def crc16 (l : List Int) : Int := up16 (f16 32773) 0 l
end Go.Proofs.YtcdfbcanebjmfaaDoor.Crc
