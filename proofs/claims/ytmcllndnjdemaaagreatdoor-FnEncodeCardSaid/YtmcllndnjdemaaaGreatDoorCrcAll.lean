/- The table of a sum, made anew: makeTable of both sums lays 256 numbers, each by eight steps. -/
import Derived.Test.YtmcllndnjdemaaaGreatDoorProg
import Derived.WalkKit
import Derived.KernelRfl
import Derived.Deep.LoopGhost
import Derived.WalkLawsBesides
import Derived.WalkSpells
import Derived.Lib.Hide
import Derived.Test.YtmcllndnjdemaaaGreatDoorWAll
import Derived.Test.YtmcllndnjdemaaaGreatDoorBase
import Derived.Deep.RegionWith
import Derived.Outline
namespace Go.Proofs.YtmcllndnjdemaaaGreatDoor.Crc
open Go.RowKit
def tabA (kd : IntKind) (f : Nat → Int) (k : Nat) : Array Value := ((List.range 256).map fun j => Value.int kd (if j < k then f j else 0)).toArray
theorem tabA_size (kd : IntKind) (f : Nat → Int) (k : Nat) : (tabA kd f k).size = 256 := by simp [tabA]
theorem tabA_get (kd : IntKind) (f : Nat → Int) (k j : Nat) (hj : j < 256) : (tabA kd f k)[j]? = some (.int kd (if j < k then f j else 0)) := by
 simp [tabA, hj]
theorem tabA_put (kd : IntKind) (f : Nat → Int) (k : Nat) (hk : k < 256) : (tabA kd f k).setIfInBounds k (.int kd (f k)) = tabA kd f (k + 1) := by
 apply Array.ext_getElem?
 intro j
 by_cases hj : j < 256
 ·rw [tabA_get _ _ _ _ hj, Array.getElem?_setIfInBounds]
  by_cases e : k = j
  ·subst e; simp [tabA_size, hk]
  ·rw [if_neg e, tabA_get _ _ _ _ hj]
   by_cases h : j < k
   ·rw [if_pos h, if_pos (by omega)]
   ·rw [if_neg h, if_neg (by omega)]
 ·rw [Array.getElem?_eq_none (by simp [tabA_size]; omega), Array.getElem?_eq_none (by simp [tabA_size]; omega)]
theorem zero8' (w : World) : Sem.run Tryz.prog (zeroValue 255) w = .ok (.agg (tabA .u8 (fun _ => 0) 0)) w := by kernel_rfl
theorem zero8 (w : World) (f : Nat → Int) : Sem.run Tryz.prog (zeroValue 255) w = .ok (.agg (tabA .u8 f 0)) w := by
 have e : tabA .u8 f 0 = tabA .u8 (fun _ => 0) 0 := by simp [tabA]
 rw [e]
 exact zero8' w
def st8 (p c : Int) : Int := if (Go.bits .and .u8 c 128 != 0) = true then Go.bits .xor .u8 (c * 2 % 256) p else c * 2 % 256
def sts8 (p : Int) : Nat → Int → Int
 | 0, c => c
 | n + 1, c => st8 p (sts8 p n c)
def f8 (p : Int) (j : Nat) : Int := sts8 p 8 j
def Tab8 (p : Int) (w wr : World) (k : Nat) : Prop := Below w.heap.size w wr ∧ wr.heap.size = w.heap.size + 1 ∧ wr.heap[w.heap.size]? = some (.cells (tabA .u8 (f8 p) k) 255 (0, 0))
set_option maxHeartbeats 400000 in
set_option maxRecDepth 100000 in
theorem mk8 (p : Int) (w : World) : Calls Tryz.prog 101 #[.int .u8 p] w fun e w' => e = .returned (.pointer (some ⟨w.heap.size, 0, none⟩)) ∧ Tab8 p w w' 256 := by
 have hz : ∀ w', Sem.run Tryz.prog (zeroValue 255) w' = .ok (.agg (tabA .u8 (f8 p) 0)) w' := fun w' => zero8 w' _
 go_enter Tryz.func101, Tryz.ntmps101
 go_wp2
 clear hz
 go_loopw [7] (fun i wr => ∃ k : Nat, k ≤ 256 ∧ i = .int .i64 k ∧ Tab8 p w wr k) (fun i _ => 256 - (intOf i).toNat)
 case atStart =>
  refine ⟨0, by omega, rfl, (Below.refl _ _).alloc (Nat.le_refl _) _, by simp, ?_⟩
  show (w.heap.push _)[w.heap.size]? = _
  rw [Array.getElem?_push_size]
 case round =>
  obtain ⟨k, hk, rfl, hb, hsz, hrow⟩ := hrel
  by_cases hlt : k < 256
  ·go_wp2
   have HR := Lib.hid hrow
   clear hrow
   go_loop [4, 5] (fun c j => ∃ m : Nat, m ≤ 8 ∧ j = .int .i64 m ∧ c = .int .u8 (sts8 p m k)) (fun _ j => 8 - (intOf j).toNat)
   case atStart => exact ⟨0, by omega, rfl, rfl⟩
   case round =>
    obtain ⟨m, hm, rfl, rfl⟩ := hrel
    by_cases hl2 : m < 8
    ·by_cases hc : (Go.bits .and .u8 (sts8 p m k) 128 != 0) = true
     ·go_wp2
      go_round
      case rel => exact ⟨m + 1, by omega, by go_num, by simp only [sts8, st8, if_pos hc]⟩
      case measure => simp [intOf]; omega
     ·have hc' : (Go.bits .and .u8 (sts8 p m k) 128 != 0) = false := by simpa using hc
      go_wp2
      go_round
      case rel => exact ⟨m + 1, by omega, by go_num, by simp only [sts8, st8, if_neg hc]⟩
      case measure => simp [intOf]; omega
    ·obtain rfl : m = 8 := by omega
     have hcell : wr.cell? ⟨w.heap.size, k, none⟩ = some (.int .u8 0) := by
      rw [cell_of_row wr _ k _ _ (0, 0) HR.out, tabA_get _ _ _ _ hlt, if_neg (by omega)]
     have hfz : wr.frozen? ⟨w.heap.size, k, none⟩ = false := by simp [World.frozen?, HR.out]
     go_wp2
     go_roundw
     case rel =>
      refine ⟨k + 1, by omega, by go_num, hb.setCell (Nat.le_refl _) _, by simp [World.setCell, hsz], ?_⟩
      show (wr.setCell ⟨w.heap.size, k, none⟩ (.int .u8 (f8 p k))).heap[w.heap.size]? = _
      simp only [World.setCell, Array.getElem?_modify, if_true, HR.out]
      simp [tabA_put _ _ _ hlt]
     case measure => simp [intOf]; omega
  ·obtain rfl : k = 256 := by omega
   go_wp2
   go_ret
   exact ⟨rfl, hb, hsz, hrow⟩
theorem zero16' (w : World) : Sem.run Tryz.prog (zeroValue 237) w = .ok (.agg (tabA .u16 (fun _ => 0) 0)) w := by kernel_rfl
theorem zero16 (w : World) (f : Nat → Int) : Sem.run Tryz.prog (zeroValue 237) w = .ok (.agg (tabA .u16 f 0)) w := by
 have e : tabA .u16 f 0 = tabA .u16 (fun _ => 0) 0 := by simp [tabA]
 rw [e]
 exact zero16' w
def st16 (p c : Int) : Int := if (Go.bits .and .u16 c 32768 != 0) = true then Go.bits .xor .u16 (IntKind.u16.wrap (c * 2)) p else IntKind.u16.wrap (c * 2)
def sts16 (p : Int) : Nat → Int → Int
 | 0, c => c
 | n + 1, c => st16 p (sts16 p n c)
def f16 (p : Int) (j : Nat) : Int := sts16 p 8 (j * 256)
def Tab16 (p : Int) (w wr : World) (k : Nat) : Prop := Below w.heap.size w wr ∧ wr.heap.size = w.heap.size + 1 ∧ wr.heap[w.heap.size]? = some (.cells (tabA .u16 (f16 p) k) 237 (0, 0))
set_option maxHeartbeats 400000 in
set_option maxRecDepth 100000 in
theorem mk16 (p : Int) (w : World) : Calls Tryz.prog 71 #[.int .u16 p] w fun e w' => e = .returned (.pointer (some ⟨w.heap.size, 0, none⟩)) ∧ Tab16 p w w' 256 := by
 have hz : ∀ w', Sem.run Tryz.prog (zeroValue 237) w' = .ok (.agg (tabA .u16 (f16 p) 0)) w' := fun w' => zero16 w' _
 go_enter Tryz.func71, Tryz.ntmps71
 go_wp2
 clear hz
 go_loopw [7] (fun i wr => ∃ k : Nat, k ≤ 256 ∧ i = .int .i64 k ∧ Tab16 p w wr k) (fun i _ => 256 - (intOf i).toNat)
 case atStart =>
  refine ⟨0, by omega, rfl, (Below.refl _ _).alloc (Nat.le_refl _) _, by simp, ?_⟩
  show (w.heap.push _)[w.heap.size]? = _
  rw [Array.getElem?_push_size]
 case round =>
  obtain ⟨k, hk, rfl, hb, hsz, hrow⟩ := hrel
  by_cases hlt : k < 256
  ·go_wp2
   have HR := Lib.hid hrow
   clear hrow
   go_loop [4, 5] (fun c j => ∃ m : Nat, m ≤ 8 ∧ j = .int .i64 m ∧ c = .int .u16 (sts16 p m (k * 256))) (fun _ j => 8 - (intOf j).toNat)
   case atStart => exact ⟨0, by omega, rfl, rfl⟩
   case round =>
    obtain ⟨m, hm, rfl, rfl⟩ := hrel
    by_cases hl2 : m < 8
    ·by_cases hc : (Go.bits .and .u16 (sts16 p m (k * 256)) 32768 != 0) = true
     ·go_wp2
      go_round
      case rel => exact ⟨m + 1, by omega, by go_num, by simp only [sts16, st16, if_pos hc]⟩
      case measure => simp [intOf]; omega
     ·have hc' : (Go.bits .and .u16 (sts16 p m (k * 256)) 32768 != 0) = false := by simpa using hc
      go_wp2
      go_round
      case rel => exact ⟨m + 1, by omega, by go_num, by simp only [sts16, st16, if_neg hc]⟩
      case measure => simp [intOf]; omega
    ·obtain rfl : m = 8 := by omega
     have hcell : wr.cell? ⟨w.heap.size, k, none⟩ = some (.int .u16 0) := by
      rw [cell_of_row wr _ k _ _ (0, 0) HR.out, tabA_get _ _ _ _ hlt, if_neg (by omega)]
     have hfz : wr.frozen? ⟨w.heap.size, k, none⟩ = false := by simp [World.frozen?, HR.out]
     go_wp2
     go_roundw
     case rel =>
      refine ⟨k + 1, by omega, by go_num, hb.setCell (Nat.le_refl _) _, by simp [World.setCell, hsz], ?_⟩
      show (wr.setCell ⟨w.heap.size, k, none⟩ (.int .u16 (f16 p k))).heap[w.heap.size]? = _
      simp only [World.setCell, Array.getElem?_modify, if_true, HR.out]
      simp [tabA_put _ _ _ hlt]
     case measure => simp [intOf]; omega
  ·obtain rfl : k = 256 := by omega
   go_wp2
   go_ret
   exact ⟨rfl, hb, hsz, hrow⟩
end Go.Proofs.YtmcllndnjdemaaaGreatDoor.Crc
namespace Go.Proofs.YtmcllndnjdemaaaGreatDoor.Crc
open Go.RowKit Go.Proofs.YtmcllndnjdemaaaGreatDoorW.PrintWords
theorem ret_int {k : IntKind} {a b : Int} (h : a = b) : Ending.returned (.int k a) = .returned (.int k b) := by rw [h]
def up8 (t : Nat → Int) (c : Int) (l : List Int) : Int := l.foldl (fun c v => t (Go.bits .xor .u8 c v).toNat) c
def Byte (x : Int) : Prop := 0 ≤ x ∧ x ≤ 255
theorem take_step (l : List Int) (k : Nat) (hk : k < l.length) : l.take (k + 1) = l.take k ++ [l.getD k 0] := by
 rw [List.take_add_one, List.getElem?_eq_getElem hk, List.getD_eq_getElem?_getD, List.getElem?_eq_getElem hk]; rfl
theorem up8_step (t : Nat → Int) (c : Int) (l : List Int) (k : Nat) (hk : k < l.length) : up8 t c (l.take (k + 1)) = t (Go.bits .xor .u8 (up8 t c (l.take k)) (l.getD k 0)).toNat := by
 rw [take_step l k hk, up8, List.foldl_append]; rfl
theorem xor_byte (a b : Int) : 0 ≤ Go.bits .xor .u8 a b ∧ Go.bits .xor .u8 a b < 256 := by
 have h : Go.bits .xor .u8 a b = IntKind.u8.wrap ((BitVec.ofInt 8 a ^^^ BitVec.ofInt 8 b).toNat : Int) := rfl
 rw [h, IntKind.wrap_u8']; omega
set_option maxHeartbeats 400000 in
set_option maxRecDepth 100000 in
theorem upd8 (t : Nat → Int) (c : Int) (g : Nat) (A : Option Addr) (n cap : Nat) (l : List Int) (w : World) (hl : ReadsInt w .u8 A n l)
  (hg : w.heap[g]? = some (.cells (tabA .u8 t 256) 255 (0, 0))) :
  Calls Tryz.prog 189 #[.int .u8 c, .pointer (some ⟨g, 0, none⟩), .slice A n cap] w fun e w' => e = .returned (.int .u8 (up8 t c l)) ∧ w = w' := by
 obtain ⟨hlen, hmax, hcell⟩ := hl
 have HG := Lib.hid hg
 have HC := Lib.hid hcell
 have HL := Lib.hid hlen
 clear hg hcell hlen
 go_enter Tryz.func189, Tryz.ntmps189
 go_wp2
 go_loop [0, 11] (fun x i => ∃ k : Nat, k ≤ n ∧ i = .int .i64 k ∧ x = .int .u8 (up8 t c (l.take k))) (fun _ i => n - (intOf i).toNat)
 case atStart => exact ⟨0, by omega, rfl, rfl⟩
 case round =>
  obtain ⟨k, hk, rfl, rfl⟩ := hrel
  by_cases hlt : k < n
  ·obtain ⟨ad, rfl, hc⟩ := HC.out (by omega)
   have c1 : w.cell? (ad.add k) = some (.int .u8 (l.getD k 0)) := hc k hlt
   clear hc
   obtain ⟨v, hv⟩ : ∃ v, l.getD k 0 = v := ⟨_, rfl⟩
   rw [hv] at c1
   obtain ⟨u, hu⟩ : ∃ u, up8 t c (l.take k) = u := ⟨_, rfl⟩
   obtain ⟨j, hj, hj1⟩ : ∃ j : Nat, Go.bits .xor .u8 u v = (j : Int) ∧ j < 256 := by
    have := xor_byte u v
    exact ⟨(Go.bits .xor .u8 u v).toNat, by omega, by omega⟩
   have c2 : w.cell? ⟨g, j, none⟩ = some (.int .u8 (t j)) := by
    rw [cell_of_row w _ j _ _ (0, 0) HG.out, tabA_get _ _ _ _ hj1, if_pos hj1]
   have hs : up8 t c (l.take (k + 1)) = t j := by
    rw [up8_step t c l k (by rw [HL.out]; exact hlt), hu, hv, hj]; rfl
   have HS := Lib.hid hs
   have HU := Lib.hid hu
   have HV := Lib.hid hv
   clear hs hv
   rw [hu]
   clear hu
   go_wp2
   go_round
   case rel => exact ⟨k + 1, by omega, by go_num, by rw [HS.out]⟩
   case measure => simp [intOf]; omega
  ·have hfin : up8 t c (l.take k) = up8 t c l := by rw [List.take_of_length_le (by rw [HL.out]; omega)]
   have HF := Lib.hid hfin
   clear hfin
   go_wp2
   go_ret
   exact ⟨ret_int HF.out, rfl⟩
theorem xor_word (a b : Int) : 0 ≤ Go.bits .xor .u16 a b ∧ Go.bits .xor .u16 a b < 65536 := by
 have h : Go.bits .xor .u16 a b = IntKind.u16.wrap ((BitVec.ofInt 16 a ^^^ BitVec.ofInt 16 b).toNat : Int) := rfl
 rw [h, IntKind.wrap_u16]; omega
theorem xor_low (a b : Int) (ha : 0 ≤ a) (ha1 : a < 256) (hb : 0 ≤ b) (hb1 : b < 256) : 0 ≤ Go.bits .xor .u16 a b ∧ Go.bits .xor .u16 a b < 256 := by
 rw [u16_xor a b ha (by omega) hb (by omega)]
 have := Nat.xor_lt_two_pow (n := 8) (x := a.toNat) (y := b.toNat) (by omega) (by omega)
 omega
def s16 (t : Nat → Int) (c v : Int) : Int := Go.bits .xor .u16 (IntKind.u16.wrap (c * 256)) (t (Go.bits .xor .u16 (c / 256) v).toNat)
def up16 (t : Nat → Int) (c : Int) (l : List Int) : Int := l.foldl (s16 t) c
theorem up16_step (t : Nat → Int) (c : Int) (l : List Int) (k : Nat) (hk : k < l.length) : up16 t c (l.take (k + 1)) = s16 t (up16 t c (l.take k)) (l.getD k 0) := by
 rw [take_step l k hk, up16, List.foldl_append]; rfl
theorem up16_range (t : Nat → Int) (c : Int) (hc : 0 ≤ c ∧ c < 65536) (l : List Int) : 0 ≤ up16 t c l ∧ up16 t c l < 65536 := by
 induction l generalizing c with
 | nil => exact hc
 | cons v l ih => exact ih _ (xor_word _ _)
set_option maxHeartbeats 400000 in
set_option maxRecDepth 100000 in
theorem upd16 (t : Nat → Int) (c : Int) (hc : 0 ≤ c ∧ c < 65536) (g : Nat) (A : Option Addr) (n cap : Nat) (l : List Int) (w : World) (hl : ReadsInt w .u8 A n l)
  (hb : ∀ x ∈ l, Byte x) (hg : w.heap[g]? = some (.cells (tabA .u16 t 256) 237 (0, 0))) :
  Calls Tryz.prog 182 #[.int .u16 c, .pointer (some ⟨g, 0, none⟩), .slice A n cap] w fun e w' => e = .returned (.int .u16 (up16 t c l)) ∧ w = w' := by
 obtain ⟨hlen, hmax, hcell⟩ := hl
 have HG := Lib.hid hg
 have HC := Lib.hid hcell
 have HL := Lib.hid hlen
 have HB := Lib.hid hb
 have HR := Lib.hid (up16_range t c hc)
 clear hg hcell hlen hb hc
 go_enter Tryz.func182, Tryz.ntmps182
 go_wp2
 go_loop [0, 11] (fun x i => ∃ k : Nat, k ≤ n ∧ i = .int .i64 k ∧ x = .int .u16 (up16 t c (l.take k))) (fun _ i => n - (intOf i).toNat)
 case atStart => exact ⟨0, by omega, rfl, rfl⟩
 case round =>
  obtain ⟨k, hk, rfl, rfl⟩ := hrel
  by_cases hlt : k < n
  ·obtain ⟨ad, rfl, hc⟩ := HC.out (by omega)
   have c1 : w.cell? (ad.add k) = some (.int .u8 (l.getD k 0)) := hc k hlt
   clear hc
   obtain ⟨v, hv⟩ : ∃ v, l.getD k 0 = v := ⟨_, rfl⟩
   have hv0 : 0 ≤ v ∧ v ≤ 255 := by
    rw [← hv, List.getD_eq_getElem?_getD, List.getElem?_eq_getElem (by rw [HL.out]; exact hlt)]
    exact HB.out _ (List.getElem_mem _)
   obtain ⟨hv0, hv1⟩ := hv0
   rw [hv] at c1
   obtain ⟨u, hu⟩ : ∃ u, up16 t c (l.take k) = u := ⟨_, rfl⟩
   have hu0 : 0 ≤ u ∧ u < 65536 := by rw [← hu]; exact HR.out _
   obtain ⟨hu0, hu1⟩ := hu0
   obtain ⟨j, hj, hj1⟩ : ∃ j : Nat, Go.bits .xor .u16 (u / 256) v = (j : Int) ∧ j < 256 := by
    have := xor_low (u / 256) v (by omega) (by omega) hv0 (by omega)
    exact ⟨(Go.bits .xor .u16 (u / 256) v).toNat, by omega, by omega⟩
   have c2 : w.cell? ⟨g, j, none⟩ = some (.int .u16 (t j)) := by
    rw [cell_of_row w _ j _ _ (0, 0) HG.out, tabA_get _ _ _ _ hj1, if_pos hj1]
   have hs : up16 t c (l.take (k + 1)) = Go.bits .xor .u16 (IntKind.u16.wrap (u * 256)) (t j) := by
    rw [up16_step t c l k (by rw [HL.out]; exact hlt), hu, hv, s16, hj]; rfl
   have hw : IntKind.u16.wrap v = v := by rw [IntKind.wrap_u16]; omega
   have HS := Lib.hid hs
   have HU := Lib.hid hu
   have HV := Lib.hid hv
   clear hs hv
   rw [hu]
   clear hu
   go_wp2
   go_round
   case rel => exact ⟨k + 1, by omega, by go_num, by rw [HS.out]⟩
   case measure => simp [intOf]; omega
  ·have hfin : up16 t c (l.take k) = up16 t c l := by rw [List.take_of_length_le (by rw [HL.out]; omega)]
   have HF := Lib.hid hfin
   clear hfin
   go_wp2
   go_ret
   exact ⟨ret_int HF.out, rfl⟩
def crc8 (l : List Int) : Int := up8 (f8 7) 0 l
def crc16 (l : List Int) : Int := up16 (f16 32773) 0 l
end Go.Proofs.YtmcllndnjdemaaaGreatDoor.Crc
namespace Go.Proofs.YtmcllndnjdemaaaGreatDoor.Walk
set_option linter.unusedVariables false
set_option linter.unusedSimpArgs false
open Go Go.RowKit Go.Proofs.YtmcllndnjdemaaaGreatDoorW.PrintWords Go.Proofs.YtmcllndnjdemaaaGreatDoor.Crc
structure Rcv (ty fn g : Nat) (S D : List Nat) (Kt : World → List Int → Prop) : Prop where
 nilA : ∀ w : World, (nilAhead 413 ty (.pointer (some ⟨g, 0, none⟩)) "Write").run Tryz.prog w = .ok (some false) w
 meth : ∀ w : World, (method 413 ty (.pointer (some ⟨g, 0, none⟩)) "Write").run Tryz.prog w = .ok (fn, .pointer (some ⟨g, 0, none⟩)) w
 call : ∀ (args : Array Value) (w : World), Sem.run Tryz.prog (callFunc fn args) w = .ok (Next.enter fn args) w
 move : ∀ (U : List Nat) (w w' : World) (ys : List Int), Kt w ys → (∀ k ∈ U, k ∉ D) → Touch U w w' → Kt w' ys
 sub : ∀ k ∈ S, k ∈ D
 write : ∀ (w : World) (ys xs : List Int) (A : Addr) (n c : Nat), Kt w ys → (∀ x ∈ xs, 0 ≤ x ∧ x ≤ 255) → ReadsInt w .u8 (some A) n xs →
  Calls Tryz.prog fn #[.pointer (some ⟨g, 0, none⟩), .slice (some A) n c] w fun e w' => e = .returned (.tuple #[.int .i64 n, .nilIface]) ∧ Touch S w w' ∧ Kt w' (ys ++ xs)
theorem up8_append (t : Nat → Int) (c : Int) (a b : List Int) : up8 t (up8 t c a) b = up8 t c (a ++ b) := by unfold up8; rw [List.foldl_append]
theorem up16_append (t : Nat → Int) (c : Int) (a b : List Int) : up16 t (up16 t c a) b = up16 t c (a ++ b) := by unfold up16; rw [List.foldl_append]
def Dig8 (gd gt : Nat) (w : World) (ys : List Int) : Prop :=
 w.heap[gd]? = some (.cells #[.int .u8 (up8 (f8 7) 0 ys), .pointer (some ⟨gt, 0, none⟩)] 253 (0, 0)) ∧ w.heap[gt]? = some (.cells (tabA .u8 (f8 7) 256) 255 (0, 0))
def Dig16 (gd gt : Nat) (w : World) (ys : List Int) : Prop :=
 w.heap[gd]? = some (.cells #[.int .u16 (up16 (f16 32773) 0 ys), .pointer (some ⟨gt, 0, none⟩)] 235 (0, 0)) ∧ w.heap[gt]? = some (.cells (tabA .u16 (f16 32773) 256) 237 (0, 0))
set_option maxHeartbeats 2000000 in
set_option maxRecDepth 100000 in
theorem dig8_snk (gd gt : Nat) (hne : gd ≠ gt) : Rcv 251 188 gd [gd] [gd, gt] (Dig8 gd gt) where
 nilA := fun w => by kernel_rfl
 meth := fun w => by kernel_rfl
 call := fun args w => by kernel_rfl
 move := by
  rintro U w w' ys ⟨h1, h2⟩ hU ht
  exact ⟨ht.heap h1 (fun hm => hU _ hm (by simp)), ht.heap h2 (fun hm => hU _ hm (by simp))⟩
 sub := by simp
 write := by
  rintro w ys xs A n c ⟨h1, h2⟩ hb hr
  have c0 : w.cell? ⟨gd, 0, none⟩ = some (.int .u8 (up8 (f8 7) 0 ys)) := by rw [cell_of_row w gd 0 _ _ _ h1]; rfl
  have c1 : w.cell? ⟨gd, 1, none⟩ = some (.pointer (some ⟨gt, 0, none⟩)) := by rw [cell_of_row w gd 1 _ _ _ h1]; rfl
  have f0 : w.frozen? ⟨gd, 0, none⟩ = false := by simp [World.frozen?, h1]
  have hup := upd8 (f8 7) (up8 (f8 7) 0 ys) gt (some A) n c xs w.drew hr h2
  rw [up8_append] at hup
  have hup2 := hup.mono (R' := fun e w'' => e = _ ∧ w'' = w.drew) (fun e w' h => ⟨h.1, h.2.symm⟩)
  have HUP := Lib.hid hup2
  clear hup2
  have H1 := Lib.hid h1
  have H2 := Lib.hid h2
  clear h1 h2 hb hr hup
  go_enter Tryz.func188, Tryz.ntmps188
  go_wp2_with fail
  refine wp_region_still_tail 11 (by kernel_rfl) (by kernel_rfl) ?_
  simp only [List.take_succ_cons, List.take_zero, List.drop_succ_cons, List.drop_zero]
  repeat still_step
  still_call HUP.out
  refine wpStill_nil ?_
  change wpList _ _ _ _ _ w.drew
  obtain ⟨wd, hwd⟩ : ∃ wd, w.drew = wd := ⟨_, rfl⟩
  have f0' : wd.frozen? ⟨gd, 0, none⟩ = false := by rw [← hwd]; exact f0
  have c0' : ∃ v, wd.cell? ⟨gd, 0, none⟩ = some v := by rw [← hwd]; exact ⟨_, c0⟩
  obtain ⟨v0, c0'⟩ := c0'
  have h1' := H1.out
  have h2' := H2.out
  change w.drew.heap[gd]? = _ at h1'
  change w.drew.heap[gt]? = _ at h2'
  rw [hwd] at h1' h2'
  have H1' := Lib.hid h1'
  have H2' := Lib.hid h2'
  clear h1' h2'
  have HT := Lib.hid (show Touch [gd] w wd by rw [← hwd]; exact (Touch.refl _ _).drew)
  rw [hwd]
  clear hwd c0 c1 f0
  go_wp2_with fail
  go_ret2
  refine ⟨rfl, HT.out.setCell (.inl (by simp)) _, ?_, ?_⟩
  ·rw [blk_set H1'.out 0]; rfl
  ·exact blk_far H2'.out (Ne.symm hne) _
set_option maxHeartbeats 2000000 in
set_option maxRecDepth 100000 in
theorem dig16_snk (gd gt : Nat) (hne : gd ≠ gt) : Rcv 233 181 gd [gd] [gd, gt] (Dig16 gd gt) where
 nilA := fun w => by kernel_rfl
 meth := fun w => by kernel_rfl
 call := fun args w => by kernel_rfl
 move := by
  rintro U w w' ys ⟨h1, h2⟩ hU ht
  exact ⟨ht.heap h1 (fun hm => hU _ hm (by simp)), ht.heap h2 (fun hm => hU _ hm (by simp))⟩
 sub := by simp
 write := by
  rintro w ys xs A n c ⟨h1, h2⟩ hb hr
  have c0 : w.cell? ⟨gd, 0, none⟩ = some (.int .u16 (up16 (f16 32773) 0 ys)) := by rw [cell_of_row w gd 0 _ _ _ h1]; rfl
  have c1 : w.cell? ⟨gd, 1, none⟩ = some (.pointer (some ⟨gt, 0, none⟩)) := by rw [cell_of_row w gd 1 _ _ _ h1]; rfl
  have f0 : w.frozen? ⟨gd, 0, none⟩ = false := by simp [World.frozen?, h1]
  have hup := upd16 (f16 32773) (up16 (f16 32773) 0 ys) (up16_range _ _ (by decide) _) gt (some A) n c xs w.drew hr hb h2
  rw [up16_append] at hup
  have hup2 := hup.mono (R' := fun e w'' => e = _ ∧ w'' = w.drew) (fun e w' h => ⟨h.1, h.2.symm⟩)
  have HUP := Lib.hid hup2
  clear hup2
  have H1 := Lib.hid h1
  have H2 := Lib.hid h2
  clear h1 h2 hb hr hup
  go_enter Tryz.func181, Tryz.ntmps181
  go_wp2_with fail
  refine wp_region_still_tail 11 (by kernel_rfl) (by kernel_rfl) ?_
  simp only [List.take_succ_cons, List.take_zero, List.drop_succ_cons, List.drop_zero]
  repeat still_step
  still_call HUP.out
  refine wpStill_nil ?_
  change wpList _ _ _ _ _ w.drew
  obtain ⟨wd, hwd⟩ : ∃ wd, w.drew = wd := ⟨_, rfl⟩
  have f0' : wd.frozen? ⟨gd, 0, none⟩ = false := by rw [← hwd]; exact f0
  have c0' : ∃ v, wd.cell? ⟨gd, 0, none⟩ = some v := by rw [← hwd]; exact ⟨_, c0⟩
  obtain ⟨v0, c0'⟩ := c0'
  have h1' := H1.out
  have h2' := H2.out
  change w.drew.heap[gd]? = _ at h1'
  change w.drew.heap[gt]? = _ at h2'
  rw [hwd] at h1' h2'
  have H1' := Lib.hid h1'
  have H2' := Lib.hid h2'
  clear h1' h2'
  have HT := Lib.hid (show Touch [gd] w wd by rw [← hwd]; exact (Touch.refl _ _).drew)
  rw [hwd]
  clear hwd c0 c1 f0
  go_wp2_with fail
  go_ret2
  refine ⟨rfl, HT.out.setCell (.inl (by simp)) _, ?_, ?_⟩
  ·rw [blk_set H1'.out 0]; rfl
  ·exact blk_far H2'.out (Ne.symm hne) _
set_option maxHeartbeats 1000000 in
set_option maxRecDepth 100000 in
theorem size8 (w : World) : Calls Tryz.prog 104 #[] w fun e w' => e = .returned (.int .i64 1) ∧ w' = w := by
 have hx : Go.bits .xor .u8 IntKind.u8.max 0 = 255 := by decide
 go_enter Tryz.func104, Tryz.ntmps104
 go_wp2_with fail
 refine wp_loop_rounds 2 ?_
 rw [rounds_succ]
 go_wp2_with fail
 rw [rounds_succ]
 go_wp2_with fail
 go_ret
 exact ⟨rfl, rfl⟩
set_option maxHeartbeats 1000000 in
set_option maxRecDepth 100000 in
theorem newDig8 (w : World) : Calls Tryz.prog 72 #[] w fun e w' =>
  e = .returned (.iface 251 (.pointer (some ⟨w.heap.size + 1, 0, none⟩))) ∧ Below w.heap.size w w' ∧ w'.heap.size = w.heap.size + 2 ∧ Dig8 (w.heap.size + 1) w.heap.size w' [] := by
 go_enter Tryz.func72, Tryz.ntmps72
 go_wp2_with fail
 refine (mk8 7 w).mono ?_
 rintro e w1 ⟨rfl, hb, hsz, htab⟩
 have X := Lib.hid (And.intro hb (And.intro hsz htab))
 clear hb hsz htab
 go_wp2_with fail
 have hn : Calls Tryz.prog 100 #[.pointer (some ⟨w.heap.size, 0, none⟩)] w1 fun e w' => e = .returned (.iface 251 (.pointer (some ⟨w1.heap.size, 0, none⟩))) ∧ w' = w1.alloc (.cells #[.int .u8 0, .pointer (some ⟨w.heap.size, 0, none⟩)] 253) := by
  go_enter Tryz.func100, Tryz.ntmps100
  go_wp2_with fail
  go_ret
  exact ⟨rfl, rfl⟩
 refine hn.mono ?_
 rintro e w2 ⟨rfl, hw2⟩
 have HW2 := Lib.hid hw2
 clear hw2 hn
 go_wp2_with fail
 go_ret
 have hw2 := HW2.out
 have hsz := X.out.2.1
 refine ⟨by rw [hsz]; rfl, ?_, ?_, ?_, ?_⟩
 ·rw [hw2]; exact X.out.1.alloc X.out.1.size _
 ·rw [hw2, World.size_alloc, hsz]
 ·rw [hw2, ← hsz]; exact heap_alloc_new _ _
 ·rw [hw2, Below.heap_alloc _ _ _ (by omega)]; exact X.out.2.2
set_option maxHeartbeats 1000000 in
set_option maxRecDepth 100000 in
theorem newDig16 (w : World) : Calls Tryz.prog 40 #[] w fun e w' =>
  e = .returned (.iface 233 (.pointer (some ⟨w.heap.size + 1, 0, none⟩))) ∧ Below w.heap.size w w' ∧ w'.heap.size = w.heap.size + 2 ∧ Dig16 (w.heap.size + 1) w.heap.size w' [] := by
 go_enter Tryz.func40, Tryz.ntmps40
 go_wp2_with fail
 refine (mk16 32773 w).mono ?_
 rintro e w1 ⟨rfl, hb, hsz, htab⟩
 have X := Lib.hid (And.intro hb (And.intro hsz htab))
 clear hb hsz htab
 go_wp2_with fail
 have hn : Calls Tryz.prog 70 #[.pointer (some ⟨w.heap.size, 0, none⟩)] w1 fun e w' => e = .returned (.iface 233 (.pointer (some ⟨w1.heap.size, 0, none⟩))) ∧ w' = w1.alloc (.cells #[.int .u16 0, .pointer (some ⟨w.heap.size, 0, none⟩)] 235) := by
  go_enter Tryz.func70, Tryz.ntmps70
  go_wp2_with fail
  go_ret
  exact ⟨rfl, rfl⟩
 refine hn.mono ?_
 rintro e w2 ⟨rfl, hw2⟩
 have HW2 := Lib.hid hw2
 clear hw2 hn
 go_wp2_with fail
 go_ret
 have hw2 := HW2.out
 have hsz := X.out.2.1
 refine ⟨by rw [hsz]; rfl, ?_, ?_, ?_, ?_⟩
 ·rw [hw2]; exact X.out.1.alloc X.out.1.size _
 ·rw [hw2, World.size_alloc, hsz]
 ·rw [hw2, ← hsz]; exact heap_alloc_new _ _
 ·rw [hw2, Below.heap_alloc _ _ _ (by omega)]; exact X.out.2.2
theorem sum8 (gd gt : Nat) (w : World) (ys : List Int) (h : Dig8 gd gt w ys) : Calls Tryz.prog 187 #[.pointer (some ⟨gd, 0, none⟩)] w fun e w' =>
  e = .returned (.int .u8 (up8 (f8 7) 0 ys)) ∧ w' = w := by
 have c0 : w.cell? ⟨gd, 0, none⟩ = some (.int .u8 (up8 (f8 7) 0 ys)) := by rw [cell_of_row w gd 0 _ _ _ h.1]; rfl
 clear h
 go_enter Tryz.func187, Tryz.ntmps187
 go_wp2_with fail
 go_ret
 exact ⟨rfl, rfl⟩
theorem sum16 (gd gt : Nat) (w : World) (ys : List Int) (h : Dig16 gd gt w ys) : Calls Tryz.prog 180 #[.pointer (some ⟨gd, 0, none⟩)] w fun e w' =>
  e = .returned (.int .u16 (up16 (f16 32773) 0 ys)) ∧ w' = w := by
 have c0 : w.cell? ⟨gd, 0, none⟩ = some (.int .u16 (up16 (f16 32773) 0 ys)) := by rw [cell_of_row w gd 0 _ _ _ h.1]; rfl
 clear h
 go_enter Tryz.func180, Tryz.ntmps180
 go_wp2_with fail
 go_ret
 exact ⟨rfl, rfl⟩
end Go.Proofs.YtmcllndnjdemaaaGreatDoor.Walk
