/- The table of a sum, made anew: makeTable of both sums lays 256 numbers, each by eight steps. -/
import Derived.Test.YtjfibofjbofpbaaProg
import Derived.WalkKit
import Derived.KernelRfl
import Derived.Deep.LoopGhost
import Derived.WalkLawsBesides
import Derived.WalkSpells
import Derived.Lib.Hide
namespace Go.Proofs.Ytjfibofjbofpbaa.Crc
open Go.RowKit

/-- A table of 256 numbers of which the first k are laid. -/
def tabA (kd : IntKind) (f : Nat → Int) (k : Nat) : Array Value := ((List.range 256).map fun j => Value.int kd (if j < k then f j else 0)).toArray
theorem tabA_size (kd : IntKind) (f : Nat → Int) (k : Nat) : (tabA kd f k).size = 256 := by simp [tabA]
theorem tabA_get (kd : IntKind) (f : Nat → Int) (k j : Nat) (hj : j < 256) : (tabA kd f k)[j]? = some (.int kd (if j < k then f j else 0)) := by
  simp [tabA, hj]
theorem tabA_put (kd : IntKind) (f : Nat → Int) (k : Nat) (hk : k < 256) : (tabA kd f k).setIfInBounds k (.int kd (f k)) = tabA kd f (k + 1) := by
  apply Array.ext_getElem?
  intro j
  by_cases hj : j < 256
  · rw [tabA_get _ _ _ _ hj, Array.getElem?_setIfInBounds]
    by_cases e : k = j
    · subst e; simp [tabA_size, hk]
    · rw [if_neg e, tabA_get _ _ _ _ hj]
      by_cases h : j < k
      · rw [if_pos h, if_pos (by omega)]
      · rw [if_neg h, if_neg (by omega)]
  · rw [Array.getElem?_eq_none (by simp [tabA_size]; omega), Array.getElem?_eq_none (by simp [tabA_size]; omega)]

theorem zero8' (w : World) : Sem.run Try.prog (zeroValue 49) w = .ok (.agg (tabA .u8 (fun _ => 0) 0)) w := by kernel_rfl
theorem zero8 (w : World) (f : Nat → Int) : Sem.run Try.prog (zeroValue 49) w = .ok (.agg (tabA .u8 f 0)) w := by
  have e : tabA .u8 f 0 = tabA .u8 (fun _ => 0) 0 := by simp [tabA]
  rw [e]
  exact zero8' w

/-- One step of the sum over 8 bits. -/
def st8 (p c : Int) : Int := if (Go.bits .and .u8 c 128 != 0) = true then Go.bits .xor .u8 (c * 2 % 256) p else c * 2 % 256
def sts8 (p : Int) : Nat → Int → Int
  | 0, c => c
  | n + 1, c => st8 p (sts8 p n c)
def f8 (p : Int) (j : Nat) : Int := sts8 p 8 j

def Tab8 (p : Int) (w wr : World) (k : Nat) : Prop := Below w.heap.size w wr ∧ wr.heap.size = w.heap.size + 1 ∧ wr.heap[w.heap.size]? = some (.cells (tabA .u8 (f8 p) k) 49 (0, 0))

set_option maxHeartbeats 400000 in
set_option maxRecDepth 100000 in
theorem mk8 (p : Int) (w : World) : Calls Try.prog 28 #[.int .u8 p] w fun e w' => e = .returned (.pointer (some ⟨w.heap.size, 0, none⟩)) ∧ Tab8 p w w' 256 := by
  have hz : ∀ w', Sem.run Try.prog (zeroValue 49) w' = .ok (.agg (tabA .u8 (f8 p) 0)) w' := fun w' => zero8 w' _
  go_enter Try.func28, Try.ntmps28
  go_wp2
  clear hz
  go_loopw [7] (fun i wr => ∃ k : Nat, k ≤ 256 ∧ i = .int .i64 k ∧ Tab8 p w wr k) (fun i _ => 256 - (intOf i).toNat)
  case atStart =>
    refine ⟨0, by omega, rfl, (Below.refl _ _).alloc (Nat.le_refl _) _, by simp, ?_⟩
    show (w.heap.push _)[w.heap.size]? = _
    rw [Array.getElem?_push_size]
  case round =>
    obtain ⟨k, hk, rfl, hb, hsz, hrow⟩ := hrel
    by_cases hlt : k < 256
    · go_wp2
      have HR := Lib.hid hrow
      clear hrow
      go_loop [4, 5] (fun c j => ∃ m : Nat, m ≤ 8 ∧ j = .int .i64 m ∧ c = .int .u8 (sts8 p m k)) (fun _ j => 8 - (intOf j).toNat)
      case atStart => exact ⟨0, by omega, rfl, rfl⟩
      case round =>
        obtain ⟨m, hm, rfl, rfl⟩ := hrel
        by_cases hl2 : m < 8
        · by_cases hc : (Go.bits .and .u8 (sts8 p m k) 128 != 0) = true
          · go_wp2
            go_round
            case rel => exact ⟨m + 1, by omega, by go_num, by simp only [sts8, st8, if_pos hc]⟩
            case measure => simp [intOf]; omega
          · have hc' : (Go.bits .and .u8 (sts8 p m k) 128 != 0) = false := by simpa using hc
            go_wp2
            go_round
            case rel => exact ⟨m + 1, by omega, by go_num, by simp only [sts8, st8, if_neg hc]⟩
            case measure => simp [intOf]; omega
        · obtain rfl : m = 8 := by omega
          have hcell : wr.cell? ⟨w.heap.size, k, none⟩ = some (.int .u8 0) := by
            rw [cell_of_row wr _ k _ _ (0, 0) HR.out, tabA_get _ _ _ _ hlt, if_neg (by omega)]
          have hfz : wr.frozen? ⟨w.heap.size, k, none⟩ = false := by simp [World.frozen?, HR.out]
          go_wp2
          go_roundw
          case rel =>
            refine ⟨k + 1, by omega, by go_num, hb.setCell (Nat.le_refl _) _, by simp [World.setCell, hsz], ?_⟩
            show (wr.setCell ⟨w.heap.size, k, none⟩ (.int .u8 (f8 p k))).heap[w.heap.size]? = _
            simp only [World.setCell, Array.getElem?_modify, if_true, HR.out]
            simp [tabA_put _ _ _ hlt]
          case measure => simp [intOf]; omega
    · obtain rfl : k = 256 := by omega
      go_wp2
      go_ret
      exact ⟨rfl, hb, hsz, hrow⟩

theorem zero16' (w : World) : Sem.run Try.prog (zeroValue 47) w = .ok (.agg (tabA .u16 (fun _ => 0) 0)) w := by kernel_rfl
theorem zero16 (w : World) (f : Nat → Int) : Sem.run Try.prog (zeroValue 47) w = .ok (.agg (tabA .u16 f 0)) w := by
  have e : tabA .u16 f 0 = tabA .u16 (fun _ => 0) 0 := by simp [tabA]
  rw [e]
  exact zero16' w

/-- One step of the sum over 16 bits. -/
def st16 (p c : Int) : Int := if (Go.bits .and .u16 c 32768 != 0) = true then Go.bits .xor .u16 (IntKind.u16.wrap (c * 2)) p else IntKind.u16.wrap (c * 2)
def sts16 (p : Int) : Nat → Int → Int
  | 0, c => c
  | n + 1, c => st16 p (sts16 p n c)
def f16 (p : Int) (j : Nat) : Int := sts16 p 8 (j * 256)

def Tab16 (p : Int) (w wr : World) (k : Nat) : Prop := Below w.heap.size w wr ∧ wr.heap.size = w.heap.size + 1 ∧ wr.heap[w.heap.size]? = some (.cells (tabA .u16 (f16 p) k) 47 (0, 0))

set_option maxHeartbeats 400000 in
set_option maxRecDepth 100000 in
theorem mk16 (p : Int) (w : World) : Calls Try.prog 26 #[.int .u16 p] w fun e w' => e = .returned (.pointer (some ⟨w.heap.size, 0, none⟩)) ∧ Tab16 p w w' 256 := by
  have hz : ∀ w', Sem.run Try.prog (zeroValue 47) w' = .ok (.agg (tabA .u16 (f16 p) 0)) w' := fun w' => zero16 w' _
  go_enter Try.func26, Try.ntmps26
  go_wp2
  clear hz
  go_loopw [7] (fun i wr => ∃ k : Nat, k ≤ 256 ∧ i = .int .i64 k ∧ Tab16 p w wr k) (fun i _ => 256 - (intOf i).toNat)
  case atStart =>
    refine ⟨0, by omega, rfl, (Below.refl _ _).alloc (Nat.le_refl _) _, by simp, ?_⟩
    show (w.heap.push _)[w.heap.size]? = _
    rw [Array.getElem?_push_size]
  case round =>
    obtain ⟨k, hk, rfl, hb, hsz, hrow⟩ := hrel
    by_cases hlt : k < 256
    · go_wp2
      have HR := Lib.hid hrow
      clear hrow
      go_loop [4, 5] (fun c j => ∃ m : Nat, m ≤ 8 ∧ j = .int .i64 m ∧ c = .int .u16 (sts16 p m (k * 256))) (fun _ j => 8 - (intOf j).toNat)
      case atStart => exact ⟨0, by omega, rfl, rfl⟩
      case round =>
        obtain ⟨m, hm, rfl, rfl⟩ := hrel
        by_cases hl2 : m < 8
        · by_cases hc : (Go.bits .and .u16 (sts16 p m (k * 256)) 32768 != 0) = true
          · go_wp2
            go_round
            case rel => exact ⟨m + 1, by omega, by go_num, by simp only [sts16, st16, if_pos hc]⟩
            case measure => simp [intOf]; omega
          · have hc' : (Go.bits .and .u16 (sts16 p m (k * 256)) 32768 != 0) = false := by simpa using hc
            go_wp2
            go_round
            case rel => exact ⟨m + 1, by omega, by go_num, by simp only [sts16, st16, if_neg hc]⟩
            case measure => simp [intOf]; omega
        · obtain rfl : m = 8 := by omega
          have hcell : wr.cell? ⟨w.heap.size, k, none⟩ = some (.int .u16 0) := by
            rw [cell_of_row wr _ k _ _ (0, 0) HR.out, tabA_get _ _ _ _ hlt, if_neg (by omega)]
          have hfz : wr.frozen? ⟨w.heap.size, k, none⟩ = false := by simp [World.frozen?, HR.out]
          go_wp2
          go_roundw
          case rel =>
            refine ⟨k + 1, by omega, by go_num, hb.setCell (Nat.le_refl _) _, by simp [World.setCell, hsz], ?_⟩
            show (wr.setCell ⟨w.heap.size, k, none⟩ (.int .u16 (f16 p k))).heap[w.heap.size]? = _
            simp only [World.setCell, Array.getElem?_modify, if_true, HR.out]
            simp [tabA_put _ _ _ hlt]
          case measure => simp [intOf]; omega
    · obtain rfl : k = 256 := by omega
      go_wp2
      go_ret
      exact ⟨rfl, hb, hsz, hrow⟩
end Go.Proofs.Ytjfibofjbofpbaa.Crc
