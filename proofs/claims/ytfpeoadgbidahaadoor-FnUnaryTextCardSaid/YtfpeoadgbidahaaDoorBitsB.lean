/- (*bits.Reader).Read where more bits are wanted than are kept: none are kept, whole bytes. -/
import Derived.Test.YtfpeoadgbidahaaDoorBits
namespace Go.Proofs.YtfpeoadgbidahaaDoor.Walk
set_option linter.unusedVariables false
set_option linter.unusedSimpArgs false
open Go Go.RowKit Go.Proofs.YtfpeoadgbidahaaDoorW.PrintWords Go.Proofs.YtfpeoadgbidahaaDoor.Num

set_option maxHeartbeats 2000000 in
set_option maxRecDepth 100000 in
theorem br_moreB {ty fn g : Nat} {S D : List Nat} {l : List Int} {St : World → Nat → Prop} (R : Src ty fn g S D l St) (w : World) (p gb x n k : Nat) (buf : List Value)
    (hs : St w p) (hl : buf.length = 8) (hx : x < 256) (hn : n = 8 * k) (hk : 0 < k) (hn64 : n ≤ 64) (hgb : gb ∉ D) (hav : p + (k) ≤ l.length)
    (hbyte : ∀ i, byteAt l i < 256) (hnn : ∀ i, 0 ≤ l.getD i 0)
    (hb : w.heap[gb]? = some (.cells (brCells ty g buf x 0).toArray 72 (0, 0))) :
    Calls Tryd.prog 18 #[.pointer (some ⟨gb, 0, none⟩), .int .u64 n] w fun e w' =>
      e = .returned (.tuple #[.int .u64 (acc l p 0 (8 * k)), .nilIface]) ∧ Touch (gb :: S) w w' ∧ St w' (p + (k)) ∧
      ∃ buf', buf'.length = 8 ∧ w'.heap[gb]? = some (.cells (brCells ty g buf' x 0).toArray 72 (0, 0)) := by
  obtain ⟨k0, rfl⟩ : ∃ k0, k = k0 + 1 := ⟨k - 1, by omega⟩
  have c0 : w.cell? ⟨gb, 0, none⟩ = some (.iface ty (.pointer (some ⟨g, 0, none⟩))) := by rw [cell_of_row w gb 0 _ _ _ hb, br0 _ _ _ _ _ hl]
  have c10 : w.cell? ⟨gb, 10, none⟩ = some (.int .u64 0) := by rw [cell_of_row w gb 10 _ _ _ hb, br10 _ _ _ _ _ hl]
  have hn0 : ((n : Int) == 0) = false := by rw [beq_eq_false_iff_ne]; omega
  have hdiv : (n : Int) / 8 = ((k0 : Int) + 1) := by omega
  have hmod : (n : Int) % 8 = 0 := by omega
  have hk8 : k0 + 1 ≤ 8 := by omega
  have hsl := bufTo gb ((k0 : Int) + 1) (by omega) (by omega)
  have htn : ((k0 : Int) + 1).toNat = k0 + 1 := by omega
  rw [htn] at hsl
  clear htn
  have HS := Lib.hid hs
  have HB := Lib.hid hb
  have HN := Lib.hid hn
  have HY := Lib.hid hbyte
  have HNN := Lib.hid hnn
  have HG := Lib.hid hgb
  have HAV := Lib.hid hav
  have hml : n ≤ 64 := by omega
  clear hs hb hn hbyte hnn hgb hav
  go_enter Tryd.func18, Tryd.ntmps18
  go_wp2
  rw [hmod]
  have hw : St (w.drewN 1) p := R.move [] w _ p HS.out (by simp) ((Touch.refl _ _).drewN 1)
  have HW := Lib.hid hw
  clear hw hmod
  go_region_with (first | (refine (full_ok R w.drew p gb 1 (k0 + 1) 8 (brCells ty g buf x 0) 72 HW.out HAV.out HB.out (by simp [brCells, hl]; omega) (by omega) hk8 (by omega) HG.out).mono ?_; rintro e w' ⟨rfl, ht, hs', hb'⟩))
  rw [br_bufIn _ _ _ _ _ _ _ _ hl hk8] at hb'
  have hl' := bufIn_len buf l p (k0 + 1) hl hk8
  have hat : ∀ i, i < k0 + 1 → w'.cell? ⟨gb, 1 + i, none⟩ = some (.int .u8 (l.getD (p + i) 0)) := fun i hi => by
    rw [cell_of_row w' gb (1 + i) _ _ _ hb', bufIn_at _ _ _ _ _ _ _ _ _ hl hk8 HAV.out hi]
  have HT := Lib.hid (((Touch.refl (gb :: S) w).drew).trans ht)
  have HS' := Lib.hid hs'
  have HB' := Lib.hid hb'
  have HAT := Lib.hid hat
  have hsl2 := bufTo gb (k0 : Int) (by omega) (by omega)
  have htn : (k0 : Int).toNat = k0 := by omega
  rw [htn] at hsl2
  clear htn hsl c0 c10 ht hs' hb' hat
  go_wp2
  go_loop [4, 124] (fun v i => ∃ j : Nat, j ≤ k0 ∧ i = .int .i64 j ∧ v = .int .u64 (acc l p 0 (8 * j) : Nat)) (fun _ i => k0 - (intOf i).toNat)
  case atStart => exact ⟨0, by omega, rfl, by simp [acc, num]⟩
  case round =>
    obtain ⟨j, hj, rfl, rfl⟩ := hrel
    obtain ⟨y, hy⟩ : ∃ y, acc l p 0 (8 * j) = y := ⟨_, rfl⟩
    obtain ⟨b, hbb⟩ : ∃ b, byteAt l (p + j) = b := ⟨_, rfl⟩
    have hb255 : b ≤ 255 := by rw [← hbb]; have := HY.out (p + j); omega
    have hcell : w'.cell? ⟨gb, 1 + j, none⟩ = some (.int .u8 b) := by
      rw [HAT.out j (by omega), ← hbb]
      have := HNN.out (p + j)
      unfold byteAt; congr 2; omega
    have hstep : j < k0 + 1 → ∃ y2 : Nat, bits .or .u64 (IntKind.u64.wrap ((y : Int) * 256)) (b : Int) = (y2 : Int) ∧ acc l p 0 (8 * (j + 1)) = y2 := by
      intro hjj
      have h1 := acc_byte l p 0 j (HY.out _)
      rw [hy, hbb] at h1
      have h2 := acc_lt l p 0 (8 * (j + 1)) 0 (by decide)
      have h3 : 2 ^ (0 + 8 * (j + 1)) ≤ 2 ^ 64 := Nat.pow_le_pow_right (by decide) (by have := HN.out; omega)
      exact ⟨y * 256 + b, or_byte y b (by omega) (by omega), h1⟩
    by_cases hlt : j < k0
    · obtain ⟨y2, hy2, hy3⟩ := hstep (by omega)
      have HY3 := Lib.hid hy3
      rw [hy]
      clear hy hbb hy3 hstep
      go_wp2
      go_round
      case rel => exact ⟨j + 1, by omega, by go_num, by rw [HY3.out]⟩
      case measure => simp [intOf]; omega
    · obtain rfl : j = k0 := by omega
      obtain ⟨y2, hy2, hy3⟩ := hstep (by omega)
      have HY3 := Lib.hid hy3
      rw [hy]
      clear hy hbb hy3 hstep
      go_wp2
      go_ret2
      exact ⟨by rw [HY3.out]; rfl, HT.out, HS'.out, bufIn buf l p (j + 1), hl', HB'.out⟩
end Go.Proofs.YtfpeoadgbidahaaDoor.Walk
