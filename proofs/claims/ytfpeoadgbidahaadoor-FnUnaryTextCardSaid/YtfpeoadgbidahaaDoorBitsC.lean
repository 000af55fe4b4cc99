/- (*bits.Reader).Read where more bits are wanted than are kept: some are kept, the last byte is parted. -/
import Derived.Test.YtfpeoadgbidahaaDoorBits
namespace Go.Proofs.YtfpeoadgbidahaaDoor.Walk
set_option linter.unusedVariables false
set_option linter.unusedSimpArgs false
open Go Go.RowKit Go.Proofs.YtfpeoadgbidahaaDoorW.PrintWords Go.Proofs.YtfpeoadgbidahaaDoor.Num

set_option maxHeartbeats 2000000 in
set_option maxRecDepth 100000 in
theorem br_moreC {ty fn g : Nat} {S D : List Nat} {l : List Int} {St : World → Nat → Prop} (R : Src ty fn g S D l St) (w : World) (p gb x n k r nb m : Nat) (buf : List Value)
    (hs : St w p) (hl : buf.length = 8) (hx : x < 256) (hx2 : x < 2 ^ nb) (hnb : 0 < nb) (hnb7 : nb ≤ 7) (hnm : n = nb + m) (hn : m = 8 * k + r) (hr : 0 < r) (hr8 : r < 8) (hn64 : n ≤ 64) (hgb : gb ∉ D) (hav : p + (k + 1) ≤ l.length)
    (hbyte : ∀ i, byteAt l i < 256) (hnn : ∀ i, 0 ≤ l.getD i 0)
    (hb : w.heap[gb]? = some (.cells (brCells ty g buf x nb).toArray 72 (0, 0))) :
    Calls Tryd.prog 18 #[.pointer (some ⟨gb, 0, none⟩), .int .u64 n] w fun e w' =>
      e = .returned (.tuple #[.int .u64 (acc l p x (8 * k + r)), .nilIface]) ∧ Touch (gb :: S) w w' ∧ St w' (p + (k + 1)) ∧
      ∃ buf', buf'.length = 8 ∧ w'.heap[gb]? = some (.cells (brCells ty g buf' (byteAt l (p + k) % 2 ^ (8 - r) : Nat) (8 - r : Nat)).toArray 72 (0, 0)) := by
  have c0 : w.cell? ⟨gb, 0, none⟩ = some (.iface ty (.pointer (some ⟨g, 0, none⟩))) := by rw [cell_of_row w gb 0 _ _ _ hb, br0 _ _ _ _ _ hl]
  have c10 : w.cell? ⟨gb, 10, none⟩ = some (.int .u64 nb) := by rw [cell_of_row w gb 10 _ _ _ hb, br10 _ _ _ _ _ hl]
  have c9 : w.cell? ⟨gb, 9, none⟩ = some (.int .u8 x) := by rw [cell_of_row w gb 9 _ _ _ hb, br9 _ _ _ _ _ hl]
  have f10 : w.frozen? ⟨gb, 10, none⟩ = false := by simp [World.frozen?, hb]
  have hne : ((nb : Int) == (n : Int)) = false := by rw [beq_eq_false_iff_ne]; omega
  have hsub : ((n : Int) - (nb : Int)) = (m : Int) := by omega
  have hn0 : ((n : Int) == 0) = false := by rw [beq_eq_false_iff_ne]; omega
  have hdiv : (m : Int) / 8 = (k : Int) := by omega
  have hmod : (m : Int) % 8 = (r : Int) := by omega
  have hk8 : k + 1 ≤ 8 := by omega
  have hsl := bufTo gb ((k : Int) + 1) (by omega) (by omega)
  have htn : ((k : Int) + 1).toNat = k + 1 := by omega
  rw [htn] at hsl
  clear htn
  have HS := Lib.hid hs
  have HB := Lib.hid hb
  have HN := Lib.hid hn
  have HY := Lib.hid hbyte
  have HNN := Lib.hid hnn
  have HG := Lib.hid hgb
  have HAV := Lib.hid hav
  have HNM := Lib.hid hnm
  have HX2 := Lib.hid hx2
  have hml : m ≤ 64 := by omega
  have hm0 : 0 < m := by omega
  have hnbn : nb < n := by omega
  clear hs hb hn hbyte hnn hgb hav hnm hx2
  go_enter Tryd.func18, Tryd.ntmps18
  go_wp2
  obtain ⟨w0, hw0⟩ : ∃ w0, w.setCell ⟨gb, 10, none⟩ (.int .u64 0) = w0 := ⟨_, rfl⟩
  rw [hw0]
  have t0 : Touch [gb] w w0 := by rw [← hw0]; exact (Touch.refl _ _).setCell (.inl (by simp)) _
  have b0 : w0.heap[gb]? = some (.cells (brCells ty g buf x 0).toArray 72 (0, 0)) := by
    rw [← hw0, blk_set HB.out 10, br10_set _ _ _ _ _ _ hl]
  have s0 : St w0 p := R.move [gb] w _ p HS.out (by simp; exact HG.out) t0
  clear hw0 c0 c9 c10 f10
  have c0 : w0.cell? ⟨gb, 0, none⟩ = some (.iface ty (.pointer (some ⟨g, 0, none⟩))) := by rw [cell_of_row w0 gb 0 _ _ _ b0, br0 _ _ _ _ _ hl]
  have T0 := Lib.hid t0
  have B0 := Lib.hid b0
  have S0 := Lib.hid s0
  clear t0 b0 s0
  rw [hmod]
  have hw : St (w0.drewN 1) p := R.move [] w0 _ p S0.out (by simp) ((Touch.refl _ _).drewN 1)
  have HW := Lib.hid hw
  clear hw hmod
  go_region_with (first | (refine (full_ok R w0.drew p gb 1 (k + 1) 8 (brCells ty g buf x 0) 72 HW.out HAV.out B0.out (by simp [brCells, hl]; omega) (by omega) hk8 (by omega) HG.out).mono ?_; rintro e w' ⟨rfl, ht, hs', hb'⟩))
  rw [br_bufIn _ _ _ _ _ _ _ _ hl hk8] at hb'
  have hl' := bufIn_len buf l p (k + 1) hl hk8
  have hat : ∀ i, i < k + 1 → w'.cell? ⟨gb, 1 + i, none⟩ = some (.int .u8 (l.getD (p + i) 0)) := fun i hi => by
    rw [cell_of_row w' gb (1 + i) _ _ _ hb', bufIn_at _ _ _ _ _ _ _ _ _ hl hk8 HAV.out hi]
  have c9 : w'.cell? ⟨gb, 9, none⟩ = some (.int .u8 x) := by rw [cell_of_row w' gb 9 _ _ _ hb', br9 _ _ _ _ _ hl']
  have c10' : w'.cell? ⟨gb, 10, none⟩ = some (.int .u64 0) := by rw [cell_of_row w' gb 10 _ _ _ hb', br10 _ _ _ _ _ hl']
  have f9 : w'.frozen? ⟨gb, 9, none⟩ = false := by simp [World.frozen?, hb']
  have f10 : w'.frozen? ⟨gb, 10, none⟩ = false := by simp [World.frozen?, hb']
  have HT := Lib.hid ((T0.out.mono (T := gb :: S) (fun k _ hk => by simp at hk ⊢; exact .inl hk)).trans (((Touch.refl (gb :: S) w0).drew).trans ht))
  have HS' := Lib.hid hs'
  have HB' := Lib.hid hb'
  have HAT := Lib.hid hat
  have hsl2 := bufTo gb (k : Int) (by omega) (by omega)
  have htn : (k : Int).toNat = k := by omega
  rw [htn] at hsl2
  clear htn hsl c0 ht hs' hb' hat
  go_wp2
  go_loop [4, 124] (fun v i => ∃ j : Nat, j ≤ k ∧ i = .int .i64 j ∧ v = .int .u64 (acc l p x (8 * j) : Nat)) (fun _ i => k - (intOf i).toNat)
  case atStart => exact ⟨0, by omega, rfl, by simp [acc, num]⟩
  case round =>
    obtain ⟨j, hj, rfl, rfl⟩ := hrel
    obtain ⟨y, hy⟩ : ∃ y, acc l p x (8 * j) = y := ⟨_, rfl⟩
    obtain ⟨b, hbb⟩ : ∃ b, byteAt l (p + j) = b := ⟨_, rfl⟩
    have hb255 : b ≤ 255 := by rw [← hbb]; have := HY.out (p + j); omega
    have hcell : w'.cell? ⟨gb, 1 + j, none⟩ = some (.int .u8 b) := by
      rw [HAT.out j (by omega), ← hbb]
      have := HNN.out (p + j)
      unfold byteAt; congr 2; omega
    have hstep : j < k → ∃ y2 : Nat, bits .or .u64 (IntKind.u64.wrap ((y : Int) * 256)) (b : Int) = (y2 : Int) ∧ acc l p x (8 * (j + 1)) = y2 := by
      intro hjj
      have h1 := acc_byte l p x j (HY.out _)
      rw [hy, hbb] at h1
      have h2 := acc_lt l p x (8 * (j + 1)) nb HX2.out
      have h3 : 2 ^ (nb + 8 * (j + 1)) ≤ 2 ^ 64 := Nat.pow_le_pow_right (by decide) (by have := HN.out; have := HNM.out; omega)
      exact ⟨y * 256 + b, or_byte y b (by omega) (by omega), h1⟩
    by_cases hlt : j < k
    · obtain ⟨y2, hy2, hy3⟩ := hstep (by omega)
      have HY3 := Lib.hid hy3
      rw [hy]
      clear hy hbb hy3 hstep
      go_wp2
      go_round
      case rel => exact ⟨j + 1, by omega, by go_num, by rw [HY3.out]⟩
      case measure => simp [intOf]; omega
    · obtain rfl : j = k := by omega
      clear hstep
      obtain ⟨d, hd⟩ : ∃ d, 8 - r = d := ⟨_, rfl⟩
      have hd1 : ((8 : Int) - (r : Int)) = (d : Int) := by omega
      have hd0 : 0 < d := by omega
      have hd7 : d ≤ 7 := by omega
      obtain ⟨q, hq, hqx⟩ : ∃ q : Nat, bits .and .u8 (b : Int) (255 * 2 ^ d % 256) = (q : Int) ∧ q = b / 2 ^ d * 2 ^ d := ⟨_, mask_of b d (by omega) hd7, rfl⟩
      have hq1 : q ≤ 255 := by rw [hqx]; exact Nat.le_trans (Nat.div_mul_le_self _ _) (by omega)
      have HQ := Lib.hid hqx
      have HYY := Lib.hid hy
      have HBB := Lib.hid hbb
      have HD := Lib.hid hd
      rw [hy]
      clear hy hbb hqx hd
      go_wp2
      go_ret2
      have hnum : acc l p x (8 * j + r) = y * 2 ^ r + b / 2 ^ (8 - r) % 2 ^ r := by rw [acc_bits l p x j r (by omega), HYY.out, HBB.out]
      have hlt : y * 2 ^ r + 2 ^ r ≤ 18446744073709551616 := by
        have h1 := acc_lt l p x (8 * j) nb HX2.out
        rw [HYY.out] at h1
        have h2 : (y + 1) * 2 ^ r ≤ 2 ^ (nb + 8 * j) * 2 ^ r := Nat.mul_le_mul_right _ (by omega)
        have h3 : 2 ^ (nb + 8 * j) * 2 ^ r ≤ 2 ^ 64 := by rw [← Nat.pow_add]; exact Nat.pow_le_pow_right (by decide) (by have := HN.out; have := HNM.out; omega)
        rw [Nat.add_mul, Nat.one_mul] at h2
        omega
      refine ⟨?_, ?_, ?_, bufIn buf l p (j + 1), hl', ?_⟩
      · rw [hnum, ← or_bits y b q r d (by omega) HQ.out HD.out hr hr8 hlt]; rfl
      · exact (HT.out.setCell (.inl (by simp)) _).setCell (.inl (by simp)) _
      · exact R.move [gb] w' _ _ HS'.out (by simp; exact HG.out) (((Touch.refl [gb] w').setCell (.inl (by simp)) _).setCell (.inl (by simp)) _)
      · rw [unmask2_of b d (by omega) hd7, HBB.out, HD.out]
        have e1 := blk_set HB'.out 10 (.int .u64 (d : Int))
        rw [br10_set _ _ _ _ _ _ hl'] at e1
        have e2 := blk_set e1 9 (.int .u8 ((b % 2 ^ d : Nat) : Int))
        rw [br9_set _ _ _ _ _ _ hl'] at e2
        rw [e2]; simp
end Go.Proofs.YtfpeoadgbidahaaDoor.Walk
