/- (*bits.Reader).Read where more bits are wanted than are kept: none are kept, the last byte is parted. -/
/- (*bits.Reader).Read where more bits are wanted than are kept: none are kept, whole bytes. -/
/- (*bits.Reader).Read where more bits are wanted than are kept: some are kept, the last byte is parted. -/
/- (*bits.Reader).Read where more bits are wanted than are kept: some are kept, whole bytes. -/
/- (*bits.Reader).Read where bits are missing: it tells an error. And the whole contract of Read. -/
import Derived.Test.YtcdfbcanebjmfaaDoorBits
namespace Go.Proofs.YtcdfbcanebjmfaaDoor.Walk
set_option linter.unusedVariables false
set_option linter.unusedSimpArgs false
open Go Go.RowKit Go.Proofs.YtcdfbcanebjmfaaDoorW.PrintWords Go.Proofs.YtcdfbcanebjmfaaDoor.Num

set_option maxHeartbeats 2000000 in
set_option maxRecDepth 100000 in
theorem br_moreA {ty fn g : Nat} {S D : List Nat} {l : List Int} {St : World → Nat → Prop} (R : Src ty fn g S D l St) (w : World) (p gb x n k r : Nat) (buf : List Value)
    (hs : St w p) (hl : buf.length = 8) (hx : x < 256) (hn : n = 8 * k + r) (hr : 0 < r) (hr8 : r < 8) (hn64 : n ≤ 64) (hgb : gb ∉ D) (hav : p + (k + 1) ≤ l.length)
    (hbyte : ∀ i, byteAt l i < 256) (hnn : ∀ i, 0 ≤ l.getD i 0)
    (hb : w.heap[gb]? = some (.cells (brCells ty g buf x 0).toArray 127 (0, 0))) :
    Calls Tryd.prog 27 #[.pointer (some ⟨gb, 0, none⟩), .int .u64 n] w fun e w' =>
      e = .returned (.tuple #[.int .u64 (acc l p 0 (8 * k + r)), .nilIface]) ∧ Touch (gb :: S) w w' ∧ St w' (p + (k + 1)) ∧
      ∃ buf', buf'.length = 8 ∧ w'.heap[gb]? = some (.cells (brCells ty g buf' (byteAt l (p + k) % 2 ^ (8 - r) : Nat) (8 - r : Nat)).toArray 127 (0, 0)) := by
  have c0 : w.cell? ⟨gb, 0, none⟩ = some (.iface ty (.pointer (some ⟨g, 0, none⟩))) := by rw [cell_of_row w gb 0 _ _ _ hb, br0 _ _ _ _ _ hl]
  have c10 : w.cell? ⟨gb, 10, none⟩ = some (.int .u64 0) := by rw [cell_of_row w gb 10 _ _ _ hb, br10 _ _ _ _ _ hl]
  have hn0 : ((n : Int) == 0) = false := by rw [beq_eq_false_iff_ne]; omega
  have hdiv : (n : Int) / 8 = (k : Int) := by omega
  have hmod : (n : Int) % 8 = (r : Int) := by omega
  have hk8 : k + 1 ≤ 8 := by omega
  have hsl := bufTo gb ((k : Int) + 1) (by omega) (by omega)
  have htn : ((k : Int) + 1).toNat = k + 1 := by omega
  rw [htn] at hsl
  clear htn
  have HS := Lib.hid hs
  have HB := Lib.hid hb
  have HN := Lib.hid hn
  have HY := Lib.hid hbyte
  have HNN := Lib.hid hnn
  have HG := Lib.hid hgb
  have HAV := Lib.hid hav
  have hml : n ≤ 64 := by omega
  clear hs hb hn hbyte hnn hgb hav
  go_enter Tryd.func27, Tryd.ntmps27
  go_wp2
  rw [hmod]
  have hw : St (w.drewN 1) p := R.move [] w _ p HS.out (by simp) ((Touch.refl _ _).drewN 1)
  have HW := Lib.hid hw
  clear hw hmod
  go_region_with (first | (refine (full_ok R w.drew p gb 1 (k + 1) 8 (brCells ty g buf x 0) 127 HW.out HAV.out HB.out (by simp [brCells, hl]; omega) (by omega) hk8 (by omega) HG.out).mono ?_; rintro e w' ⟨rfl, ht, hs', hb'⟩))
  rw [br_bufIn _ _ _ _ _ _ _ _ hl hk8] at hb'
  have hl' := bufIn_len buf l p (k + 1) hl hk8
  have hat : ∀ i, i < k + 1 → w'.cell? ⟨gb, 1 + i, none⟩ = some (.int .u8 (l.getD (p + i) 0)) := fun i hi => by
    rw [cell_of_row w' gb (1 + i) _ _ _ hb', bufIn_at _ _ _ _ _ _ _ _ _ hl hk8 HAV.out hi]
  have c9 : w'.cell? ⟨gb, 9, none⟩ = some (.int .u8 x) := by rw [cell_of_row w' gb 9 _ _ _ hb', br9 _ _ _ _ _ hl']
  have c10' : w'.cell? ⟨gb, 10, none⟩ = some (.int .u64 0) := by rw [cell_of_row w' gb 10 _ _ _ hb', br10 _ _ _ _ _ hl']
  have f9 : w'.frozen? ⟨gb, 9, none⟩ = false := by simp [World.frozen?, hb']
  have f10 : w'.frozen? ⟨gb, 10, none⟩ = false := by simp [World.frozen?, hb']
  have HT := Lib.hid (((Touch.refl (gb :: S) w).drew).trans ht)
  have HS' := Lib.hid hs'
  have HB' := Lib.hid hb'
  have HAT := Lib.hid hat
  have hsl2 := bufTo gb (k : Int) (by omega) (by omega)
  have htn : (k : Int).toNat = k := by omega
  rw [htn] at hsl2
  clear htn hsl c0 c10 ht hs' hb' hat
  go_wp2
  go_loop [4, 124] (fun v i => ∃ j : Nat, j ≤ k ∧ i = .int .i64 j ∧ v = .int .u64 (acc l p 0 (8 * j) : Nat)) (fun _ i => k - (intOf i).toNat)
  case atStart => exact ⟨0, by omega, rfl, by simp [acc, num]⟩
  case round =>
    obtain ⟨j, hj, rfl, rfl⟩ := hrel
    obtain ⟨y, hy⟩ : ∃ y, acc l p 0 (8 * j) = y := ⟨_, rfl⟩
    obtain ⟨b, hbb⟩ : ∃ b, byteAt l (p + j) = b := ⟨_, rfl⟩
    have hb255 : b ≤ 255 := by rw [← hbb]; have := HY.out (p + j); omega
    have hcell : w'.cell? ⟨gb, 1 + j, none⟩ = some (.int .u8 b) := by
      rw [HAT.out j (by omega), ← hbb]
      have := HNN.out (p + j)
      unfold byteAt; congr 2; omega
    have hstep : j < k → ∃ y2 : Nat, bits .or .u64 (IntKind.u64.wrap ((y : Int) * 256)) (b : Int) = (y2 : Int) ∧ acc l p 0 (8 * (j + 1)) = y2 := by
      intro hjj
      have h1 := acc_byte l p 0 j (HY.out _)
      rw [hy, hbb] at h1
      have h2 := acc_lt l p 0 (8 * (j + 1)) 0 (by decide)
      have h3 : 2 ^ (0 + 8 * (j + 1)) ≤ 2 ^ 64 := Nat.pow_le_pow_right (by decide) (by have := HN.out; omega)
      exact ⟨y * 256 + b, or_byte y b (by omega) (by omega), h1⟩
    by_cases hlt : j < k
    · obtain ⟨y2, hy2, hy3⟩ := hstep (by omega)
      have HY3 := Lib.hid hy3
      rw [hy]
      clear hy hbb hy3 hstep
      go_wp2
      go_round
      case rel => exact ⟨j + 1, by omega, by go_num, by rw [HY3.out]⟩
      case measure => simp [intOf]; omega
    · obtain rfl : j = k := by omega
      clear hstep
      obtain ⟨d, hd⟩ : ∃ d, 8 - r = d := ⟨_, rfl⟩
      have hd1 : ((8 : Int) - (r : Int)) = (d : Int) := by omega
      have hd0 : 0 < d := by omega
      have hd7 : d ≤ 7 := by omega
      obtain ⟨q, hq, hqx⟩ : ∃ q : Nat, bits .and .u8 (b : Int) (255 * 2 ^ d % 256) = (q : Int) ∧ q = b / 2 ^ d * 2 ^ d := ⟨_, mask_of b d (by omega) hd7, rfl⟩
      have hq1 : q ≤ 255 := by rw [hqx]; exact Nat.le_trans (Nat.div_mul_le_self _ _) (by omega)
      have HQ := Lib.hid hqx
      have HYY := Lib.hid hy
      have HBB := Lib.hid hbb
      have HD := Lib.hid hd
      rw [hy]
      clear hy hbb hqx hd
      go_wp2
      go_ret2
      have hnum : acc l p 0 (8 * j + r) = y * 2 ^ r + b / 2 ^ (8 - r) % 2 ^ r := by rw [acc_bits l p 0 j r (by omega), HYY.out, HBB.out]
      have hlt : y * 2 ^ r + 2 ^ r ≤ 18446744073709551616 := by
        have h1 := acc_lt l p 0 (8 * j) 0 (by decide)
        rw [HYY.out] at h1
        have h2 : (y + 1) * 2 ^ r ≤ 2 ^ (0 + 8 * j) * 2 ^ r := Nat.mul_le_mul_right _ (by omega)
        have h3 : 2 ^ (0 + 8 * j) * 2 ^ r ≤ 2 ^ 64 := by rw [← Nat.pow_add]; exact Nat.pow_le_pow_right (by decide) (by have := HN.out; omega)
        rw [Nat.add_mul, Nat.one_mul] at h2
        omega
      refine ⟨?_, ?_, ?_, bufIn buf l p (j + 1), hl', ?_⟩
      · rw [hnum, ← or_bits y b q r d (by omega) HQ.out HD.out hr hr8 hlt]; rfl
      · exact (HT.out.setCell (.inl (by simp)) _).setCell (.inl (by simp)) _
      · exact R.move [gb] w' _ _ HS'.out (by simp; exact HG.out) (((Touch.refl [gb] w').setCell (.inl (by simp)) _).setCell (.inl (by simp)) _)
      · rw [unmask2_of b d (by omega) hd7, HBB.out, HD.out]
        have e1 := blk_set HB'.out 10 (.int .u64 (d : Int))
        rw [br10_set _ _ _ _ _ _ hl'] at e1
        have e2 := blk_set e1 9 (.int .u8 ((b % 2 ^ d : Nat) : Int))
        rw [br9_set _ _ _ _ _ _ hl'] at e2
        rw [e2]; simp
end Go.Proofs.YtcdfbcanebjmfaaDoor.Walk
namespace Go.Proofs.YtcdfbcanebjmfaaDoor.Walk
set_option linter.unusedVariables false
set_option linter.unusedSimpArgs false
open Go Go.RowKit Go.Proofs.YtcdfbcanebjmfaaDoorW.PrintWords Go.Proofs.YtcdfbcanebjmfaaDoor.Num

set_option maxHeartbeats 2000000 in
set_option maxRecDepth 100000 in
theorem br_moreB {ty fn g : Nat} {S D : List Nat} {l : List Int} {St : World → Nat → Prop} (R : Src ty fn g S D l St) (w : World) (p gb x n k : Nat) (buf : List Value)
    (hs : St w p) (hl : buf.length = 8) (hx : x < 256) (hn : n = 8 * k) (hk : 0 < k) (hn64 : n ≤ 64) (hgb : gb ∉ D) (hav : p + (k) ≤ l.length)
    (hbyte : ∀ i, byteAt l i < 256) (hnn : ∀ i, 0 ≤ l.getD i 0)
    (hb : w.heap[gb]? = some (.cells (brCells ty g buf x 0).toArray 127 (0, 0))) :
    Calls Tryd.prog 27 #[.pointer (some ⟨gb, 0, none⟩), .int .u64 n] w fun e w' =>
      e = .returned (.tuple #[.int .u64 (acc l p 0 (8 * k)), .nilIface]) ∧ Touch (gb :: S) w w' ∧ St w' (p + (k)) ∧
      ∃ buf', buf'.length = 8 ∧ w'.heap[gb]? = some (.cells (brCells ty g buf' x 0).toArray 127 (0, 0)) := by
  obtain ⟨k0, rfl⟩ : ∃ k0, k = k0 + 1 := ⟨k - 1, by omega⟩
  have c0 : w.cell? ⟨gb, 0, none⟩ = some (.iface ty (.pointer (some ⟨g, 0, none⟩))) := by rw [cell_of_row w gb 0 _ _ _ hb, br0 _ _ _ _ _ hl]
  have c10 : w.cell? ⟨gb, 10, none⟩ = some (.int .u64 0) := by rw [cell_of_row w gb 10 _ _ _ hb, br10 _ _ _ _ _ hl]
  have hn0 : ((n : Int) == 0) = false := by rw [beq_eq_false_iff_ne]; omega
  have hdiv : (n : Int) / 8 = ((k0 : Int) + 1) := by omega
  have hmod : (n : Int) % 8 = 0 := by omega
  have hk8 : k0 + 1 ≤ 8 := by omega
  have hsl := bufTo gb ((k0 : Int) + 1) (by omega) (by omega)
  have htn : ((k0 : Int) + 1).toNat = k0 + 1 := by omega
  rw [htn] at hsl
  clear htn
  have HS := Lib.hid hs
  have HB := Lib.hid hb
  have HN := Lib.hid hn
  have HY := Lib.hid hbyte
  have HNN := Lib.hid hnn
  have HG := Lib.hid hgb
  have HAV := Lib.hid hav
  have hml : n ≤ 64 := by omega
  clear hs hb hn hbyte hnn hgb hav
  go_enter Tryd.func27, Tryd.ntmps27
  go_wp2
  rw [hmod]
  have hw : St (w.drewN 1) p := R.move [] w _ p HS.out (by simp) ((Touch.refl _ _).drewN 1)
  have HW := Lib.hid hw
  clear hw hmod
  go_region_with (first | (refine (full_ok R w.drew p gb 1 (k0 + 1) 8 (brCells ty g buf x 0) 127 HW.out HAV.out HB.out (by simp [brCells, hl]; omega) (by omega) hk8 (by omega) HG.out).mono ?_; rintro e w' ⟨rfl, ht, hs', hb'⟩))
  rw [br_bufIn _ _ _ _ _ _ _ _ hl hk8] at hb'
  have hl' := bufIn_len buf l p (k0 + 1) hl hk8
  have hat : ∀ i, i < k0 + 1 → w'.cell? ⟨gb, 1 + i, none⟩ = some (.int .u8 (l.getD (p + i) 0)) := fun i hi => by
    rw [cell_of_row w' gb (1 + i) _ _ _ hb', bufIn_at _ _ _ _ _ _ _ _ _ hl hk8 HAV.out hi]
  have HT := Lib.hid (((Touch.refl (gb :: S) w).drew).trans ht)
  have HS' := Lib.hid hs'
  have HB' := Lib.hid hb'
  have HAT := Lib.hid hat
  have hsl2 := bufTo gb (k0 : Int) (by omega) (by omega)
  have htn : (k0 : Int).toNat = k0 := by omega
  rw [htn] at hsl2
  clear htn hsl c0 c10 ht hs' hb' hat
  go_wp2
  go_loop [4, 124] (fun v i => ∃ j : Nat, j ≤ k0 ∧ i = .int .i64 j ∧ v = .int .u64 (acc l p 0 (8 * j) : Nat)) (fun _ i => k0 - (intOf i).toNat)
  case atStart => exact ⟨0, by omega, rfl, by simp [acc, num]⟩
  case round =>
    obtain ⟨j, hj, rfl, rfl⟩ := hrel
    obtain ⟨y, hy⟩ : ∃ y, acc l p 0 (8 * j) = y := ⟨_, rfl⟩
    obtain ⟨b, hbb⟩ : ∃ b, byteAt l (p + j) = b := ⟨_, rfl⟩
    have hb255 : b ≤ 255 := by rw [← hbb]; have := HY.out (p + j); omega
    have hcell : w'.cell? ⟨gb, 1 + j, none⟩ = some (.int .u8 b) := by
      rw [HAT.out j (by omega), ← hbb]
      have := HNN.out (p + j)
      unfold byteAt; congr 2; omega
    have hstep : j < k0 + 1 → ∃ y2 : Nat, bits .or .u64 (IntKind.u64.wrap ((y : Int) * 256)) (b : Int) = (y2 : Int) ∧ acc l p 0 (8 * (j + 1)) = y2 := by
      intro hjj
      have h1 := acc_byte l p 0 j (HY.out _)
      rw [hy, hbb] at h1
      have h2 := acc_lt l p 0 (8 * (j + 1)) 0 (by decide)
      have h3 : 2 ^ (0 + 8 * (j + 1)) ≤ 2 ^ 64 := Nat.pow_le_pow_right (by decide) (by have := HN.out; omega)
      exact ⟨y * 256 + b, or_byte y b (by omega) (by omega), h1⟩
    by_cases hlt : j < k0
    · obtain ⟨y2, hy2, hy3⟩ := hstep (by omega)
      have HY3 := Lib.hid hy3
      rw [hy]
      clear hy hbb hy3 hstep
      go_wp2
      go_round
      case rel => exact ⟨j + 1, by omega, by go_num, by rw [HY3.out]⟩
      case measure => simp [intOf]; omega
    · obtain rfl : j = k0 := by omega
      obtain ⟨y2, hy2, hy3⟩ := hstep (by omega)
      have HY3 := Lib.hid hy3
      rw [hy]
      clear hy hbb hy3 hstep
      go_wp2
      go_ret2
      exact ⟨by rw [HY3.out]; rfl, HT.out, HS'.out, bufIn buf l p (j + 1), hl', HB'.out⟩
end Go.Proofs.YtcdfbcanebjmfaaDoor.Walk
namespace Go.Proofs.YtcdfbcanebjmfaaDoor.Walk
set_option linter.unusedVariables false
set_option linter.unusedSimpArgs false
open Go Go.RowKit Go.Proofs.YtcdfbcanebjmfaaDoorW.PrintWords Go.Proofs.YtcdfbcanebjmfaaDoor.Num

set_option maxHeartbeats 2000000 in
set_option maxRecDepth 100000 in
theorem br_moreC {ty fn g : Nat} {S D : List Nat} {l : List Int} {St : World → Nat → Prop} (R : Src ty fn g S D l St) (w : World) (p gb x n k r nb m : Nat) (buf : List Value)
    (hs : St w p) (hl : buf.length = 8) (hx : x < 256) (hx2 : x < 2 ^ nb) (hnb : 0 < nb) (hnb7 : nb ≤ 7) (hnm : n = nb + m) (hn : m = 8 * k + r) (hr : 0 < r) (hr8 : r < 8) (hn64 : n ≤ 64) (hgb : gb ∉ D) (hav : p + (k + 1) ≤ l.length)
    (hbyte : ∀ i, byteAt l i < 256) (hnn : ∀ i, 0 ≤ l.getD i 0)
    (hb : w.heap[gb]? = some (.cells (brCells ty g buf x nb).toArray 127 (0, 0))) :
    Calls Tryd.prog 27 #[.pointer (some ⟨gb, 0, none⟩), .int .u64 n] w fun e w' =>
      e = .returned (.tuple #[.int .u64 (acc l p x (8 * k + r)), .nilIface]) ∧ Touch (gb :: S) w w' ∧ St w' (p + (k + 1)) ∧
      ∃ buf', buf'.length = 8 ∧ w'.heap[gb]? = some (.cells (brCells ty g buf' (byteAt l (p + k) % 2 ^ (8 - r) : Nat) (8 - r : Nat)).toArray 127 (0, 0)) := by
  have c0 : w.cell? ⟨gb, 0, none⟩ = some (.iface ty (.pointer (some ⟨g, 0, none⟩))) := by rw [cell_of_row w gb 0 _ _ _ hb, br0 _ _ _ _ _ hl]
  have c10 : w.cell? ⟨gb, 10, none⟩ = some (.int .u64 nb) := by rw [cell_of_row w gb 10 _ _ _ hb, br10 _ _ _ _ _ hl]
  have c9 : w.cell? ⟨gb, 9, none⟩ = some (.int .u8 x) := by rw [cell_of_row w gb 9 _ _ _ hb, br9 _ _ _ _ _ hl]
  have f10 : w.frozen? ⟨gb, 10, none⟩ = false := by simp [World.frozen?, hb]
  have hne : ((nb : Int) == (n : Int)) = false := by rw [beq_eq_false_iff_ne]; omega
  have hsub : ((n : Int) - (nb : Int)) = (m : Int) := by omega
  have hn0 : ((n : Int) == 0) = false := by rw [beq_eq_false_iff_ne]; omega
  have hdiv : (m : Int) / 8 = (k : Int) := by omega
  have hmod : (m : Int) % 8 = (r : Int) := by omega
  have hk8 : k + 1 ≤ 8 := by omega
  have hsl := bufTo gb ((k : Int) + 1) (by omega) (by omega)
  have htn : ((k : Int) + 1).toNat = k + 1 := by omega
  rw [htn] at hsl
  clear htn
  have HS := Lib.hid hs
  have HB := Lib.hid hb
  have HN := Lib.hid hn
  have HY := Lib.hid hbyte
  have HNN := Lib.hid hnn
  have HG := Lib.hid hgb
  have HAV := Lib.hid hav
  have HNM := Lib.hid hnm
  have HX2 := Lib.hid hx2
  have hml : m ≤ 64 := by omega
  have hm0 : 0 < m := by omega
  have hnbn : nb < n := by omega
  clear hs hb hn hbyte hnn hgb hav hnm hx2
  go_enter Tryd.func27, Tryd.ntmps27
  go_wp2
  obtain ⟨w0, hw0⟩ : ∃ w0, w.setCell ⟨gb, 10, none⟩ (.int .u64 0) = w0 := ⟨_, rfl⟩
  rw [hw0]
  have t0 : Touch [gb] w w0 := by rw [← hw0]; exact (Touch.refl _ _).setCell (.inl (by simp)) _
  have b0 : w0.heap[gb]? = some (.cells (brCells ty g buf x 0).toArray 127 (0, 0)) := by
    rw [← hw0, blk_set HB.out 10, br10_set _ _ _ _ _ _ hl]
  have s0 : St w0 p := R.move [gb] w _ p HS.out (by simp; exact HG.out) t0
  clear hw0 c0 c9 c10 f10
  have c0 : w0.cell? ⟨gb, 0, none⟩ = some (.iface ty (.pointer (some ⟨g, 0, none⟩))) := by rw [cell_of_row w0 gb 0 _ _ _ b0, br0 _ _ _ _ _ hl]
  have T0 := Lib.hid t0
  have B0 := Lib.hid b0
  have S0 := Lib.hid s0
  clear t0 b0 s0
  rw [hmod]
  have hw : St (w0.drewN 1) p := R.move [] w0 _ p S0.out (by simp) ((Touch.refl _ _).drewN 1)
  have HW := Lib.hid hw
  clear hw hmod
  go_region_with (first | (refine (full_ok R w0.drew p gb 1 (k + 1) 8 (brCells ty g buf x 0) 127 HW.out HAV.out B0.out (by simp [brCells, hl]; omega) (by omega) hk8 (by omega) HG.out).mono ?_; rintro e w' ⟨rfl, ht, hs', hb'⟩))
  rw [br_bufIn _ _ _ _ _ _ _ _ hl hk8] at hb'
  have hl' := bufIn_len buf l p (k + 1) hl hk8
  have hat : ∀ i, i < k + 1 → w'.cell? ⟨gb, 1 + i, none⟩ = some (.int .u8 (l.getD (p + i) 0)) := fun i hi => by
    rw [cell_of_row w' gb (1 + i) _ _ _ hb', bufIn_at _ _ _ _ _ _ _ _ _ hl hk8 HAV.out hi]
  have c9 : w'.cell? ⟨gb, 9, none⟩ = some (.int .u8 x) := by rw [cell_of_row w' gb 9 _ _ _ hb', br9 _ _ _ _ _ hl']
  have c10' : w'.cell? ⟨gb, 10, none⟩ = some (.int .u64 0) := by rw [cell_of_row w' gb 10 _ _ _ hb', br10 _ _ _ _ _ hl']
  have f9 : w'.frozen? ⟨gb, 9, none⟩ = false := by simp [World.frozen?, hb']
  have f10 : w'.frozen? ⟨gb, 10, none⟩ = false := by simp [World.frozen?, hb']
  have HT := Lib.hid ((T0.out.mono (T := gb :: S) (fun k _ hk => by simp at hk ⊢; exact .inl hk)).trans (((Touch.refl (gb :: S) w0).drew).trans ht))
  have HS' := Lib.hid hs'
  have HB' := Lib.hid hb'
  have HAT := Lib.hid hat
  have hsl2 := bufTo gb (k : Int) (by omega) (by omega)
  have htn : (k : Int).toNat = k := by omega
  rw [htn] at hsl2
  clear htn hsl c0 ht hs' hb' hat
  go_wp2
  go_loop [4, 124] (fun v i => ∃ j : Nat, j ≤ k ∧ i = .int .i64 j ∧ v = .int .u64 (acc l p x (8 * j) : Nat)) (fun _ i => k - (intOf i).toNat)
  case atStart => exact ⟨0, by omega, rfl, by simp [acc, num]⟩
  case round =>
    obtain ⟨j, hj, rfl, rfl⟩ := hrel
    obtain ⟨y, hy⟩ : ∃ y, acc l p x (8 * j) = y := ⟨_, rfl⟩
    obtain ⟨b, hbb⟩ : ∃ b, byteAt l (p + j) = b := ⟨_, rfl⟩
    have hb255 : b ≤ 255 := by rw [← hbb]; have := HY.out (p + j); omega
    have hcell : w'.cell? ⟨gb, 1 + j, none⟩ = some (.int .u8 b) := by
      rw [HAT.out j (by omega), ← hbb]
      have := HNN.out (p + j)
      unfold byteAt; congr 2; omega
    have hstep : j < k → ∃ y2 : Nat, bits .or .u64 (IntKind.u64.wrap ((y : Int) * 256)) (b : Int) = (y2 : Int) ∧ acc l p x (8 * (j + 1)) = y2 := by
      intro hjj
      have h1 := acc_byte l p x j (HY.out _)
      rw [hy, hbb] at h1
      have h2 := acc_lt l p x (8 * (j + 1)) nb HX2.out
      have h3 : 2 ^ (nb + 8 * (j + 1)) ≤ 2 ^ 64 := Nat.pow_le_pow_right (by decide) (by have := HN.out; have := HNM.out; omega)
      exact ⟨y * 256 + b, or_byte y b (by omega) (by omega), h1⟩
    by_cases hlt : j < k
    · obtain ⟨y2, hy2, hy3⟩ := hstep (by omega)
      have HY3 := Lib.hid hy3
      rw [hy]
      clear hy hbb hy3 hstep
      go_wp2
      go_round
      case rel => exact ⟨j + 1, by omega, by go_num, by rw [HY3.out]⟩
      case measure => simp [intOf]; omega
    · obtain rfl : j = k := by omega
      clear hstep
      obtain ⟨d, hd⟩ : ∃ d, 8 - r = d := ⟨_, rfl⟩
      have hd1 : ((8 : Int) - (r : Int)) = (d : Int) := by omega
      have hd0 : 0 < d := by omega
      have hd7 : d ≤ 7 := by omega
      obtain ⟨q, hq, hqx⟩ : ∃ q : Nat, bits .and .u8 (b : Int) (255 * 2 ^ d % 256) = (q : Int) ∧ q = b / 2 ^ d * 2 ^ d := ⟨_, mask_of b d (by omega) hd7, rfl⟩
      have hq1 : q ≤ 255 := by rw [hqx]; exact Nat.le_trans (Nat.div_mul_le_self _ _) (by omega)
      have HQ := Lib.hid hqx
      have HYY := Lib.hid hy
      have HBB := Lib.hid hbb
      have HD := Lib.hid hd
      rw [hy]
      clear hy hbb hqx hd
      go_wp2
      go_ret2
      have hnum : acc l p x (8 * j + r) = y * 2 ^ r + b / 2 ^ (8 - r) % 2 ^ r := by rw [acc_bits l p x j r (by omega), HYY.out, HBB.out]
      have hlt : y * 2 ^ r + 2 ^ r ≤ 18446744073709551616 := by
        have h1 := acc_lt l p x (8 * j) nb HX2.out
        rw [HYY.out] at h1
        have h2 : (y + 1) * 2 ^ r ≤ 2 ^ (nb + 8 * j) * 2 ^ r := Nat.mul_le_mul_right _ (by omega)
        have h3 : 2 ^ (nb + 8 * j) * 2 ^ r ≤ 2 ^ 64 := by rw [← Nat.pow_add]; exact Nat.pow_le_pow_right (by decide) (by have := HN.out; have := HNM.out; omega)
        rw [Nat.add_mul, Nat.one_mul] at h2
        omega
      refine ⟨?_, ?_, ?_, bufIn buf l p (j + 1), hl', ?_⟩
      · rw [hnum, ← or_bits y b q r d (by omega) HQ.out HD.out hr hr8 hlt]; rfl
      · exact (HT.out.setCell (.inl (by simp)) _).setCell (.inl (by simp)) _
      · exact R.move [gb] w' _ _ HS'.out (by simp; exact HG.out) (((Touch.refl [gb] w').setCell (.inl (by simp)) _).setCell (.inl (by simp)) _)
      · rw [unmask2_of b d (by omega) hd7, HBB.out, HD.out]
        have e1 := blk_set HB'.out 10 (.int .u64 (d : Int))
        rw [br10_set _ _ _ _ _ _ hl'] at e1
        have e2 := blk_set e1 9 (.int .u8 ((b % 2 ^ d : Nat) : Int))
        rw [br9_set _ _ _ _ _ _ hl'] at e2
        rw [e2]; simp
end Go.Proofs.YtcdfbcanebjmfaaDoor.Walk
namespace Go.Proofs.YtcdfbcanebjmfaaDoor.Walk
set_option linter.unusedVariables false
set_option linter.unusedSimpArgs false
open Go Go.RowKit Go.Proofs.YtcdfbcanebjmfaaDoorW.PrintWords Go.Proofs.YtcdfbcanebjmfaaDoor.Num

set_option maxHeartbeats 2000000 in
set_option maxRecDepth 100000 in
theorem br_moreD {ty fn g : Nat} {S D : List Nat} {l : List Int} {St : World → Nat → Prop} (R : Src ty fn g S D l St) (w : World) (p gb x n k nb m : Nat) (buf : List Value)
    (hs : St w p) (hl : buf.length = 8) (hx : x < 256) (hx2 : x < 2 ^ nb) (hnb : 0 < nb) (hnb7 : nb ≤ 7) (hnm : n = nb + m) (hn : m = 8 * k) (hk : 0 < k) (hn64 : n ≤ 64) (hgb : gb ∉ D) (hav : p + (k) ≤ l.length)
    (hbyte : ∀ i, byteAt l i < 256) (hnn : ∀ i, 0 ≤ l.getD i 0)
    (hb : w.heap[gb]? = some (.cells (brCells ty g buf x nb).toArray 127 (0, 0))) :
    Calls Tryd.prog 27 #[.pointer (some ⟨gb, 0, none⟩), .int .u64 n] w fun e w' =>
      e = .returned (.tuple #[.int .u64 (acc l p x (8 * k)), .nilIface]) ∧ Touch (gb :: S) w w' ∧ St w' (p + (k)) ∧
      ∃ buf', buf'.length = 8 ∧ w'.heap[gb]? = some (.cells (brCells ty g buf' x 0).toArray 127 (0, 0)) := by
  obtain ⟨k0, rfl⟩ : ∃ k0, k = k0 + 1 := ⟨k - 1, by omega⟩
  have c0 : w.cell? ⟨gb, 0, none⟩ = some (.iface ty (.pointer (some ⟨g, 0, none⟩))) := by rw [cell_of_row w gb 0 _ _ _ hb, br0 _ _ _ _ _ hl]
  have c10 : w.cell? ⟨gb, 10, none⟩ = some (.int .u64 nb) := by rw [cell_of_row w gb 10 _ _ _ hb, br10 _ _ _ _ _ hl]
  have c9 : w.cell? ⟨gb, 9, none⟩ = some (.int .u8 x) := by rw [cell_of_row w gb 9 _ _ _ hb, br9 _ _ _ _ _ hl]
  have f10 : w.frozen? ⟨gb, 10, none⟩ = false := by simp [World.frozen?, hb]
  have hne : ((nb : Int) == (n : Int)) = false := by rw [beq_eq_false_iff_ne]; omega
  have hsub : ((n : Int) - (nb : Int)) = (m : Int) := by omega
  have hn0 : ((n : Int) == 0) = false := by rw [beq_eq_false_iff_ne]; omega
  have hdiv : (m : Int) / 8 = ((k0 : Int) + 1) := by omega
  have hmod : (m : Int) % 8 = 0 := by omega
  have hk8 : k0 + 1 ≤ 8 := by omega
  have hsl := bufTo gb ((k0 : Int) + 1) (by omega) (by omega)
  have htn : ((k0 : Int) + 1).toNat = k0 + 1 := by omega
  rw [htn] at hsl
  clear htn
  have HS := Lib.hid hs
  have HB := Lib.hid hb
  have HN := Lib.hid hn
  have HY := Lib.hid hbyte
  have HNN := Lib.hid hnn
  have HG := Lib.hid hgb
  have HAV := Lib.hid hav
  have HNM := Lib.hid hnm
  have HX2 := Lib.hid hx2
  have hml : m ≤ 64 := by omega
  have hm0 : 0 < m := by omega
  have hnbn : nb < n := by omega
  clear hs hb hn hbyte hnn hgb hav hnm hx2
  go_enter Tryd.func27, Tryd.ntmps27
  go_wp2
  obtain ⟨w0, hw0⟩ : ∃ w0, w.setCell ⟨gb, 10, none⟩ (.int .u64 0) = w0 := ⟨_, rfl⟩
  rw [hw0]
  have t0 : Touch [gb] w w0 := by rw [← hw0]; exact (Touch.refl _ _).setCell (.inl (by simp)) _
  have b0 : w0.heap[gb]? = some (.cells (brCells ty g buf x 0).toArray 127 (0, 0)) := by
    rw [← hw0, blk_set HB.out 10, br10_set _ _ _ _ _ _ hl]
  have s0 : St w0 p := R.move [gb] w _ p HS.out (by simp; exact HG.out) t0
  clear hw0 c0 c9 c10 f10
  have c0 : w0.cell? ⟨gb, 0, none⟩ = some (.iface ty (.pointer (some ⟨g, 0, none⟩))) := by rw [cell_of_row w0 gb 0 _ _ _ b0, br0 _ _ _ _ _ hl]
  have T0 := Lib.hid t0
  have B0 := Lib.hid b0
  have S0 := Lib.hid s0
  clear t0 b0 s0
  rw [hmod]
  have hw : St (w0.drewN 1) p := R.move [] w0 _ p S0.out (by simp) ((Touch.refl _ _).drewN 1)
  have HW := Lib.hid hw
  clear hw hmod
  go_region_with (first | (refine (full_ok R w0.drew p gb 1 (k0 + 1) 8 (brCells ty g buf x 0) 127 HW.out HAV.out B0.out (by simp [brCells, hl]; omega) (by omega) hk8 (by omega) HG.out).mono ?_; rintro e w' ⟨rfl, ht, hs', hb'⟩))
  rw [br_bufIn _ _ _ _ _ _ _ _ hl hk8] at hb'
  have hl' := bufIn_len buf l p (k0 + 1) hl hk8
  have hat : ∀ i, i < k0 + 1 → w'.cell? ⟨gb, 1 + i, none⟩ = some (.int .u8 (l.getD (p + i) 0)) := fun i hi => by
    rw [cell_of_row w' gb (1 + i) _ _ _ hb', bufIn_at _ _ _ _ _ _ _ _ _ hl hk8 HAV.out hi]
  have HT := Lib.hid ((T0.out.mono (T := gb :: S) (fun k _ hk => by simp at hk ⊢; exact .inl hk)).trans (((Touch.refl (gb :: S) w0).drew).trans ht))
  have HS' := Lib.hid hs'
  have HB' := Lib.hid hb'
  have HAT := Lib.hid hat
  have hsl2 := bufTo gb (k0 : Int) (by omega) (by omega)
  have htn : (k0 : Int).toNat = k0 := by omega
  rw [htn] at hsl2
  clear htn hsl c0 ht hs' hb' hat
  go_wp2
  go_loop [4, 124] (fun v i => ∃ j : Nat, j ≤ k0 ∧ i = .int .i64 j ∧ v = .int .u64 (acc l p x (8 * j) : Nat)) (fun _ i => k0 - (intOf i).toNat)
  case atStart => exact ⟨0, by omega, rfl, by simp [acc, num]⟩
  case round =>
    obtain ⟨j, hj, rfl, rfl⟩ := hrel
    obtain ⟨y, hy⟩ : ∃ y, acc l p x (8 * j) = y := ⟨_, rfl⟩
    obtain ⟨b, hbb⟩ : ∃ b, byteAt l (p + j) = b := ⟨_, rfl⟩
    have hb255 : b ≤ 255 := by rw [← hbb]; have := HY.out (p + j); omega
    have hcell : w'.cell? ⟨gb, 1 + j, none⟩ = some (.int .u8 b) := by
      rw [HAT.out j (by omega), ← hbb]
      have := HNN.out (p + j)
      unfold byteAt; congr 2; omega
    have hstep : j < k0 + 1 → ∃ y2 : Nat, bits .or .u64 (IntKind.u64.wrap ((y : Int) * 256)) (b : Int) = (y2 : Int) ∧ acc l p x (8 * (j + 1)) = y2 := by
      intro hjj
      have h1 := acc_byte l p x j (HY.out _)
      rw [hy, hbb] at h1
      have h2 := acc_lt l p x (8 * (j + 1)) nb HX2.out
      have h3 : 2 ^ (nb + 8 * (j + 1)) ≤ 2 ^ 64 := Nat.pow_le_pow_right (by decide) (by have := HN.out; have := HNM.out; omega)
      exact ⟨y * 256 + b, or_byte y b (by omega) (by omega), h1⟩
    by_cases hlt : j < k0
    · obtain ⟨y2, hy2, hy3⟩ := hstep (by omega)
      have HY3 := Lib.hid hy3
      rw [hy]
      clear hy hbb hy3 hstep
      go_wp2
      go_round
      case rel => exact ⟨j + 1, by omega, by go_num, by rw [HY3.out]⟩
      case measure => simp [intOf]; omega
    · obtain rfl : j = k0 := by omega
      obtain ⟨y2, hy2, hy3⟩ := hstep (by omega)
      have HY3 := Lib.hid hy3
      rw [hy]
      clear hy hbb hy3 hstep
      go_wp2
      go_ret2
      exact ⟨by rw [HY3.out]; rfl, HT.out, HS'.out, bufIn buf l p (j + 1), hl', HB'.out⟩
end Go.Proofs.YtcdfbcanebjmfaaDoor.Walk
namespace Go.Proofs.YtcdfbcanebjmfaaDoor.Walk
set_option linter.unusedVariables false
set_option linter.unusedSimpArgs false
open Go Go.RowKit Go.Proofs.YtcdfbcanebjmfaaDoorW.PrintWords Go.Proofs.YtcdfbcanebjmfaaDoor.Num

/-- What io.ReadFull tells where bytes are missing. -/
def FullFails (S : List Nat) (ea eb : Addr) (w : World) (e : Ending) (w' : World) : Prop :=
  ∃ (z : Int) (a : Addr), (a = ea ∨ a = eb) ∧ e = .returned (.tuple #[.int .i64 z, .iface 130 (.pointer (some a))]) ∧ Touch S w w'
/-- What Read tells where bits are missing. -/
def ReadFails (S : List Nat) (ea eb : Addr) (w : World) (e : Ending) (w' : World) : Prop :=
  ∃ a : Addr, (a = ea ∨ a = eb) ∧ e = .returned (.tuple #[.int .u64 0, .iface 130 (.pointer (some a))]) ∧ Touch S w w'

theorem full_fail {ty fn g : Nat} {S D : List Nat} {l : List Int} {St : World → Nat → Prop} (R : Src ty fn g S D l St) (w : World) (p gb off m cb : Nat) (cur : List Value) (T : Nat) (ea eb : Addr)
    (hs : St w p) (hpm : l.length < p + m) (hb : w.heap[gb]? = some (.cells cur.toArray T (0, 0))) (hfit : off + m ≤ cur.length) (hm : 0 < m) (hcb : m ≤ cb) (hbig : m ≤ 9223372036854775807)
    (hg : gb ∉ D) (hG : Glob w ea eb) (hsafe : ∀ k ∈ gb :: S, Safe ea eb k) :
    Calls Tryd.prog 38 #[.iface ty (.pointer (some ⟨g, 0, none⟩)), .slice (some ⟨gb, off, none⟩) m cb] w (FullFails (gb :: S) ea eb w) := by
  have hle := R.le w p hs
  by_cases hp : p = l.length
  · refine (full_end R w p gb off m cb ea eb hs hp hm hcb hbig hG).mono ?_
    rintro e w' ⟨rfl, ht, _⟩
    exact ⟨0, ea, .inl rfl, rfl, ht.mono (fun k _ hk => List.mem_cons_of_mem _ hk)⟩
  · refine (full_short R w p gb off m cb cur T ea eb hs (by omega) hpm hb hfit hcb hbig hg hG hsafe).mono ?_
    rintro e w' ⟨rfl, ht, _⟩
    exact ⟨_, eb, .inr rfl, rfl, ht⟩

set_option maxHeartbeats 2000000 in
set_option maxRecDepth 100000 in
theorem br_failA {ty fn g : Nat} {S D : List Nat} {l : List Int} {St : World → Nat → Prop} (R : Src ty fn g S D l St) (w : World) (p gb x n k r : Nat) (buf : List Value) (ea eb : Addr)
    (hs : St w p) (hl : buf.length = 8) (hn : n = 8 * k + r) (hr : 0 < r) (hr8 : r < 8) (hn64 : n ≤ 64) (hgb : gb ∉ D) (hav : l.length < p + (k + 1))
    (hG : Glob w ea eb) (hsafe : ∀ k ∈ gb :: S, Safe ea eb k)
    (hb : w.heap[gb]? = some (.cells (brCells ty g buf x 0).toArray 127 (0, 0))) :
    Calls Tryd.prog 27 #[.pointer (some ⟨gb, 0, none⟩), .int .u64 n] w (ReadFails (gb :: S) ea eb w) := by
  have c0 : w.cell? ⟨gb, 0, none⟩ = some (.iface ty (.pointer (some ⟨g, 0, none⟩))) := by rw [cell_of_row w gb 0 _ _ _ hb, br0 _ _ _ _ _ hl]
  have c10 : w.cell? ⟨gb, 10, none⟩ = some (.int .u64 0) := by rw [cell_of_row w gb 10 _ _ _ hb, br10 _ _ _ _ _ hl]
  have hn0 : ((n : Int) == 0) = false := by rw [beq_eq_false_iff_ne]; omega
  have hdiv : (n : Int) / 8 = (k : Int) := by omega
  have hmod : (n : Int) % 8 = (r : Int) := by omega
  have hk8 : k + 1 ≤ 8 := by omega
  have hsl := bufTo gb ((k : Int) + 1) (by omega) (by omega)
  have htn : ((k : Int) + 1).toNat = k + 1 := by omega
  rw [htn] at hsl
  clear htn
  have HS := Lib.hid hs
  have HB := Lib.hid hb
  have HN := Lib.hid hn
  have HG := Lib.hid hgb
  have HAV := Lib.hid hav
  have HGG := Lib.hid hG
  have HSF := Lib.hid hsafe
  have hml : n ≤ 64 := by omega
  clear hs hb hn hgb hav hG hsafe
  go_enter Tryd.func27, Tryd.ntmps27
  go_wp2
  rw [hmod]
  have hw : St (w.drewN 1) p := R.move [] w _ p HS.out (by simp) ((Touch.refl _ _).drewN 1)
  have hgl : Glob (w.drewN 1) ea eb := HGG.out.touch ((Touch.refl [] _).drewN 1) (by simp)
  have HF := Lib.hid (full_fail R (w.drewN 1) p gb 1 (k + 1) 8 (brCells ty g buf x 0) 127 ea eb hw HAV.out HB.out (by simp [brCells, hl]; omega) (by omega) hk8 (by omega) HG.out hgl HSF.out)
  clear hw hmod hgl
  go_region_with (first | (refine HF.out.mono ?_; rintro e w' ⟨z, a, hor, rfl, ht⟩))
  have HT := Lib.hid (((Touch.refl (gb :: S) w).drewN 1).trans ht)
  have HO := Lib.hid hor
  clear ht hor
  go_wp2
  go_ret2
  exact ⟨a, HO.out, rfl, HT.out⟩

set_option maxHeartbeats 2000000 in
set_option maxRecDepth 100000 in
theorem br_failB {ty fn g : Nat} {S D : List Nat} {l : List Int} {St : World → Nat → Prop} (R : Src ty fn g S D l St) (w : World) (p gb x n k : Nat) (buf : List Value) (ea eb : Addr)
    (hs : St w p) (hl : buf.length = 8) (hn : n = 8 * k) (hk : 0 < k) (hn64 : n ≤ 64) (hgb : gb ∉ D) (hav : l.length < p + (k))
    (hG : Glob w ea eb) (hsafe : ∀ k ∈ gb :: S, Safe ea eb k)
    (hb : w.heap[gb]? = some (.cells (brCells ty g buf x 0).toArray 127 (0, 0))) :
    Calls Tryd.prog 27 #[.pointer (some ⟨gb, 0, none⟩), .int .u64 n] w (ReadFails (gb :: S) ea eb w) := by
  obtain ⟨k0, rfl⟩ : ∃ k0, k = k0 + 1 := ⟨k - 1, by omega⟩
  have c0 : w.cell? ⟨gb, 0, none⟩ = some (.iface ty (.pointer (some ⟨g, 0, none⟩))) := by rw [cell_of_row w gb 0 _ _ _ hb, br0 _ _ _ _ _ hl]
  have c10 : w.cell? ⟨gb, 10, none⟩ = some (.int .u64 0) := by rw [cell_of_row w gb 10 _ _ _ hb, br10 _ _ _ _ _ hl]
  have hn0 : ((n : Int) == 0) = false := by rw [beq_eq_false_iff_ne]; omega
  have hdiv : (n : Int) / 8 = ((k0 : Int) + 1) := by omega
  have hmod : (n : Int) % 8 = 0 := by omega
  have hk8 : k0 + 1 ≤ 8 := by omega
  have hsl := bufTo gb ((k0 : Int) + 1) (by omega) (by omega)
  have htn : ((k0 : Int) + 1).toNat = k0 + 1 := by omega
  rw [htn] at hsl
  clear htn
  have HS := Lib.hid hs
  have HB := Lib.hid hb
  have HN := Lib.hid hn
  have HG := Lib.hid hgb
  have HAV := Lib.hid hav
  have HGG := Lib.hid hG
  have HSF := Lib.hid hsafe
  have hml : n ≤ 64 := by omega
  clear hs hb hn hgb hav hG hsafe
  go_enter Tryd.func27, Tryd.ntmps27
  go_wp2
  rw [hmod]
  have hw : St (w.drewN 1) p := R.move [] w _ p HS.out (by simp) ((Touch.refl _ _).drewN 1)
  have hgl : Glob (w.drewN 1) ea eb := HGG.out.touch ((Touch.refl [] _).drewN 1) (by simp)
  have HF := Lib.hid (full_fail R (w.drewN 1) p gb 1 (k0 + 1) 8 (brCells ty g buf x 0) 127 ea eb hw HAV.out HB.out (by simp [brCells, hl]; omega) (by omega) hk8 (by omega) HG.out hgl HSF.out)
  clear hw hmod hgl
  go_region_with (first | (refine HF.out.mono ?_; rintro e w' ⟨z, a, hor, rfl, ht⟩))
  have HT := Lib.hid (((Touch.refl (gb :: S) w).drewN 1).trans ht)
  have HO := Lib.hid hor
  clear ht hor
  go_wp2
  go_ret2
  exact ⟨a, HO.out, rfl, HT.out⟩

set_option maxHeartbeats 2000000 in
set_option maxRecDepth 100000 in
theorem br_failC {ty fn g : Nat} {S D : List Nat} {l : List Int} {St : World → Nat → Prop} (R : Src ty fn g S D l St) (w : World) (p gb x n k r nb m : Nat) (buf : List Value) (ea eb : Addr)
    (hs : St w p) (hl : buf.length = 8) (hx : x < 256) (hnb : 0 < nb) (hnb7 : nb ≤ 7) (hnm : n = nb + m) (hn : m = 8 * k + r) (hr : 0 < r) (hr8 : r < 8) (hn64 : n ≤ 64) (hgb : gb ∉ D) (hav : l.length < p + (k + 1))
    (hG : Glob w ea eb) (hsafe : ∀ k ∈ gb :: S, Safe ea eb k)
    (hb : w.heap[gb]? = some (.cells (brCells ty g buf x nb).toArray 127 (0, 0))) :
    Calls Tryd.prog 27 #[.pointer (some ⟨gb, 0, none⟩), .int .u64 n] w (ReadFails (gb :: S) ea eb w) := by
  have c0 : w.cell? ⟨gb, 0, none⟩ = some (.iface ty (.pointer (some ⟨g, 0, none⟩))) := by rw [cell_of_row w gb 0 _ _ _ hb, br0 _ _ _ _ _ hl]
  have c10 : w.cell? ⟨gb, 10, none⟩ = some (.int .u64 nb) := by rw [cell_of_row w gb 10 _ _ _ hb, br10 _ _ _ _ _ hl]
  have c9 : w.cell? ⟨gb, 9, none⟩ = some (.int .u8 x) := by rw [cell_of_row w gb 9 _ _ _ hb, br9 _ _ _ _ _ hl]
  have f10 : w.frozen? ⟨gb, 10, none⟩ = false := by simp [World.frozen?, hb]
  have hne : ((nb : Int) == (n : Int)) = false := by rw [beq_eq_false_iff_ne]; omega
  have hsub : ((n : Int) - (nb : Int)) = (m : Int) := by omega
  have hn0 : ((n : Int) == 0) = false := by rw [beq_eq_false_iff_ne]; omega
  have hdiv : (m : Int) / 8 = (k : Int) := by omega
  have hmod : (m : Int) % 8 = (r : Int) := by omega
  have hk8 : k + 1 ≤ 8 := by omega
  have hsl := bufTo gb ((k : Int) + 1) (by omega) (by omega)
  have htn : ((k : Int) + 1).toNat = k + 1 := by omega
  rw [htn] at hsl
  clear htn
  have HS := Lib.hid hs
  have HB := Lib.hid hb
  have HN := Lib.hid hn
  have HG := Lib.hid hgb
  have HAV := Lib.hid hav
  have HGG := Lib.hid hG
  have HSF := Lib.hid hsafe
  have HNM := Lib.hid hnm
  have hml : m ≤ 64 := by omega
  have hm0 : 0 < m := by omega
  have hnbn : nb < n := by omega
  clear hs hb hn hgb hav hG hsafe hnm
  go_enter Tryd.func27, Tryd.ntmps27
  go_wp2
  obtain ⟨w0, hw0⟩ : ∃ w0, w.setCell ⟨gb, 10, none⟩ (.int .u64 0) = w0 := ⟨_, rfl⟩
  rw [hw0]
  have t0 : Touch [gb] w w0 := by rw [← hw0]; exact (Touch.refl _ _).setCell (.inl (by simp)) _
  have b0 : w0.heap[gb]? = some (.cells (brCells ty g buf x 0).toArray 127 (0, 0)) := by
    rw [← hw0, blk_set HB.out 10, br10_set _ _ _ _ _ _ hl]
  have s0 : St w0 p := R.move [gb] w _ p HS.out (by simp; exact HG.out) t0
  clear hw0 c0 c9 c10 f10
  have c0 : w0.cell? ⟨gb, 0, none⟩ = some (.iface ty (.pointer (some ⟨g, 0, none⟩))) := by rw [cell_of_row w0 gb 0 _ _ _ b0, br0 _ _ _ _ _ hl]
  have HGG0 := Lib.hid (HGG.out.touch t0 (fun k hk => HSF.out k (by simp at hk ⊢; exact .inl hk)))
  have T0 := Lib.hid t0
  have B0 := Lib.hid b0
  have S0 := Lib.hid s0
  clear t0 b0 s0
  rw [hmod]
  have hw : St (w0.drewN 1) p := R.move [] w0 _ p S0.out (by simp) ((Touch.refl _ _).drewN 1)
  have hgl : Glob (w0.drewN 1) ea eb := HGG0.out.touch ((Touch.refl [] _).drewN 1) (by simp)
  have HF := Lib.hid (full_fail R (w0.drewN 1) p gb 1 (k + 1) 8 (brCells ty g buf x 0) 127 ea eb hw HAV.out B0.out (by simp [brCells, hl]; omega) (by omega) hk8 (by omega) HG.out hgl HSF.out)
  clear hw hmod hgl
  go_region_with (first | (refine HF.out.mono ?_; rintro e w' ⟨z, a, hor, rfl, ht⟩))
  have HT := Lib.hid ((T0.out.mono (T := gb :: S) (fun k _ hk => by simp at hk ⊢; exact .inl hk)).trans (((Touch.refl (gb :: S) w0).drewN 1).trans ht))
  have HO := Lib.hid hor
  clear ht hor
  go_wp2
  go_ret2
  exact ⟨a, HO.out, rfl, HT.out⟩

set_option maxHeartbeats 2000000 in
set_option maxRecDepth 100000 in
theorem br_failD {ty fn g : Nat} {S D : List Nat} {l : List Int} {St : World → Nat → Prop} (R : Src ty fn g S D l St) (w : World) (p gb x n k nb m : Nat) (buf : List Value) (ea eb : Addr)
    (hs : St w p) (hl : buf.length = 8) (hx : x < 256) (hnb : 0 < nb) (hnb7 : nb ≤ 7) (hnm : n = nb + m) (hn : m = 8 * k) (hk : 0 < k) (hn64 : n ≤ 64) (hgb : gb ∉ D) (hav : l.length < p + (k))
    (hG : Glob w ea eb) (hsafe : ∀ k ∈ gb :: S, Safe ea eb k)
    (hb : w.heap[gb]? = some (.cells (brCells ty g buf x nb).toArray 127 (0, 0))) :
    Calls Tryd.prog 27 #[.pointer (some ⟨gb, 0, none⟩), .int .u64 n] w (ReadFails (gb :: S) ea eb w) := by
  obtain ⟨k0, rfl⟩ : ∃ k0, k = k0 + 1 := ⟨k - 1, by omega⟩
  have c0 : w.cell? ⟨gb, 0, none⟩ = some (.iface ty (.pointer (some ⟨g, 0, none⟩))) := by rw [cell_of_row w gb 0 _ _ _ hb, br0 _ _ _ _ _ hl]
  have c10 : w.cell? ⟨gb, 10, none⟩ = some (.int .u64 nb) := by rw [cell_of_row w gb 10 _ _ _ hb, br10 _ _ _ _ _ hl]
  have c9 : w.cell? ⟨gb, 9, none⟩ = some (.int .u8 x) := by rw [cell_of_row w gb 9 _ _ _ hb, br9 _ _ _ _ _ hl]
  have f10 : w.frozen? ⟨gb, 10, none⟩ = false := by simp [World.frozen?, hb]
  have hne : ((nb : Int) == (n : Int)) = false := by rw [beq_eq_false_iff_ne]; omega
  have hsub : ((n : Int) - (nb : Int)) = (m : Int) := by omega
  have hn0 : ((n : Int) == 0) = false := by rw [beq_eq_false_iff_ne]; omega
  have hdiv : (m : Int) / 8 = ((k0 : Int) + 1) := by omega
  have hmod : (m : Int) % 8 = 0 := by omega
  have hk8 : k0 + 1 ≤ 8 := by omega
  have hsl := bufTo gb ((k0 : Int) + 1) (by omega) (by omega)
  have htn : ((k0 : Int) + 1).toNat = k0 + 1 := by omega
  rw [htn] at hsl
  clear htn
  have HS := Lib.hid hs
  have HB := Lib.hid hb
  have HN := Lib.hid hn
  have HG := Lib.hid hgb
  have HAV := Lib.hid hav
  have HGG := Lib.hid hG
  have HSF := Lib.hid hsafe
  have HNM := Lib.hid hnm
  have hml : m ≤ 64 := by omega
  have hm0 : 0 < m := by omega
  have hnbn : nb < n := by omega
  clear hs hb hn hgb hav hG hsafe hnm
  go_enter Tryd.func27, Tryd.ntmps27
  go_wp2
  obtain ⟨w0, hw0⟩ : ∃ w0, w.setCell ⟨gb, 10, none⟩ (.int .u64 0) = w0 := ⟨_, rfl⟩
  rw [hw0]
  have t0 : Touch [gb] w w0 := by rw [← hw0]; exact (Touch.refl _ _).setCell (.inl (by simp)) _
  have b0 : w0.heap[gb]? = some (.cells (brCells ty g buf x 0).toArray 127 (0, 0)) := by
    rw [← hw0, blk_set HB.out 10, br10_set _ _ _ _ _ _ hl]
  have s0 : St w0 p := R.move [gb] w _ p HS.out (by simp; exact HG.out) t0
  clear hw0 c0 c9 c10 f10
  have c0 : w0.cell? ⟨gb, 0, none⟩ = some (.iface ty (.pointer (some ⟨g, 0, none⟩))) := by rw [cell_of_row w0 gb 0 _ _ _ b0, br0 _ _ _ _ _ hl]
  have HGG0 := Lib.hid (HGG.out.touch t0 (fun k hk => HSF.out k (by simp at hk ⊢; exact .inl hk)))
  have T0 := Lib.hid t0
  have B0 := Lib.hid b0
  have S0 := Lib.hid s0
  clear t0 b0 s0
  rw [hmod]
  have hw : St (w0.drewN 1) p := R.move [] w0 _ p S0.out (by simp) ((Touch.refl _ _).drewN 1)
  have hgl : Glob (w0.drewN 1) ea eb := HGG0.out.touch ((Touch.refl [] _).drewN 1) (by simp)
  have HF := Lib.hid (full_fail R (w0.drewN 1) p gb 1 (k0 + 1) 8 (brCells ty g buf x 0) 127 ea eb hw HAV.out B0.out (by simp [brCells, hl]; omega) (by omega) hk8 (by omega) HG.out hgl HSF.out)
  clear hw hmod hgl
  go_region_with (first | (refine HF.out.mono ?_; rintro e w' ⟨z, a, hor, rfl, ht⟩))
  have HT := Lib.hid ((T0.out.mono (T := gb :: S) (fun k _ hk => by simp at hk ⊢; exact .inl hk)).trans (((Touch.refl (gb :: S) w0).drewN 1).trans ht))
  have HO := Lib.hid hor
  clear ht hor
  go_wp2
  go_ret2
  exact ⟨a, HO.out, rfl, HT.out⟩

set_option maxHeartbeats 400000 in
set_option maxRecDepth 100000 in
theorem br_zero (gb : Addr) (w : World) : Calls Tryd.prog 27 #[.pointer (some gb), .int .u64 0] w fun e w' => e = .returned (.tuple #[.int .u64 0, .nilIface]) ∧ w = w' := by
  go_enter Tryd.func27, Tryd.ntmps27
  go_wp2
  go_ret2
  exact ⟨rfl, rfl⟩

/-- THE CONTRACT OF Read: the next n bits. -/
theorem br_read {ty fn g : Nat} {S D : List Nat} {l : List Int} {St : World → Nat → Prop} (R : Src ty fn g S D l St) (hbytes : ∀ x ∈ l, 0 ≤ x ∧ x ≤ 255) (w : World) (gb n at_ : Nat)
    (h : Br ty g gb l St w at_) (hn : n ≤ 64) (hav : at_ + n ≤ 8 * l.length) (hgb : gb ∉ D) :
    Calls Tryd.prog 27 #[.pointer (some ⟨gb, 0, none⟩), .int .u64 n] w fun e w' =>
      e = .returned (.tuple #[.int .u64 (num l at_ n), .nilIface]) ∧ Touch (gb :: S) w w' ∧ Br ty g gb l St w' (at_ + n) := by
  have hnn : ∀ i, 0 ≤ l.getD i 0 := fun i => by
    rw [List.getD_eq_getElem?_getD]
    rcases hi : l[i]? with _ | v
    · simp
    · exact (hbytes v (List.mem_of_getElem? hi)).1
  have hbyte : ∀ i, byteAt l i < 256 := fun i => by
    unfold byteAt
    rw [List.getD_eq_getElem?_getD]
    rcases hi : l[i]? with _ | v
    · simp
    · have := (hbytes v (List.mem_of_getElem? hi)); simp; omega
  obtain ⟨p, nb, x, buf, hs, hat, hnb7, hx, hxb, hl, hb⟩ := h.ex
  rcases Nat.eq_zero_or_pos n with h0 | h0
  · subst h0
    refine (br_zero ⟨gb, 0, none⟩ w).mono ?_
    rintro e w' ⟨rfl, rfl⟩
    exact ⟨rfl, Touch.refl _ _, ⟨p, nb, x, buf, hs, hat, hnb7, hx, hxb, hl, hb⟩⟩
  rcases Nat.lt_trichotomy n nb with h1 | h1 | h1
  · -- within what is kept
    refine (br_within ty g gb buf x nb n w hl hx h0 h1 hnb7 hb).mono ?_
    rintro e w' ⟨rfl, ht, hb'⟩
    have hxe := hxb (by omega)
    obtain ⟨d, rfl⟩ : ∃ d, nb = n + d := ⟨nb - n, by omega⟩
    have e1 : n + d - n = d := by omega
    rw [e1] at hb' ⊢
    have hp1 : at_ = 8 * (p - 1) + (8 - (n + d)) := by omega
    have hnum : num l at_ n = x / 2 ^ d := by
      rw [hp1, num_in l (p - 1) (8 - (n + d)) n (by omega), hxe, show 8 - (8 - (n + d)) - n = d from by omega, Nat.pow_add, Nat.mul_comm, Nat.mod_mul_right_div_self]
    refine ⟨by rw [hnum], ht.mono (fun k _ hk => by simp at hk ⊢; exact .inl hk), ⟨p, d, x % 2 ^ d, buf, R.move [gb] w w' p hs (by simpa using hgb) ht, by omega, by omega, ?_, fun _ => ?_, hl, hb'⟩⟩
    · exact Nat.lt_of_le_of_lt (Nat.mod_le _ _) hx
    · rw [hxe, Nat.mod_mod_of_dvd _ (Nat.pow_dvd_pow 2 (by omega))]
  · -- just what is kept
    subst h1
    refine (br_same ty g gb buf x n w hl hx h0 hnb7 hb).mono ?_
    rintro e w' ⟨rfl, rfl⟩
    have hxe := hxb h0
    have hp1 : at_ = 8 * (p - 1) + (8 - n) := by omega
    have hnum : num l at_ n = x := by
      rw [hp1, num_in l (p - 1) (8 - n) n (by omega), hxe, show 8 - (8 - n) - n = 0 from by omega, Nat.pow_zero, Nat.div_one]
    have ht : Touch [gb] w (w.setCell ⟨gb, 10, none⟩ (.int .u64 0)) := (Touch.refl _ _).setCell (.inl (by simp)) _
    refine ⟨by rw [hnum], ht.mono (fun k _ hk => by simp at hk ⊢; exact .inl hk), ⟨p, 0, x, buf, R.move [gb] w _ p hs (by simpa using hgb) ht, by omega, by omega, hx, fun h => by omega, hl, ?_⟩⟩
    rw [blk_set hb 10, br10_set _ _ _ _ _ _ hl]; rfl
  · -- more
    obtain ⟨m, hnm⟩ : ∃ m, n = nb + m := ⟨n - nb, by omega⟩
    obtain ⟨k, hk⟩ : ∃ k, m / 8 = k := ⟨_, rfl⟩
    obtain ⟨r, hr⟩ : ∃ r, m % 8 = r := ⟨_, rfl⟩
    have hr8 : r < 8 := by omega
    have hnum0 : num l at_ n = num l at_ nb * 2 ^ m + num l (8 * p) m := by rw [hnm, num_add, hat]
    rcases Nat.eq_zero_or_pos nb with hz | hz
    · subst hz
      have hnum : num l at_ n = acc l p 0 m := by rw [hnum0]; simp [acc, num]
      have hmn : n = m := by omega
      rcases Nat.eq_zero_or_pos r with hr0 | hr0
      · refine (br_moreB R w p gb x n k buf hs hl hx (by omega) (by omega) hn hgb (by omega) hbyte hnn hb).mono ?_
        rintro e w' ⟨rfl, ht, hs', buf', hl', hb'⟩
        refine ⟨by rw [hnum, show m = 8 * k from by omega], ht, ⟨p + k, 0, x, buf', hs', by omega, by omega, hx, fun h => by omega, hl', hb'⟩⟩
      · refine (br_moreA R w p gb x n k r buf hs hl hx (by omega) hr0 hr8 hn hgb (by omega) hbyte hnn hb).mono ?_
        rintro e w' ⟨rfl, ht, hs', buf', hl', hb'⟩
        refine ⟨by rw [hnum, show m = 8 * k + r from by omega], ht, ⟨p + (k + 1), 8 - r, byteAt l (p + k) % 2 ^ (8 - r), buf', hs', by omega, by omega, ?_, fun _ => by rw [show p + (k + 1) - 1 = p + k from by omega], hl', hb'⟩⟩
        exact Nat.lt_of_le_of_lt (Nat.mod_le _ _) (hbyte _)
    · have hxe := hxb hz
      have hp1 : at_ = 8 * (p - 1) + (8 - nb) := by omega
      have hnb : num l at_ nb = x := by
        rw [hp1, num_in l (p - 1) (8 - nb) nb (by omega), hxe, show 8 - (8 - nb) - nb = 0 from by omega, Nat.pow_zero, Nat.div_one]
      have hx2 : x < 2 ^ nb := by rw [hxe]; exact Nat.mod_lt _ (Nat.two_pow_pos _)
      have hnum : num l at_ n = acc l p x m := by rw [hnum0, hnb]; rfl
      rcases Nat.eq_zero_or_pos r with hr0 | hr0
      · refine (br_moreD R w p gb x n k nb m buf hs hl hx hx2 hz hnb7 hnm (by omega) (by omega) hn hgb (by omega) hbyte hnn hb).mono ?_
        rintro e w' ⟨rfl, ht, hs', buf', hl', hb'⟩
        refine ⟨by rw [hnum, show m = 8 * k from by omega], ht, ⟨p + k, 0, x, buf', hs', by omega, by omega, hx, fun h => by omega, hl', hb'⟩⟩
      · refine (br_moreC R w p gb x n k r nb m buf hs hl hx hx2 hz hnb7 hnm (by omega) hr0 hr8 hn hgb (by omega) hbyte hnn hb).mono ?_
        rintro e w' ⟨rfl, ht, hs', buf', hl', hb'⟩
        refine ⟨by rw [hnum, show m = 8 * k + r from by omega], ht, ⟨p + (k + 1), 8 - r, byteAt l (p + k) % 2 ^ (8 - r), buf', hs', by omega, by omega, ?_, fun _ => by rw [show p + (k + 1) - 1 = p + k from by omega], hl', hb'⟩⟩
        exact Nat.lt_of_le_of_lt (Nat.mod_le _ _) (hbyte _)

theorem br_fail {ty fn g : Nat} {S D : List Nat} {l : List Int} {St : World → Nat → Prop} (R : Src ty fn g S D l St) (w : World) (gb n at_ : Nat) (ea eb : Addr)
    (h : Br ty g gb l St w at_) (hn : n ≤ 64) (hav : 8 * l.length < at_ + n) (hgb : gb ∉ D) (hG : Glob w ea eb) (hsafe : ∀ k ∈ gb :: S, Safe ea eb k) :
    Calls Tryd.prog 27 #[.pointer (some ⟨gb, 0, none⟩), .int .u64 n] w (ReadFails (gb :: S) ea eb w) := by
  obtain ⟨p, nb, x, buf, hs, hat, hnb7, hx, hxb, hl, hb⟩ := h.ex
  have hle := R.le w p hs
  obtain ⟨m, hnm⟩ : ∃ m, n = nb + m := ⟨n - nb, by omega⟩
  obtain ⟨k, hk⟩ : ∃ k, m / 8 = k := ⟨_, rfl⟩
  obtain ⟨r, hr⟩ : ∃ r, m % 8 = r := ⟨_, rfl⟩
  have hr8 : r < 8 := by omega
  rcases Nat.eq_zero_or_pos nb with hz | hz
  · subst hz
    rcases Nat.eq_zero_or_pos r with hr0 | hr0
    · exact br_failB R w p gb x n k buf ea eb hs hl (by omega) (by omega) hn hgb (by omega) hG hsafe hb
    · exact br_failA R w p gb x n k r buf ea eb hs hl (by omega) hr0 hr8 hn hgb (by omega) hG hsafe hb
  · rcases Nat.eq_zero_or_pos r with hr0 | hr0
    · exact br_failD R w p gb x n k nb m buf ea eb hs hl hx hz hnb7 hnm (by omega) (by omega) hn hgb (by omega) hG hsafe hb
    · exact br_failC R w p gb x n k r nb m buf ea eb hs hl hx hz hnb7 hnm (by omega) hr0 hr8 hn hgb (by omega) hG hsafe hb
end Go.Proofs.YtcdfbcanebjmfaaDoor.Walk
