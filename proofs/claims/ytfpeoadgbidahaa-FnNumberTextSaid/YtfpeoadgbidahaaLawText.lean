/- The law on the text of a coded number: what the package writes of a number below 2^31 is what spec.Coded tells. -/
import Derived.Test.YtfpeoadgbidahaaNumText
import Derived.Outline
import Derived.Lib.Bytes
namespace Go.Proofs.Ytfpeoadgbidahaa.Walk
set_option linter.unusedVariables false
set_option linter.unusedSimpArgs false
open Go Go.RowKit Go.Proofs.YtfpeoadgbidahaaW.PrintWords Go.Proofs.YtfpeoadgbidahaaW.PrintLast Go.Proofs.YtfpeoadgbidahaaW.PrintMore Go.Proofs.Ytfpeoadgbidahaa.Num Go.Proofs.Ytfpeoadgbidahaa.PFnNumberText

/-- spec.Coded, called. -/
theorem specCoded_call (v : Nat) (w : World) (hv : v < 68719476736) :
    Calls Try.prog 5 #[.int .u64 v] w fun e w' => ∃ x, e = .returned x ∧ w'.ownsRow w.heap.size 5 1 x (more v + 1) (nums .u8 (coded v)) ∧ Below w.heap.size w w' :=
  (spec_Coded.calls 30 v (coded v) w (spec_coded v hv)).mono fun e w' ⟨x, he, hr, hb⟩ => ⟨x, he, by have h := Kd.own_of_R hr; rw [coded_len] at h; exact h, hb⟩

set_option maxHeartbeats 4000000 in
set_option maxRecDepth 100000 in
theorem lawText (v0 : Int) (w : World) (hv0 : 0 ≤ v0) (hv1 : v0 < 18446744073709551616) :
    Calls Try.prog 3 #[.int .u64 v0] w fun e w' => e = .returned (.bool true) ∧ Below w.heap.size w w' := by
  obtain ⟨v, hv⟩ : ∃ v : Nat, v0 % 2147483648 = (v : Int) := ⟨(v0 % 2147483648).toNat, by omega⟩
  have hvs : v < 2147483648 := by omega
  have hvb : v < 68719476736 := by omega
  obtain ⟨cv, hcv⟩ : ∃ cv, coded v = cv := ⟨_, rfl⟩
  obtain ⟨m, hm1⟩ : ∃ m, more v + 1 = m := ⟨_, rfl⟩
  have hcl : cv.length = m := by rw [← hcv, ← hm1, coded_len]
  have hcall0 : ∀ wx, Calls Try.prog 4 #[.int .u64 v] wx fun e w' => ∃ x, e = .returned (.tuple #[x, .int .i64 0]) ∧ w'.ownsRow wx.heap.size 5 1 x m (nums .u8 cv) ∧ Below wx.heap.size wx w' := fun wx => by
    have h := numText v wx hvs
    rw [hcv, hcl] at h; exact h
  have HC0 := Lib.hid hcall0
  have hcoded : ∀ wx, Calls Try.prog 5 #[.int .u64 v] wx fun e w' => ∃ x, e = .returned x ∧ w'.ownsRow wx.heap.size 5 1 x m (nums .u8 cv) ∧ Below wx.heap.size wx w' := fun wx => by
    rw [← hcv, ← hm1]; exact specCoded_call v wx hvb
  have HCD := Lib.hid hcoded
  obtain ⟨s1, hs1⟩ : ∃ s, strOfNums cv = s := ⟨_, rfl⟩
  have HS1 := Lib.hid hs1
  have hbeq : (s1.toList == s1.toList) = true := beq_iff_eq.mpr rfl
  clear hcv hm1 hcall0 hcl hcoded hs1
  go_enter Try.func3, Try.ntmps3
  go_wp2_with fail
  refine (HC0.out w).mono ?_
  rintro e w1 ⟨x, rfl, ho, hb⟩
  obtain ⟨A1, c1, rfl, hR1⟩ := own_reads ho
  have hcv : ∀ wx, Below w1.heap.size w1 wx → (convert 23 9 (.slice A1 m c1)).run Try.prog wx = .ok (.string s1) wx := fun wx hb => by
    have h := string_of_reads (P := Try.prog) (src := 23) (dst := 9) (e := 5) (c := c1) Try.underlying23 Try.underlying5 Try.underlying9 (hR1.below hb)
    rw [HS1.out] at h; exact h
  have hcv1 := hcv w1.drew (Below.refl _ _).drew
  have HCV := Lib.hid hcv
  have HB1 := Lib.hid hb
  clear ho hb hR1 hcv
  go_wp2_with fail
  (go_region_with (first | (refine (HCD.out w1.drew).mono ?_; rintro e w3 ⟨x8, rfl, ho8, hb8⟩; (have k1 := own_string (P := Try.prog) (src := 23) (dst := 9) (e := 5) Try.underlying23 Try.underlying5 Try.underlying9 ho8); rw [HS1.out] at k1; (have hbw := below_then HB1.out.drew HB1.out.drew.size hb8); (have hbx : Below w1.heap.size w1 w3 := below_then (Below.refl w1.heap.size w1).drew (Nat.le_refl _) hb8); (have k2 := HCV.out w3 hbx); clear hbx)))
  all_goals
    have HBW := Lib.hid hbw
    clear k1 k2 ho8 hb8 hbw
    go_wp2_with fail
    go_ret
    exact ⟨rfl, HBW.out⟩

theorem topText (v0 : Int) (w : World) (hv : (Lit.int .u64 v0).wf = true) :
    Calls Try.prog 3 #[.int .u64 v0] w fun e w' => e = .returned (.bool true) ∧ Below w.heap.size w w' := by
  have h3 : IntKind.u64.min = 0 := rfl
  have h4 : IntKind.u64.max = 18446744073709551615 := rfl
  simp only [Lit.wf, Bool.and_eq_true, decide_eq_true_eq] at hv
  exact lawText v0 w (by omega) (by omega)
end Go.Proofs.Ytfpeoadgbidahaa.Walk
