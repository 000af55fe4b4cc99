-- PRINTED BY print.sh 35421559b90ae4d0a3588c463048766b98c2df88dd9212a6774a882060cdf62d: not written by this session
import Derived.Test.YtjfibofjbofpbaaPFnSignedx0
namespace Go.Proofs.Ytjfibofjbofpbaa.PFnSigned
open Go.RowKit Go.Proofs.YtjfibofjbofpbaaW.PrintWords Go.Proofs.YtjfibofjbofpbaaW.PrintLast Go.Proofs.YtjfibofjbofpbaaW.PrintMore
attribute [local go_sem] max2_int min2_int max_two min_two max_three min_three max_four min_four   -- for this text's walks alone
set_option linter.unusedVariables false
set_option linter.unusedSimpArgs false

/-! ### bits_IntN: function 21 -/
def bits_IntN.f (a0 : Int) (a1 : Int) : Option (Int) := if 0 ≤ (IntKind.u64.wrap (a1 - 1)) then (if (Go.bits .and .u64 a0 (shl .u64 1 (IntKind.u64.wrap (a1 - 1)))) = 0 then (some (wrap64 (a0))) else (some (wrap64 ((wrap64 (Go.bits .xor .u64 a0 (shl .u64 1 (IntKind.u64.wrap (a1 - 1))))) - (wrap64 (shl .u64 1 (IntKind.u64.wrap (a1 - 1)))))))) else (none)
set_option maxHeartbeats 8000000 in
set_option maxRecDepth 100000 in
theorem bits_IntN.calls (a0 : Int) (a1 : Int) (r : Int) (w : World) (h : bits_IntN.f a0 a1 = some r) :
    Calls Try.prog 21 #[.int .u64 a0, .int .u64 a1] w fun e w' => e = .returned (.int .i64 r) ∧ Drawn0 w w' := by
  have H : (if 0 ≤ (IntKind.u64.wrap (a1 - 1)) then (if (Go.bits .and .u64 a0 (shl .u64 1 (IntKind.u64.wrap (a1 - 1)))) = 0 then (some (wrap64 (a0))) else (some (wrap64 ((wrap64 (Go.bits .xor .u64 a0 (shl .u64 1 (IntKind.u64.wrap (a1 - 1))))) - (wrap64 (shl .u64 1 (IntKind.u64.wrap (a1 - 1)))))))) else (none)) = some r := h
  clear h
  obtain ⟨ji3, hji3⟩ : ∃ j_ : Int, (IntKind.u64.wrap (a1 - 1)) = j_ := ⟨_, rfl⟩
  replace H : (if 0 ≤ (ji3) then (if (Go.bits .and .u64 a0 (shl .u64 1 (ji3))) = 0 then (some (wrap64 (a0))) else (some (wrap64 ((wrap64 (Go.bits .xor .u64 a0 (shl .u64 1 (ji3)))) - (wrap64 (shl .u64 1 (ji3))))))) else (none)) = some r := by first | (rw [hji3] at H; exact H) | (simp only [hji3] at H ⊢; exact H)
  by_cases c4 : 0 ≤ (ji3)
  · rw [if_pos c4] at H
    have c4b0 := eq_true c4
    have c4b1 : decide (0 ≤ (ji3)) = true := decide_eq_true c4
    clear c4
    obtain ⟨ji5, hji5⟩ : ∃ j_ : Int, (shl .u64 1 (ji3)) = j_ := ⟨_, rfl⟩
    replace H : (if (Go.bits .and .u64 a0 (ji5)) = 0 then (some (wrap64 (a0))) else (some (wrap64 ((wrap64 (Go.bits .xor .u64 a0 (ji5))) - (wrap64 (ji5)))))) = some r := by first | (rw [hji5] at H; exact H) | (simp only [hji5] at H ⊢; exact H)
    have hji5_ : (IntKind.u64.wrap (1 * 2 ^ min (ji3).toNat 64)) = ji5 := hji5
    have hji5z : (ji3) ≤ 64 → (IntKind.u64.wrap (1 * 2 ^ (ji3).toNat)) = ji5 := shl_small hji5
    have hji5u : (IntKind.u64.wrap (2 ^ min (ji3).toNat 64)) = ji5 := by have h_ := hji5_; rw [Int.one_mul] at h_; exact h_
    have hji5v : (ji3) ≤ 64 → (IntKind.u64.wrap (2 ^ (ji3).toNat)) = ji5 := fun hle_ => by have h_ := hji5z hle_; rw [Int.one_mul] at h_; exact h_
    by_cases c6 : (Go.bits .and .u64 a0 (ji5)) = 0
    · rw [if_pos c6] at H
      have c6b0 : ((Go.bits .and .u64 a0 (ji5)) == 0) = true := beq_iff_eq.mpr c6
      have c6b1 : ((Go.bits .and .u64 a0 (ji5)) != 0) = false := bne_eq_false_iff_eq.mpr c6
      clear c6
      obtain rfl := Option.some.inj H
      go_enter Try.func21, Try.ntmps21
      go_wp2
      go_ret
      exact ⟨by first | rfl | (simp; done) | (simp only [← hji3, ← hji5] <;> (first | rfl | simp)) | (simp [*]; done), by repeat (first | exact Drawn0.refl _ | apply Drawn0.step)⟩
    · rw [if_neg c6] at H
      have c6b0 : ((Go.bits .and .u64 a0 (ji5)) == 0) = false := beq_eq_false_iff_ne.mpr c6
      have c6b1 : ((Go.bits .and .u64 a0 (ji5)) != 0) = true := bne_iff_ne.mpr c6
      obtain rfl := Option.some.inj H
      go_enter Try.func21, Try.ntmps21
      go_wp2
      go_ret
      exact ⟨by first | rfl | (simp; done) | (simp only [← hji3, ← hji5] <;> (first | rfl | simp)) | (simp [*]; done), by repeat (first | exact Drawn0.refl _ | apply Drawn0.step)⟩
  · rw [if_neg c4] at H
    exact absurd H (by simp)

/-! ### impl_Signed: function 14 -/
def impl_Signed.f (a0 : Int) (a1 : Int) : Option (Int) := if a1 < 1 then (some 0) else (if a1 > 64 then (some 0) else ((bits_IntN.f a0 (IntKind.u64.wrap (a1))).bind fun t101 => (some t101)))
set_option maxHeartbeats 8000000 in
set_option maxRecDepth 100000 in
theorem impl_Signed.calls (a0 : Int) (a1 : Int) (r : Int) (w : World) (h : impl_Signed.f a0 a1 = some r) :
    Calls Try.prog 14 #[.int .u64 a0, .int .i64 a1] w fun e w' => e = .returned (.int .i64 r) ∧ Drawn0 w w' := by
  have H : (if a1 < 1 then (some 0) else (if a1 > 64 then (some 0) else ((bits_IntN.f a0 (IntKind.u64.wrap (a1))).bind fun t101 => (some t101)))) = some r := h
  clear h
  by_cases c3 : a1 < 1
  · rw [if_pos c3] at H
    have c3b0 : decide (a1 < 1) = true := decide_eq_true c3
    clear c3
    obtain rfl := Option.some.inj H
    go_enter Try.func14, Try.ntmps14
    go_wp2
    go_ret
    exact ⟨by first | rfl | (simp; done) | (simp [*]; done), by repeat (first | exact Drawn0.refl _ | apply Drawn0.step)⟩
  · rw [if_neg c3] at H
    have c3b0 : decide (a1 < 1) = false := decide_eq_false c3
    clear c3
    by_cases c4 : a1 > 64
    · rw [if_pos c4] at H
      have c4b0 : decide (64 < a1) = true := decide_eq_true c4
      clear c4
      obtain rfl := Option.some.inj H
      go_enter Try.func14, Try.ntmps14
      go_wp2
      go_ret
      exact ⟨by first | rfl | (simp; done) | (simp [*]; done), by repeat (first | exact Drawn0.refl _ | apply Drawn0.step)⟩
    · rw [if_neg c4] at H
      have c4b0 : decide (64 < a1) = false := decide_eq_false c4
      clear c4
      replace H := Option.bind_eq_some_iff.mp H
      obtain ⟨t101, A50, H⟩ := H
      replace H : (some t101) = some r := H
      have A5 := Aside0.mk A50
      clear A50
      obtain rfl := Option.some.inj H
      go_enter Try.func14, Try.ntmps14
      go_wp2_with (first | ((with_reducible refine gate_callee (f := 21) rfl ?_); refine goesL_ (some 14) rfl rfl Try.func21 (by kernel_rfl) rfl #[.int .u64 a0, .int .u64 (IntKind.u64.wrap (a1))] rfl (by (try simp only [List.map_toArray, List.map_cons, List.map_nil]); first | done | rfl | (simp only [List.length_drop, List.length_take]; rfl)) ?_; (with_reducible refine (bits_IntN.calls a0 (IntKind.u64.wrap (a1)) t101 _ A5.out).mono ?_); rintro e w' ⟨rfl, ⟨nd, rfl⟩⟩; refine ⟨_, rfl, ?_⟩))
      go_ret
      exact ⟨by first | rfl | (simp; done) | (simp [*]; done), by repeat (first | exact Drawn0.refl _ | apply Drawn0.step)⟩

/-! ### laws_FnSigned: function 6 -/
def laws_FnSigned.f (a0 : Int) (a1 : Int) : Option (Bool) := if 0 ≤ (wrap64 (64 - (wrap64 (1 + (wrap64 (Int.tmod a1 64)))))) then ((impl_Signed.f (shr .u64 (shl .u64 a0 (wrap64 (64 - (wrap64 (1 + (wrap64 (Int.tmod a1 64))))))) (wrap64 (64 - (wrap64 (1 + (wrap64 (Int.tmod a1 64))))))) (wrap64 (1 + (wrap64 (Int.tmod a1 64))))).bind fun t102 => (some (t102 == (shr .i64 (wrap64 (shl .u64 (shr .u64 (shl .u64 a0 (wrap64 (64 - (wrap64 (1 + (wrap64 (Int.tmod a1 64))))))) (wrap64 (64 - (wrap64 (1 + (wrap64 (Int.tmod a1 64))))))) (wrap64 (64 - (wrap64 (1 + (wrap64 (Int.tmod a1 64)))))))) (wrap64 (64 - (wrap64 (1 + (wrap64 (Int.tmod a1 64)))))))))) else (none)
set_option maxHeartbeats 8000000 in
set_option maxRecDepth 100000 in
theorem laws_FnSigned.calls (a0 : Int) (a1 : Int) (r : Bool) (w : World) (h : laws_FnSigned.f a0 a1 = some r) :
    Calls Try.prog 6 #[.int .u64 a0, .int .u8 a1] w fun e w' => e = .returned (.bool r) ∧ Drawn0 w w' := by
  have H : (if 0 ≤ (wrap64 (64 - (wrap64 (1 + (wrap64 (Int.tmod a1 64)))))) then ((impl_Signed.f (shr .u64 (shl .u64 a0 (wrap64 (64 - (wrap64 (1 + (wrap64 (Int.tmod a1 64))))))) (wrap64 (64 - (wrap64 (1 + (wrap64 (Int.tmod a1 64))))))) (wrap64 (1 + (wrap64 (Int.tmod a1 64))))).bind fun t102 => (some (t102 == (shr .i64 (wrap64 (shl .u64 (shr .u64 (shl .u64 a0 (wrap64 (64 - (wrap64 (1 + (wrap64 (Int.tmod a1 64))))))) (wrap64 (64 - (wrap64 (1 + (wrap64 (Int.tmod a1 64))))))) (wrap64 (64 - (wrap64 (1 + (wrap64 (Int.tmod a1 64)))))))) (wrap64 (64 - (wrap64 (1 + (wrap64 (Int.tmod a1 64)))))))))) else (none)) = some r := h
  clear h
  obtain ⟨ji3, hji3⟩ : ∃ j_ : Int, (wrap64 (64 - (wrap64 (1 + (wrap64 (Int.tmod a1 64)))))) = j_ := ⟨_, rfl⟩
  replace H : (if 0 ≤ (ji3) then ((impl_Signed.f (shr .u64 (shl .u64 a0 (ji3)) (ji3)) (wrap64 (1 + (wrap64 (Int.tmod a1 64))))).bind fun t102 => (some (t102 == (shr .i64 (wrap64 (shl .u64 (shr .u64 (shl .u64 a0 (ji3)) (ji3)) (ji3))) (ji3))))) else (none)) = some r := by first | (rw [hji3] at H; exact H) | (simp only [hji3] at H ⊢; exact H)
  have hji3w : (IntKind.i64.wrap (64 - (wrap64 (1 + (wrap64 (Int.tmod a1 64)))))) = ji3 := (i64_w _).trans hji3
  by_cases c4 : 0 ≤ (ji3)
  · rw [if_pos c4] at H
    have c4b0 := eq_true c4
    have c4b1 : decide (0 ≤ (ji3)) = true := decide_eq_true c4
    clear c4
    obtain ⟨ji5, hji5⟩ : ∃ j_ : Int, (shl .u64 a0 (ji3)) = j_ := ⟨_, rfl⟩
    replace H : ((impl_Signed.f (shr .u64 (ji5) (ji3)) (wrap64 (1 + (wrap64 (Int.tmod a1 64))))).bind fun t102 => (some (t102 == (shr .i64 (wrap64 (shl .u64 (shr .u64 (ji5) (ji3)) (ji3))) (ji3))))) = some r := by first | (rw [hji5] at H; exact H) | (simp only [hji5] at H ⊢; exact H)
    have hji5_ : (IntKind.u64.wrap (a0 * 2 ^ min (ji3).toNat 64)) = ji5 := hji5
    have hji5z : (ji3) ≤ 64 → (IntKind.u64.wrap (a0 * 2 ^ (ji3).toNat)) = ji5 := shl_small hji5
    have c6b0 := eq_true (of_decide_eq_true (by first | (with_reducible assumption) | assumption) : 0 ≤ (ji3))
    obtain ⟨ji7, hji7⟩ : ∃ j_ : Int, (shr .u64 (ji5) (ji3)) = j_ := ⟨_, rfl⟩
    replace H : ((impl_Signed.f (ji7) (wrap64 (1 + (wrap64 (Int.tmod a1 64))))).bind fun t102 => (some (t102 == (shr .i64 (wrap64 (shl .u64 (ji7) (ji3))) (ji3))))) = some r := by first | (rw [hji7] at H; exact H) | (simp only [hji7] at H ⊢; exact H)
    have hji7_ : ((ji5) / 2 ^ min (ji3).toNat 64) = ji7 := hji7
    have hji7z : (ji3) ≤ 64 → ((ji5) / 2 ^ (ji3).toNat) = ji7 := shr_small hji7
    replace H := Option.bind_eq_some_iff.mp H
    obtain ⟨t102, A80, H⟩ := H
    replace H : (some (t102 == (shr .i64 (wrap64 (shl .u64 (ji7) (ji3))) (ji3)))) = some r := H
    have A8 := Aside0.mk A80
    clear A80
    have c9b0 := eq_true (of_decide_eq_true (by first | (with_reducible assumption) | assumption) : 0 ≤ (ji3))
    obtain ⟨ji10, hji10⟩ : ∃ j_ : Int, (shl .u64 (ji7) (ji3)) = j_ := ⟨_, rfl⟩
    replace H : (some (t102 == (shr .i64 (wrap64 (ji10)) (ji3)))) = some r := by first | (rw [hji10] at H; exact H) | (simp only [hji10] at H ⊢; exact H)
    (try rw [hji10] at A8)
    have hji10_ : (IntKind.u64.wrap ((ji7) * 2 ^ min (ji3).toNat 64)) = ji10 := hji10
    have hji10z : (ji3) ≤ 64 → (IntKind.u64.wrap ((ji7) * 2 ^ (ji3).toNat)) = ji10 := shl_small hji10
    have c11b0 := eq_true (of_decide_eq_true (by first | (with_reducible assumption) | assumption) : 0 ≤ (ji3))
    obtain ⟨ji12, hji12⟩ : ∃ j_ : Int, (shr .i64 (wrap64 (ji10)) (ji3)) = j_ := ⟨_, rfl⟩
    replace H : (some (t102 == (ji12))) = some r := by first | (rw [hji12] at H; exact H) | (simp only [hji12] at H ⊢; exact H)
    (try rw [hji12] at A8)
    have hji12_ : ((wrap64 (ji10)) / 2 ^ min (ji3).toNat 64) = ji12 := hji12
    have hji12z : (ji3) ≤ 64 → ((wrap64 (ji10)) / 2 ^ (ji3).toNat) = ji12 := shr_small hji12
    obtain rfl := Option.some.inj H
    go_enter Try.func6, Try.ntmps6
    go_wp2_with (first | (go_at_call 14; (with_reducible refine (impl_Signed.calls ji7 (wrap64 (1 + (wrap64 (Int.tmod a1 64)))) t102 _ A8.out).mono ?_); rintro e w' ⟨rfl, ⟨nd, rfl⟩⟩; (try first | exact ⟨rfl, _, World.drewN_drewN _ _ _⟩ | exact ⟨rfl, _, Eq.trans (World.drewN_drewN _ _ _) (congrArg (World.drewN _) (Nat.add_assoc _ _ _))⟩)))
    repeat (go_quiet (first | (go_at_call 14; (with_reducible refine (impl_Signed.calls ji7 (wrap64 (1 + (wrap64 (Int.tmod a1 64)))) t102 _ A8.out).mono ?_); rintro e w' ⟨rfl, ⟨nd, rfl⟩⟩; (try first | exact ⟨rfl, _, World.drewN_drewN _ _ _⟩ | exact ⟨rfl, _, Eq.trans (World.drewN_drewN _ _ _) (congrArg (World.drewN _) (Nat.add_assoc _ _ _))⟩))); try go_wp2_with (first | (go_at_call 14; (with_reducible refine (impl_Signed.calls ji7 (wrap64 (1 + (wrap64 (Int.tmod a1 64)))) t102 _ A8.out).mono ?_); rintro e w' ⟨rfl, ⟨nd, rfl⟩⟩; (try first | exact ⟨rfl, _, World.drewN_drewN _ _ _⟩ | exact ⟨rfl, _, Eq.trans (World.drewN_drewN _ _ _) (congrArg (World.drewN _) (Nat.add_assoc _ _ _))⟩))))
    go_ret
    exact ⟨by first | rfl | (simp; done) | (simp only [← hji3, ← hji5, ← hji7, ← hji10, ← hji12] <;> (first | rfl | simp)) | (simp [*]; done), by repeat (first | exact Drawn0.refl _ | apply Drawn0.step)⟩
  · rw [if_neg c4] at H
    exact absurd H (by simp)

/-- THE ONE PURE STATEMENT of laws_FnSigned: yours. -/
def laws_FnSigned.Pure : Prop := ∀ (a0 : Int) (a1 : Int), (Lit.int .u64 a0).wf = true → (Lit.int .u8 a1).wf = true → laws_FnSigned.f a0 a1 = some true
theorem laws_FnSigned.walk (P : laws_FnSigned.Pure) (a0 : Int) (a1 : Int) (w : World) (w0 : (Lit.int .u64 a0).wf = true) (w1 : (Lit.int .u8 a1).wf = true) :
    Calls Try.prog 6 #[.int .u64 a0, .int .u8 a1] w fun e w' => e = .returned (.bool true) ∧ Below w.heap.size w w' := by
  have h := P a0 a1 w0 w1
  refine (laws_FnSigned.calls a0 a1 true w h).mono ?_
  rintro e w' ⟨rfl, hd⟩
  exact ⟨rfl, hd.below⟩

end Go.Proofs.Ytjfibofjbofpbaa.PFnSigned
