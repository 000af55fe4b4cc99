-- PRINTED BY print.sh 35421559b90ae4d0a3588c463048766b98c2df88dd9212a6774a882060cdf62d: not written by this session
import Derived.Test.YtjfibofjbofpbaaPFnZigZagx0
namespace Go.Proofs.Ytjfibofjbofpbaa.PFnZigZag
open Go.RowKit Go.Proofs.YtjfibofjbofpbaaW.PrintWords Go.Proofs.YtjfibofjbofpbaaW.PrintLast Go.Proofs.YtjfibofjbofpbaaW.PrintMore
attribute [local go_sem] max2_int min2_int max_two min_two max_three min_three max_four min_four   -- for this text's walks alone
set_option linter.unusedVariables false
set_option linter.unusedSimpArgs false

/-! ### bits_DecodeZigZag: function 19 -/
def bits_DecodeZigZag.f (a0 : Int) : Option (Int) := some (Go.bits .xor .i32 (wrap32 (a0 / 2)) (wrap32 (-(wrap32 (Go.bits .and .u32 a0 1)))))
set_option maxHeartbeats 8000000 in
set_option maxRecDepth 100000 in
theorem bits_DecodeZigZag.calls (a0 : Int) (r : Int) (w : World) (h : bits_DecodeZigZag.f a0 = some r) :
    Calls Try.prog 19 #[.int .u32 a0] w fun e w' => e = .returned (.int .i32 r) ∧ Drawn0 w w' := by
  have H : (some (Go.bits .xor .i32 (wrap32 (a0 / 2)) (wrap32 (-(wrap32 (Go.bits .and .u32 a0 1)))))) = some r := h
  clear h
  obtain rfl := Option.some.inj H
  go_enter Try.func19, Try.ntmps19
  go_wp2
  go_ret
  exact ⟨by first | rfl | (simp; done) | (simp [*]; done), by repeat (first | exact Drawn0.refl _ | apply Drawn0.step)⟩

/-! ### impl_ZigZag: function 10 -/
def impl_ZigZag.f (a0 : Int) : Option (Int) := (bits_DecodeZigZag.f a0).bind fun t101 => (some t101)
set_option maxHeartbeats 8000000 in
set_option maxRecDepth 100000 in
theorem impl_ZigZag.calls (a0 : Int) (r : Int) (w : World) (h : impl_ZigZag.f a0 = some r) :
    Calls Try.prog 10 #[.int .u32 a0] w fun e w' => e = .returned (.int .i32 r) ∧ Drawn0 w w' := by
  have H : ((bits_DecodeZigZag.f a0).bind fun t101 => (some t101)) = some r := h
  clear h
  replace H := Option.bind_eq_some_iff.mp H
  obtain ⟨t101, A20, H⟩ := H
  replace H : (some t101) = some r := H
  have A2 := Aside0.mk A20
  clear A20
  obtain rfl := Option.some.inj H
  go_enter Try.func10, Try.ntmps10
  go_wp2_with (first | ((with_reducible refine gate_callee (f := 19) rfl ?_); refine goesL_ (some 4) rfl rfl Try.func19 (by kernel_rfl) rfl #[.int .u32 a0] rfl (by (try simp only [List.map_toArray, List.map_cons, List.map_nil]); first | done | rfl | (simp only [List.length_drop, List.length_take]; rfl)) ?_; (with_reducible refine (bits_DecodeZigZag.calls a0 t101 _ A2.out).mono ?_); rintro e w' ⟨rfl, ⟨nd, rfl⟩⟩; refine ⟨_, rfl, ?_⟩))
  go_ret
  exact ⟨by first | rfl | (simp; done) | (simp [*]; done), by repeat (first | exact Drawn0.refl _ | apply Drawn0.step)⟩

/-! ### spec_Unfolded: function 11 -/
def spec_Unfolded.f (a0 : Int) : Option (Int) := if (Go.bits .and .i64 a0 1) = 1 then (some (wrap64 ((wrap64 (-(a0 / 2))) - 1))) else (some (a0 / 2))
set_option maxHeartbeats 8000000 in
set_option maxRecDepth 100000 in
theorem spec_Unfolded.calls (a0 : Int) (r : Int) (w : World) (h : spec_Unfolded.f a0 = some r) :
    Calls Try.prog 11 #[.int .i64 a0] w fun e w' => e = .returned (.int .i64 r) ∧ Drawn0 w w' := by
  have H : (if (Go.bits .and .i64 a0 1) = 1 then (some (wrap64 ((wrap64 (-(a0 / 2))) - 1))) else (some (a0 / 2))) = some r := h
  clear h
  by_cases c2 : (Go.bits .and .i64 a0 1) = 1
  · rw [if_pos c2] at H
    have c2b0 : ((Go.bits .and .i64 a0 1) == 1) = true := beq_iff_eq.mpr c2
    have c2b1 : ((Go.bits .and .i64 a0 1) != 1) = false := bne_eq_false_iff_eq.mpr c2
    clear c2
    obtain rfl := Option.some.inj H
    go_enter Try.func11, Try.ntmps11
    go_wp2
    go_ret
    exact ⟨by first | rfl | (simp; done) | (simp [*]; done), by repeat (first | exact Drawn0.refl _ | apply Drawn0.step)⟩
  · rw [if_neg c2] at H
    have c2b0 : ((Go.bits .and .i64 a0 1) == 1) = false := beq_eq_false_iff_ne.mpr c2
    have c2b1 : ((Go.bits .and .i64 a0 1) != 1) = true := bne_iff_ne.mpr c2
    obtain rfl := Option.some.inj H
    go_enter Try.func11, Try.ntmps11
    go_wp2
    go_ret
    exact ⟨by first | rfl | (simp; done) | (simp [*]; done), by repeat (first | exact Drawn0.refl _ | apply Drawn0.step)⟩

/-! ### laws_FnZigZag: function 3 -/
def laws_FnZigZag.f (a0 : Int) : Option (Bool) := (impl_ZigZag.f a0).bind fun t102 => ((spec_Unfolded.f (wrap64 (a0))).bind fun t103 => (some ((wrap64 (t102)) == t103)))
set_option maxHeartbeats 8000000 in
set_option maxRecDepth 100000 in
theorem laws_FnZigZag.calls (a0 : Int) (r : Bool) (w : World) (h : laws_FnZigZag.f a0 = some r) :
    Calls Try.prog 3 #[.int .u32 a0] w fun e w' => e = .returned (.bool r) ∧ Drawn0 w w' := by
  have H : ((impl_ZigZag.f a0).bind fun t102 => ((spec_Unfolded.f (wrap64 (a0))).bind fun t103 => (some ((wrap64 (t102)) == t103)))) = some r := h
  clear h
  replace H := Option.bind_eq_some_iff.mp H
  obtain ⟨t102, A20, H⟩ := H
  replace H : ((spec_Unfolded.f (wrap64 (a0))).bind fun t103 => (some ((wrap64 (t102)) == t103))) = some r := H
  have A2 := Aside0.mk A20
  clear A20
  replace H := Option.bind_eq_some_iff.mp H
  obtain ⟨t103, A30, H⟩ := H
  replace H : (some ((wrap64 (t102)) == t103)) = some r := H
  have A3 := Aside0.mk A30
  clear A30
  obtain rfl := Option.some.inj H
  go_enter Try.func3, Try.ntmps3
  go_wp2_with (first | ((with_reducible refine gate_callee (f := 10) rfl ?_); refine goesL_ (some 4) rfl rfl Try.func10 (by kernel_rfl) rfl #[.int .u32 a0] rfl (by (try simp only [List.map_toArray, List.map_cons, List.map_nil]); first | done | rfl | (simp only [List.length_drop, List.length_take]; rfl)) ?_; (with_reducible refine (impl_ZigZag.calls a0 t102 _ A2.out).mono ?_); rintro e w' ⟨rfl, ⟨nd, rfl⟩⟩; refine ⟨_, rfl, ?_⟩) | ((with_reducible refine gate_callee (f := 11) rfl ?_); refine goesL_ (some 8) rfl rfl Try.func11 (by kernel_rfl) rfl #[.int .i64 (wrap64 (a0))] rfl (by (try simp only [List.map_toArray, List.map_cons, List.map_nil]); first | done | rfl | (simp only [List.length_drop, List.length_take]; rfl)) ?_; (with_reducible refine (spec_Unfolded.calls (wrap64 (a0)) t103 _ A3.out).mono ?_); rintro e w' ⟨rfl, ⟨nd, rfl⟩⟩; refine ⟨_, rfl, ?_⟩))
  go_ret
  exact ⟨by first | rfl | (simp; done) | (simp [*]; done), by repeat (first | exact Drawn0.refl _ | apply Drawn0.step)⟩

/-- THE ONE PURE STATEMENT of laws_FnZigZag: yours. -/
def laws_FnZigZag.Pure : Prop := ∀ (a0 : Int), (Lit.int .u32 a0).wf = true → laws_FnZigZag.f a0 = some true
theorem laws_FnZigZag.walk (P : laws_FnZigZag.Pure) (a0 : Int) (w : World) (w0 : (Lit.int .u32 a0).wf = true) :
    Calls Try.prog 3 #[.int .u32 a0] w fun e w' => e = .returned (.bool true) ∧ Below w.heap.size w w' := by
  have h := P a0 w0
  refine (laws_FnZigZag.calls a0 true w h).mono ?_
  rintro e w' ⟨rfl, hd⟩
  exact ⟨rfl, hd.below⟩

end Go.Proofs.Ytjfibofjbofpbaa.PFnZigZag
