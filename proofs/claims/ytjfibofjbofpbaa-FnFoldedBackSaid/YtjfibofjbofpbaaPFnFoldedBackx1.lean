-- PRINTED BY print.sh 35421559b90ae4d0a3588c463048766b98c2df88dd9212a6774a882060cdf62d: not written by this session
import Derived.Test.YtjfibofjbofpbaaPFnFoldedBackx0
namespace Go.Proofs.Ytjfibofjbofpbaa.PFnFoldedBack
open Go.RowKit Go.Proofs.YtjfibofjbofpbaaW.PrintWords Go.Proofs.YtjfibofjbofpbaaW.PrintLast Go.Proofs.YtjfibofjbofpbaaW.PrintMore
attribute [local go_sem] max2_int min2_int max_two min_two max_three min_three max_four min_four   -- for this text's walks alone
set_option linter.unusedVariables false
set_option linter.unusedSimpArgs false

/-! ### bits_DecodeZigZag: function 19 -/
def bits_DecodeZigZag.f (a0 : Int) : Option (Int) := some (Go.bits .xor .i32 (wrap32 (a0 / 2)) (wrap32 (-(wrap32 (Go.bits .and .u32 a0 1)))))
set_option maxHeartbeats 8000000 in
set_option maxRecDepth 100000 in
theorem bits_DecodeZigZag.calls (a0 : Int) (r : Int) (w : World) (h : bits_DecodeZigZag.f a0 = some r) :
    Calls Try.prog 19 #[.int .u32 a0] w fun e w' => e = .returned (.int .i32 r) ∧ Drawn0 w w' := by
  have H : (some (Go.bits .xor .i32 (wrap32 (a0 / 2)) (wrap32 (-(wrap32 (Go.bits .and .u32 a0 1)))))) = some r := h
  clear h
  obtain rfl := Option.some.inj H
  go_enter Try.func19, Try.ntmps19
  go_wp2
  go_ret
  exact ⟨by first | rfl | (simp; done) | (simp [*]; done), by repeat (first | exact Drawn0.refl _ | apply Drawn0.step)⟩

/-! ### impl_ZigZag: function 10 -/
def impl_ZigZag.f (a0 : Int) : Option (Int) := (bits_DecodeZigZag.f a0).bind fun t101 => (some t101)
set_option maxHeartbeats 8000000 in
set_option maxRecDepth 100000 in
theorem impl_ZigZag.calls (a0 : Int) (r : Int) (w : World) (h : impl_ZigZag.f a0 = some r) :
    Calls Try.prog 10 #[.int .u32 a0] w fun e w' => e = .returned (.int .i32 r) ∧ Drawn0 w w' := by
  have H : ((bits_DecodeZigZag.f a0).bind fun t101 => (some t101)) = some r := h
  clear h
  replace H := Option.bind_eq_some_iff.mp H
  obtain ⟨t101, A20, H⟩ := H
  replace H : (some t101) = some r := H
  have A2 := Aside0.mk A20
  clear A20
  obtain rfl := Option.some.inj H
  go_enter Try.func10, Try.ntmps10
  go_wp2_with (first | ((with_reducible refine gate_callee (f := 19) rfl ?_); refine goesL_ (some 4) rfl rfl Try.func19 (by kernel_rfl) rfl #[.int .u32 a0] rfl (by (try simp only [List.map_toArray, List.map_cons, List.map_nil]); first | done | rfl | (simp only [List.length_drop, List.length_take]; rfl)) ?_; (with_reducible refine (bits_DecodeZigZag.calls a0 t101 _ A2.out).mono ?_); rintro e w' ⟨rfl, ⟨nd, rfl⟩⟩; refine ⟨_, rfl, ?_⟩))
  go_ret
  exact ⟨by first | rfl | (simp; done) | (simp [*]; done), by repeat (first | exact Drawn0.refl _ | apply Drawn0.step)⟩

/-! ### bits_EncodeZigZag: function 20 -/
def bits_EncodeZigZag.f (a0 : Int) : Option (Int) := if a0 < 0 then (some ((((((wrap32 (-a0)) % 4294967296) * 2) % 4294967296) - 1) % 4294967296)) else (some ((((a0) % 4294967296) * 2) % 4294967296))
set_option maxHeartbeats 8000000 in
set_option maxRecDepth 100000 in
theorem bits_EncodeZigZag.calls (a0 : Int) (r : Int) (w : World) (h : bits_EncodeZigZag.f a0 = some r) :
    Calls Try.prog 20 #[.int .i32 a0] w fun e w' => e = .returned (.int .u32 r) ∧ Drawn0 w w' := by
  have H : (if a0 < 0 then (some ((((((wrap32 (-a0)) % 4294967296) * 2) % 4294967296) - 1) % 4294967296)) else (some ((((a0) % 4294967296) * 2) % 4294967296))) = some r := h
  clear h
  by_cases c2 : a0 < 0
  · rw [if_pos c2] at H
    have c2b0 : decide (a0 < 0) = true := decide_eq_true c2
    clear c2
    obtain rfl := Option.some.inj H
    go_enter Try.func20, Try.ntmps20
    go_wp2
    go_ret
    exact ⟨by first | rfl | (simp; done) | (simp [*]; done), by repeat (first | exact Drawn0.refl _ | apply Drawn0.step)⟩
  · rw [if_neg c2] at H
    have c2b0 : decide (a0 < 0) = false := decide_eq_false c2
    clear c2
    obtain rfl := Option.some.inj H
    go_enter Try.func20, Try.ntmps20
    go_wp2
    go_ret
    exact ⟨by first | rfl | (simp; done) | (simp [*]; done), by repeat (first | exact Drawn0.refl _ | apply Drawn0.step)⟩

/-! ### impl_Folded: function 12 -/
def impl_Folded.f (a0 : Int) : Option (Int) := (bits_EncodeZigZag.f a0).bind fun t102 => (some t102)
set_option maxHeartbeats 8000000 in
set_option maxRecDepth 100000 in
theorem impl_Folded.calls (a0 : Int) (r : Int) (w : World) (h : impl_Folded.f a0 = some r) :
    Calls Try.prog 12 #[.int .i32 a0] w fun e w' => e = .returned (.int .u32 r) ∧ Drawn0 w w' := by
  have H : ((bits_EncodeZigZag.f a0).bind fun t102 => (some t102)) = some r := h
  clear h
  replace H := Option.bind_eq_some_iff.mp H
  obtain ⟨t102, A20, H⟩ := H
  replace H : (some t102) = some r := H
  have A2 := Aside0.mk A20
  clear A20
  obtain rfl := Option.some.inj H
  go_enter Try.func12, Try.ntmps12
  go_wp2_with (first | ((with_reducible refine gate_callee (f := 20) rfl ?_); refine goesL_ (some 4) rfl rfl Try.func20 (by kernel_rfl) rfl #[.int .i32 a0] rfl (by (try simp only [List.map_toArray, List.map_cons, List.map_nil]); first | done | rfl | (simp only [List.length_drop, List.length_take]; rfl)) ?_; (with_reducible refine (bits_EncodeZigZag.calls a0 t102 _ A2.out).mono ?_); rintro e w' ⟨rfl, ⟨nd, rfl⟩⟩; refine ⟨_, rfl, ?_⟩))
  go_ret
  exact ⟨by first | rfl | (simp; done) | (simp [*]; done), by repeat (first | exact Drawn0.refl _ | apply Drawn0.step)⟩

/-! ### laws_FnFoldedBack: function 5 -/
def laws_FnFoldedBack.f (a0 : Int) : Option (Bool) := (impl_ZigZag.f a0).bind fun t103 => ((impl_Folded.f t103).bind fun t104 => (if t104 = a0 then ((impl_Folded.f (-1)).bind fun t105 => (some (t105 == 1))) else (some false)))
set_option maxHeartbeats 8000000 in
set_option maxRecDepth 100000 in
theorem laws_FnFoldedBack.calls (a0 : Int) (r : Bool) (w : World) (h : laws_FnFoldedBack.f a0 = some r) :
    Calls Try.prog 5 #[.int .u32 a0] w fun e w' => e = .returned (.bool r) ∧ Drawn0 w w' := by
  have H : ((impl_ZigZag.f a0).bind fun t103 => ((impl_Folded.f t103).bind fun t104 => (if t104 = a0 then ((impl_Folded.f (-1)).bind fun t105 => (some (t105 == 1))) else (some false)))) = some r := h
  clear h
  replace H := Option.bind_eq_some_iff.mp H
  obtain ⟨t103, A20, H⟩ := H
  replace H : ((impl_Folded.f t103).bind fun t104 => (if t104 = a0 then ((impl_Folded.f (-1)).bind fun t105 => (some (t105 == 1))) else (some false))) = some r := H
  have A2 := Aside0.mk A20
  clear A20
  replace H := Option.bind_eq_some_iff.mp H
  obtain ⟨t104, A30, H⟩ := H
  replace H : (if t104 = a0 then ((impl_Folded.f (-1)).bind fun t105 => (some (t105 == 1))) else (some false)) = some r := H
  have A3 := Aside0.mk A30
  clear A30
  by_cases c4 : t104 = a0
  · rw [if_pos c4] at H
    have c4b0 : (t104 == a0) = true := beq_iff_eq.mpr c4
    have c4b1 : (t104 != a0) = false := bne_eq_false_iff_eq.mpr c4
    clear c4
    replace H := Option.bind_eq_some_iff.mp H
    obtain ⟨t105, A50, H⟩ := H
    replace H : (some (t105 == 1)) = some r := H
    have A5 := Aside0.mk A50
    clear A50
    obtain rfl := Option.some.inj H
    go_enter Try.func5, Try.ntmps5
    go_wp2_with (first | ((with_reducible refine gate_callee (f := 10) rfl ?_); refine goesL_ (some 4) rfl rfl Try.func10 (by kernel_rfl) rfl #[.int .u32 a0] rfl (by (try simp only [List.map_toArray, List.map_cons, List.map_nil]); first | done | rfl | (simp only [List.length_drop, List.length_take]; rfl)) ?_; (with_reducible refine (impl_ZigZag.calls a0 t103 _ A2.out).mono ?_); rintro e w' ⟨rfl, ⟨nd, rfl⟩⟩; refine ⟨_, rfl, ?_⟩) | ((with_reducible refine gate_callee (f := 12) rfl ?_); refine goesL_ (some 5) rfl rfl Try.func12 (by kernel_rfl) rfl #[.int .i32 t103] rfl (by (try simp only [List.map_toArray, List.map_cons, List.map_nil]); first | done | rfl | (simp only [List.length_drop, List.length_take]; rfl)) ?_; (with_reducible refine (impl_Folded.calls t103 t104 _ A3.out).mono ?_); rintro e w' ⟨rfl, ⟨nd, rfl⟩⟩; refine ⟨_, rfl, ?_⟩) | (go_at_call 12; (with_reducible refine (impl_Folded.calls (-1) t105 _ A5.out).mono ?_); rintro e w' ⟨rfl, ⟨nd, rfl⟩⟩))
    go_ret
    exact ⟨by first | rfl | (simp; done) | (simp [*]; done), by repeat (first | exact Drawn0.refl _ | apply Drawn0.step)⟩
  · rw [if_neg c4] at H
    have c4b0 : (t104 == a0) = false := beq_eq_false_iff_ne.mpr c4
    have c4b1 : (t104 != a0) = true := bne_iff_ne.mpr c4
    obtain rfl := Option.some.inj H
    go_enter Try.func5, Try.ntmps5
    go_wp2_with (first | ((with_reducible refine gate_callee (f := 10) rfl ?_); refine goesL_ (some 4) rfl rfl Try.func10 (by kernel_rfl) rfl #[.int .u32 a0] rfl (by (try simp only [List.map_toArray, List.map_cons, List.map_nil]); first | done | rfl | (simp only [List.length_drop, List.length_take]; rfl)) ?_; (with_reducible refine (impl_ZigZag.calls a0 t103 _ A2.out).mono ?_); rintro e w' ⟨rfl, ⟨nd, rfl⟩⟩; refine ⟨_, rfl, ?_⟩) | ((with_reducible refine gate_callee (f := 12) rfl ?_); refine goesL_ (some 5) rfl rfl Try.func12 (by kernel_rfl) rfl #[.int .i32 t103] rfl (by (try simp only [List.map_toArray, List.map_cons, List.map_nil]); first | done | rfl | (simp only [List.length_drop, List.length_take]; rfl)) ?_; (with_reducible refine (impl_Folded.calls t103 t104 _ A3.out).mono ?_); rintro e w' ⟨rfl, ⟨nd, rfl⟩⟩; refine ⟨_, rfl, ?_⟩))
    go_ret
    exact ⟨by first | rfl | (simp; done) | (simp [*]; done), by repeat (first | exact Drawn0.refl _ | apply Drawn0.step)⟩

/-- THE ONE PURE STATEMENT of laws_FnFoldedBack: yours. -/
def laws_FnFoldedBack.Pure : Prop := ∀ (a0 : Int), (Lit.int .u32 a0).wf = true → laws_FnFoldedBack.f a0 = some true
theorem laws_FnFoldedBack.walk (P : laws_FnFoldedBack.Pure) (a0 : Int) (w : World) (w0 : (Lit.int .u32 a0).wf = true) :
    Calls Try.prog 5 #[.int .u32 a0] w fun e w' => e = .returned (.bool true) ∧ Below w.heap.size w w' := by
  have h := P a0 w0
  refine (laws_FnFoldedBack.calls a0 true w h).mono ?_
  rintro e w' ⟨rfl, hd⟩
  exact ⟨rfl, hd.below⟩

end Go.Proofs.Ytjfibofjbofpbaa.PFnFoldedBack
