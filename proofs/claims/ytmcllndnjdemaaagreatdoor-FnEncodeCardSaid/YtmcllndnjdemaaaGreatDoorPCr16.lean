/- Contracts that print.sh printed for this claim (spec_Crc16), cut out and mended in places by wip/pcut.py. -/
import Derived.Test.YtmcllndnjdemaaaGreatDoorPFnEncodex0
import Derived.Test.YtmcllndnjdemaaaGreatDoorPFnEncodex2
namespace Go.Proofs.YtmcllndnjdemaaaGreatDoor.PFnEncode
open Go.RowKit Go.Proofs.YtmcllndnjdemaaaGreatDoorW.PrintWords Go.Proofs.YtmcllndnjdemaaaGreatDoorW.PrintLast Go.Proofs.YtmcllndnjdemaaaGreatDoorW.PrintMore
attribute [local go_sem] max2_int min2_int max_two min_two max_three min_three max_four min_four   -- for this text's walks alone
set_option linter.unusedVariables false
set_option linter.unusedSimpArgs false
def spec_Crc16.f (k : Nat) (l0 : List Int) : Option (Int) := (spec_Crc.f k l0 16 32773).bind fun t277 => (some t277)
set_option maxHeartbeats 8000000 in
set_option maxRecDepth 100000 in
theorem spec_Crc16.calls (k : Nat) (A0 : Option Addr) (c0 : Nat) (l0 : List Int) (r : Int) (w : World) (hr0 : Kd.C (Kd.int .u8) w A0 l0.length l0) (hc0 : l0.length ≤ c0) (h : spec_Crc16.f k l0 = some r) :
  Calls Tryz.prog 31 #[.slice A0 l0.length c0] w fun e w' => e = .returned (.int .i64 r) ∧ Drawn0 w w' := by
 have HR0 := Aside0.mk hr0
 have HC0 := Aside0.mk hc0
 clear hr0 hc0
 have H : ((spec_Crc.f k l0 16 32773).bind fun t277 => (some t277)) = some r := h
 clear h
 replace H := Option.bind_eq_some_iff.mp H
 obtain ⟨t277, A20, H⟩ := H
 replace H : (some t277) = some r := H
 have A2 := Aside0.mk A20
 clear A20
 obtain rfl := Option.some.inj H
 go_enter Tryz.func31, Tryz.ntmps31
 go_wp2_with (first | ((with_reducible refine gate_callee (f := 61) rfl ?_); refine goesL_ (some 4) rfl rfl Tryz.func61 (by kernel_rfl) rfl #[.slice A0 l0.length c0, .int .i64 16, .int .i64 32773] rfl (by (try simp only [List.map_toArray, List.map_cons, List.map_nil]); first | done | rfl | (simp only [List.length_drop, List.length_take]; rfl)) ?_; (with_reducible refine (spec_Crc.calls k _ _ l0 16 32773 t277 _ ?side1 ?side2 A2.out).mono ?_); (case side1 => repeat (first | exact HR0.out | (with_reducible refine Kd.C_alloc ?_ _) | (with_reducible refine Kd.C_drewN ?_ _) | (with_reducible refine Kd.C_drew ?_))); (case side2 => exact HC0.out); rintro e w' ⟨rfl, ⟨nd, rfl⟩⟩; refine ⟨_, rfl, ?_⟩))
 go_ret
 exact ⟨by first | rfl | (simp; done) | (simp [*]; done), by repeat (first | exact Drawn0.refl _ | apply Drawn0.step)⟩
end Go.Proofs.YtmcllndnjdemaaaGreatDoor.PFnEncode
