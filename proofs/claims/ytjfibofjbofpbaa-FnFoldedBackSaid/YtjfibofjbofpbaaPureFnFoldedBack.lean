/- A folded number that is unfolded and folded is itself, for every uint32. -/
import Derived.Test.YtjfibofjbofpbaaPFnFoldedBackx1
import Derived.Test.YtjfibofjbofpbaaSmall
namespace Go.Proofs.Ytjfibofjbofpbaa.Pure
open Go.RowKit Go.Proofs.Ytjfibofjbofpbaa.PFnFoldedBack Go.Proofs.YtjfibofjbofpbaaW.PrintWords Go.Proofs.YtjfibofjbofpbaaW.PrintLast
open Go.Proofs.Ytjfibofjbofpbaa.Small

theorem zig (a0 : Int) (h0 : 0 ≤ a0) (h1 : a0 ≤ 4294967295) : impl_ZigZag.f a0 = some (if a0 % 2 = 1 then -(a0 / 2) - 1 else a0 / 2) := by
  have e1 : Go.bits .and .u32 a0 1 = a0 % 2 := and1_u32 a0 h0 (by omega)
  have e4 : wrap32 (a0 / 2) = a0 / 2 := by unfold wrap32; omega
  unfold impl_ZigZag.f bits_DecodeZigZag.f
  simp only [Option.bind_some]
  rw [e1, e4]
  by_cases hp : a0 % 2 = 1
  · rw [if_pos hp, hp]
    have e5 : wrap32 (-(wrap32 1)) = -1 := by unfold wrap32; omega
    rw [e5, xor_i32_ones _ (by omega) (by omega)]
  · rw [if_neg hp]
    have hq : a0 % 2 = 0 := by omega
    rw [hq]
    have e5 : wrap32 (-(wrap32 0)) = 0 := by unfold wrap32; omega
    rw [e5, xor_i32_zero _ (by omega) (by omega)]

theorem fold (a0 : Int) (h0 : -2147483648 ≤ a0) (h1 : a0 ≤ 2147483647) : impl_Folded.f a0 = some (if a0 < 0 then -2 * a0 - 1 else 2 * a0) := by
  unfold impl_Folded.f bits_EncodeZigZag.f
  by_cases hp : a0 < 0
  · rw [if_pos hp, if_pos hp]; simp only [Option.bind_some, Option.some.injEq]; unfold wrap32; omega
  · rw [if_neg hp, if_neg hp]; simp only [Option.bind_some, Option.some.injEq]; omega

theorem FnFoldedBack : laws_FnFoldedBack.Pure := by
  intro a0 hw
  obtain ⟨h0, h1⟩ := wf_u32 hw
  unfold laws_FnFoldedBack.f
  have e1 : impl_Folded.f (-1) = some 1 := by rw [fold (-1) (by decide) (by decide)]; rfl
  rw [zig a0 h0 h1, e1]
  simp only [Option.bind_some]
  by_cases hp : a0 % 2 = 1
  · rw [if_pos hp, fold _ (by omega) (by omega), if_pos (by omega)]
    simp only [Option.bind_some]
    rw [if_pos (by omega)]; rfl
  · rw [if_neg hp, fold _ (by omega) (by omega), if_neg (by omega)]
    simp only [Option.bind_some]
    rw [if_pos (by omega)]; rfl
end Go.Proofs.Ytjfibofjbofpbaa.Pure
