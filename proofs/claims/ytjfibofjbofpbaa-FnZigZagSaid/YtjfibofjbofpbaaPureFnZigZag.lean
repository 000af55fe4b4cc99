/- Unfolding a folded number: for every uint32 the package's answer is the reference's. -/
import Derived.Test.YtjfibofjbofpbaaPFnZigZagx1
import Derived.Test.YtjfibofjbofpbaaSmall
namespace Go.Proofs.Ytjfibofjbofpbaa.Pure
open Go.RowKit Go.Proofs.Ytjfibofjbofpbaa.PFnZigZag Go.Proofs.YtjfibofjbofpbaaW.PrintWords Go.Proofs.YtjfibofjbofpbaaW.PrintLast
open Go.Proofs.Ytjfibofjbofpbaa.Small

theorem FnZigZag : laws_FnZigZag.Pure := by
  intro a0 hw
  obtain ⟨h0, h1⟩ := wf_u32 hw
  have e1 : Go.bits .and .u32 a0 1 = a0 % 2 := and1_u32 a0 h0 (by omega)
  have e2 : wrap64 a0 = a0 := by unfold wrap64; omega
  have e3 : Go.bits .and .i64 a0 1 = a0 % 2 := and1_i64 a0
  have e4 : wrap32 (a0 / 2) = a0 / 2 := by unfold wrap32; omega
  unfold laws_FnZigZag.f impl_ZigZag.f bits_DecodeZigZag.f spec_Unfolded.f
  simp only [Option.bind_some]
  rw [e2, e1, e3, e4]
  by_cases hp : a0 % 2 = 1
  · rw [if_pos hp, hp]
    have e5 : wrap32 (-(wrap32 1)) = -1 := by unfold wrap32; omega
    rw [e5, xor_i32_ones _ (by omega) (by omega)]
    simp only [Option.bind_some, Option.some.injEq, beq_iff_eq]
    unfold wrap64; omega
  · rw [if_neg hp]
    have hq : a0 % 2 = 0 := by omega
    rw [hq]
    have e5 : wrap32 (-(wrap32 0)) = 0 := by unfold wrap32; omega
    rw [e5, xor_i32_zero _ (by omega) (by omega)]
    simp only [Option.bind_some, Option.some.injEq, beq_iff_eq]
    unfold wrap64; omega
end Go.Proofs.Ytjfibofjbofpbaa.Pure
