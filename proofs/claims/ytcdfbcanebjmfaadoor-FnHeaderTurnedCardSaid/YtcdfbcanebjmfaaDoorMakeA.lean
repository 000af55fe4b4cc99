/- bytes.NewReader, bits.NewReader; a bits.Reader is carried over what a call leaves. -/
import Derived.Test.YtcdfbcanebjmfaaDoorBitsF
namespace Go.Proofs.YtcdfbcanebjmfaaDoor.Walk
set_option linter.unusedVariables false
set_option linter.unusedSimpArgs false
open Go Go.RowKit Go.Proofs.YtcdfbcanebjmfaaDoorW.PrintWords Go.Proofs.YtcdfbcanebjmfaaDoor.Num

set_option maxHeartbeats 400000 in
set_option maxRecDepth 100000 in
theorem newRdr (A : Option Addr) (n c : Nat) (w : World) : Calls Tryd.prog 14 #[.slice A n c] w fun e w' =>
    e = .returned (.pointer (some ⟨w.heap.size, 0, none⟩)) ∧ w' = w.alloc (.cells #[.slice A n c, .int .i64 0, .int .i64 (-1)] 77) := by
  go_enter Tryd.func14, Tryd.ntmps14
  go_wp2
  go_ret
  exact ⟨rfl, rfl⟩
set_option maxHeartbeats 400000 in
set_option maxRecDepth 100000 in
theorem newBits (ty : Nat) (x : Value) (w : World) : Calls Tryd.prog 26 #[.iface ty x] w fun e w' =>
    e = .returned (.pointer (some ⟨w.heap.size, 0, none⟩)) ∧ w' = w.alloc (.cells (.iface ty x :: ((List.replicate 8 (.int .u8 0)) ++ [.int .u8 0, .int .u64 0])).toArray 127) := by
  go_enter Tryd.func26, Tryd.ntmps26
  go_wp2
  go_ret
  exact ⟨rfl, rfl⟩

theorem touch_grown {w w1 : World} {row : Option Nat} (h : w.grownBy w1 row) : Touch row.toList w w1 :=
  ⟨h.os, h.tape, h.output, h.size, fun k hk hn => h.block k hk (fun e => hn (by rw [← e]; simp))⟩
theorem Br.move {ty fn g gb : Nat} {S D : List Nat} {l : List Int} {St : World → Nat → Prop} (R : Src ty fn g S D l St) {w w' : World} {at_ : Nat} (h : Br ty g gb l St w at_) {U : List Nat} (t : Touch U w w')
    (hU : ∀ k ∈ U, k ≠ gb ∧ k ∉ D) : Br ty g gb l St w' at_ := by
  obtain ⟨p, nb, x, buf, hs, h1, h2, h3, h4, h5, hb⟩ := h.ex
  exact ⟨p, nb, x, buf, R.move U w w' p hs (fun k hk => (hU k hk).2) t, h1, h2, h3, h4, h5, t.heap hb (fun hm => (hU _ hm).1 rfl)⟩
theorem Br.le {ty fn g gb : Nat} {S D : List Nat} {l : List Int} {St : World → Nat → Prop} (R : Src ty fn g S D l St) {w : World} {at_ : Nat} (h : Br ty g gb l St w at_) : at_ ≤ 8 * l.length := by
  obtain ⟨p, nb, x, buf, hs, h1, _⟩ := h.ex
  have := R.le w p hs; omega
end Go.Proofs.YtcdfbcanebjmfaaDoor.Walk
