/- utf8.Encode into any sink: all numbers under 2^31. -/
import Derived.Test.YtmcllndnjdemaaaGreatDoorEns
namespace Go.Proofs.YtmcllndnjdemaaaGreatDoor.Walk
open Go Go.RowKit Go.Proofs.YtmcllndnjdemaaaGreatDoorW.PrintWords Go.Proofs.YtmcllndnjdemaaaGreatDoor.Num
variable {ty fn g B : Nat} {S : List Nat} {St : World → List Int → Prop}
theorem enc_any (R : Snk ty fn g B S St) (v : Nat) (xs : List Int) (w : World) (h : St w xs) (hB : B ≤ w.heap.size) (hlim : xs.length ≤ 60000000000000) (hv : v < 2147483648) :
  Calls Tryz.prog 79 #[.iface ty (.pointer (some ⟨g, 0, none⟩)), .int .u64 v] w fun e w' =>
   e = .returned .nilIface ∧ St w' (xs ++ coded v) ∧ Kp B S w w' := by
 have key : ∀ m top, more v = m → m ≠ 0 → 65280 / 2 ^ (m + 1) % 256 = top → coded v = ((top + v / 64 ^ m : Nat) : Int) :: tail v m := by
  intro m top hm h0 ht
  rw [coded, hm, first, if_neg h0, ht]
 by_cases h1 : v < 128
 ·have e : coded v = [(v : Int)] := by
   have hm : more v = 0 := by unfold more; rw [if_pos h1]
   rw [coded, hm, first, if_pos rfl, tail]
  rw [e]; exact enc0 R v xs w h hB hlim h1
 by_cases h2 : v < 2048
 ·rw [key 1 192 (by unfold more; rw [if_neg h1, if_pos h2]) (by decide) (by decide)]
  exact enc1 R v xs w h hB hlim (by omega) h2
 by_cases h3 : v < 65536
 ·rw [key 2 224 (by unfold more; rw [if_neg h1, if_neg h2, if_pos h3]) (by decide) (by decide)]
  exact enc2 R v xs w h hB hlim (by omega) h3
 by_cases h4 : v < 2097152
 ·rw [key 3 240 (by unfold more; rw [if_neg h1, if_neg h2, if_neg h3, if_pos h4]) (by decide) (by decide)]
  exact enc3 R v xs w h hB hlim (by omega) h4
 by_cases h5 : v < 67108864
 ·rw [key 4 248 (by unfold more; rw [if_neg h1, if_neg h2, if_neg h3, if_neg h4, if_pos h5]) (by decide) (by decide)]
  exact enc4 R v xs w h hB hlim (by omega) h5
 ·rw [key 5 252 (by unfold more; rw [if_neg h1, if_neg h2, if_neg h3, if_neg h4, if_neg h5, if_pos hv]) (by decide) (by decide)]
  exact enc5 R v xs w h hB hlim (by omega) hv
end Go.Proofs.YtmcllndnjdemaaaGreatDoor.Walk
