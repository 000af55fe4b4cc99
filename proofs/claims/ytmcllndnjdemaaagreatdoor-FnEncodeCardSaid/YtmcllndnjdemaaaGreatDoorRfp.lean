/- A frame that the package wrote, as the reference's reader meets it (plain). -/
import Derived.Test.YtmcllndnjdemaaaGreatDoorRhg
import Derived.Test.YtmcllndnjdemaaaGreatDoorEf
namespace Go.Proofs.YtmcllndnjdemaaaGreatDoor.Walk
set_option linter.unusedVariables false
set_option linter.unusedSimpArgs false
open Go Go.RowKit Go.Proofs.YtmcllndnjdemaaaGreatDoorW.PrintWords Go.Proofs.YtmcllndnjdemaaaGreatDoorW.PrintLast Go.Proofs.YtmcllndnjdemaaaGreatDoorW.PrintMore Go.Proofs.YtmcllndnjdemaaaGreatDoor.Num Go.Proofs.YtmcllndnjdemaaaGreatDoor.Crc
theorem bts_sum (z b : Nat) : ∀ a, bts z (a + b) = bts (z / 2 ^ b) a ++ bts z b
 | 0 => by simp [bts]
 | a + 1 => by
  rw [show a + 1 + b = (a + b) + 1 by omega, bts, bts_sum z b a, bts, Nat.div_div_eq_div_mul, ← Nat.pow_add, Nat.add_comm b a]; rfl
structure FrAt (l hb : List Int) (p q z bp : Nat) (subs : List Sb) : Prop where
 he : ∃ rest, l = hb ++ up8 (f8 7) 0 hb :: rest
 hp : hb.length + 1 = p
 hs : BitsAt l (8 * p) (allBits bp subs)
 hpad : BitsAt l (8 * p + (allBits bp subs).length) (List.replicate (padOf (allBits bp subs).length) 0)
 hq : 8 * q = 8 * p + (allBits bp subs).length + padOf (allBits bp subs).length
 hz : BitsAt l (8 * q) (bts z 16)
 hc : up16 (f16 32773) 0 (l.take q) = (z : Int)
 hz16 : z < 65536
 hl : q + 2 ≤ l.length
theorem frame_at {F rest : List Int} {vr : Bool} {sz rt ch bp nm : Nat} {subs : List Sb} (h : FrameIs F vr sz rt ch bp nm subs) :
  ∃ hb p q z, bytesBits hb = hdrBits vr sz rt ch bp nm ∧ FrAt (F ++ rest) hb p q z bp subs ∧ F.length = q + 2 := by
 obtain ⟨hb, body, cr, h1, h2, h3, h4, h5, rfl⟩ := h
 obtain ⟨s8, hs8⟩ : ∃ s, up8 (f8 7) 0 hb = s := ⟨_, rfl⟩
 rw [hs8] at h2 h4 ⊢
 have hlen := congrArg List.length h3
 rw [bytesBits_len, List.length_append, List.length_replicate] at hlen
 refine ⟨hb, hb.length + 1, hb.length + 1 + body.length, cr, h1, ⟨⟨body ++ [((cr / 256 : Nat) : Int), ((cr % 256 : Nat) : Int)] ++ rest, by simp [hs8]⟩, rfl, ?_, ?_, by omega, ?_, ?_, h5, ?_⟩, ?_⟩
 ·have h := bitsAt_bytes (hb ++ [s8]) body ([((cr / 256 : Nat) : Int), ((cr % 256 : Nat) : Int)] ++ rest)
  rw [h3, List.length_append] at h
  rw [List.append_assoc, List.append_assoc]
  exact h.left
 ·have h := bitsAt_bytes (hb ++ [s8]) body ([((cr / 256 : Nat) : Int), ((cr % 256 : Nat) : Int)] ++ rest)
  rw [h3, List.length_append] at h
  rw [List.append_assoc, List.append_assoc]
  exact h.right
 ·have h := bitsAt_bytes (hb ++ [s8] ++ body) [((cr / 256 : Nat) : Int), ((cr % 256 : Nat) : Int)] rest
  rw [List.length_append, List.length_append] at h
  rw [List.append_assoc]
  have e : bytesBits [((cr / 256 : Nat) : Int), ((cr % 256 : Nat) : Int)] = bts cr 16 := by
   rw [show (16 : Nat) = 8 + 8 from rfl, bts_sum, bytesBits, bytesBits, bytesBits, List.append_nil, Int.toNat_natCast, Int.toNat_natCast, ← bts_mod cr 8 8 (Nat.le_refl _)]
  rw [e] at h; exact h
 ·have e : (hb ++ [s8] ++ body).length = hb.length + 1 + body.length := by simp; omega
  rw [List.append_assoc (hb ++ [s8] ++ body), ← e, List.take_left, h4]
 ·simp; omega
 ·simp; omega
end Go.Proofs.YtmcllndnjdemaaaGreatDoor.Walk
