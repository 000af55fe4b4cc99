/- The reference's reader of bits, over bits that are known: words, numbers with a sign, noughts ahead of a one. -/
import Derived.Test.YtmcllndnjdemaaaGreatDoorBase
import Derived.Test.YtmcllndnjdemaaaGreatDoorPRd
import Derived.Outline
import Derived.IntWalk
import Derived.Deep.RegionHeld3
import Derived.Deep.DeepCutAuto
namespace Go.Proofs.YtmcllndnjdemaaaGreatDoor.Walk
set_option linter.unusedVariables false
set_option linter.unusedSimpArgs false
open Go Go.RowKit Go.Proofs.YtmcllndnjdemaaaGreatDoorW.PrintWords Go.Proofs.YtmcllndnjdemaaaGreatDoorW.PrintLast Go.Proofs.YtmcllndnjdemaaaGreatDoorW.PrintMore Go.Proofs.YtmcllndnjdemaaaGreatDoor.Num Go.Proofs.YtmcllndnjdemaaaGreatDoor.PFnEncode
theorem and7_i64 (a : Nat) (h : a < 4611686018427387904) : Go.bits .and .i64 (a : Int) 7 = ((a % 8 : Nat) : Int) := by
 have h1 : Go.bits .and .i64 (a : Int) 7 = IntKind.i64.wrap ((BitVec.ofInt 64 (a : Int) &&& BitVec.ofInt 64 7).toNat : Int) := rfl
 have h2 : a &&& (2 ^ 3 - 1) = a % 2 ^ 3 := Nat.and_two_pow_sub_one_eq_mod a 3
 rw [h1, BitVec.ofInt_natCast, show BitVec.ofInt 64 7 = BitVec.ofNat 64 7 from rfl, BitVec.toNat_and, BitVec.toNat_ofNat, BitVec.toNat_ofNat, Nat.mod_eq_of_lt (by omega), Nat.mod_eq_of_lt (by omega), show (7 : Nat) = 2 ^ 3 - 1 from rfl, h2, IntKind.wrap_i64]
 omega
theorem and1_i64 (a : Nat) (h : a < 4611686018427387904) : Go.bits .and .i64 (a : Int) 1 = ((a % 2 : Nat) : Int) := by
 have h1 : Go.bits .and .i64 (a : Int) 1 = IntKind.i64.wrap ((BitVec.ofInt 64 (a : Int) &&& BitVec.ofInt 64 1).toNat : Int) := rfl
 have h2 : a &&& (2 ^ 1 - 1) = a % 2 ^ 1 := Nat.and_two_pow_sub_one_eq_mod a 1
 rw [h1, BitVec.ofInt_natCast, show BitVec.ofInt 64 1 = BitVec.ofNat 64 1 from rfl, BitVec.toNat_and, BitVec.toNat_ofNat, BitVec.toNat_ofNat, Nat.mod_eq_of_lt (by omega), Nat.mod_eq_of_lt (by omega), show (1 : Nat) = 2 ^ 1 - 1 from rfl, h2, IntKind.wrap_i64]
 omega
theorem or1_i64 (x t : Nat) (hx : x < 1152921504606846976) (ht : t < 2) : Go.bits .or .i64 ((x : Int) * 2) (t : Int) = ((2 * x + t : Nat) : Int) := by
 have h1 : Go.bits .or .i64 ((x : Int) * 2) (t : Int) = IntKind.i64.wrap ((BitVec.ofInt 64 ((x : Int) * 2) ||| BitVec.ofInt 64 (t : Int)).toNat : Int) := rfl
 have h2 : 2 ^ 1 * x + t = 2 ^ 1 * x ||| t := Nat.two_pow_add_eq_or_of_lt (by omega) x
 have e : (x : Int) * 2 = ((2 * x : Nat) : Int) := by omega
 rw [h1, e, BitVec.ofInt_natCast, BitVec.ofInt_natCast, BitVec.toNat_or, BitVec.toNat_ofNat, BitVec.toNat_ofNat, Nat.mod_eq_of_lt (by omega), Nat.mod_eq_of_lt (by omega), IntKind.wrap_i64]
 rw [Nat.pow_one] at h2
 rw [← h2]
 omega
theorem wrap64_nat (a : Nat) (h : a < 4611686018427387904) : wrap64 (a : Int) = (a : Int) := by unfold wrap64; omega
theorem pow60 {i : Nat} (h : i ≤ 60) : 2 ^ i ≤ 1152921504606846976 := Nat.le_trans (Nat.pow_le_pow_right (by decide) h) (by decide)
theorem rword_l0 (l : List Int) (hb : ∀ i, l.getD i 0 = (byteAt l i : Int) ∧ byteAt l i < 256) : ∀ (d k x i n at_ : Nat) (sh : Bool), i + d = n → n ≤ 60 → x < 2 ^ i → at_ + d ≤ 1125899906842624 → (8 * l.length < at_ → sh = true) →
  ∃ (v : Nat) (sh' : Bool), spec_reader_word.l0 (k + 1 + d) (x : Int) (n : Int) (i : Int) l (at_ : Int) sh = some ((v : Int), ((at_ + d : Nat) : Int), sh') ∧ v < 2 ^ n ∧ (at_ + d ≤ 8 * l.length → v = x * 2 ^ d + num l at_ d ∧ sh' = sh) ∧ (8 * l.length < at_ + d → sh' = true) ∧ (sh = true → sh' = true)
 | 0, k, x, i, n, at_, sh, hin, hn, hx, hat, hsh => by
  obtain rfl : i = n := by omega
  refine ⟨x, sh, ?_, hx, fun _ => ⟨by simp [num], rfl⟩, fun h => hsh h, id⟩
  rw [Nat.add_zero, spec_reader_word.l0, if_neg (by omega)]; rfl
 | d + 1, k, x, i, n, at_, sh, hin, hn, hx, hat, hsh => by
  have hx16 := pow60 (show i ≤ 60 by omega)
  have hx2 : x < 1152921504606846976 := by omega
  have hi60 : i < 60 := by omega
  have e1 : wrap64 ((i : Int) + 1) = ((i + 1 : Nat) : Int) := by rw [show (i : Int) + 1 = ((i + 1 : Nat) : Int) by omega, wrap64_nat _ (by omega)]
  have e2 : wrap64 ((at_ : Int) + 1) = ((at_ + 1 : Nat) : Int) := by rw [show (at_ : Int) + 1 = ((at_ + 1 : Nat) : Int) by omega, wrap64_nat _ (by omega)]
  have e3 : wrap64 ((x : Int) * 2) = ((2 * x : Nat) : Int) := by rw [show (x : Int) * 2 = ((2 * x : Nat) : Int) by omega, wrap64_nat _ (by omega)]
  rw [← Nat.add_assoc, spec_reader_word.l0, if_pos (by omega), e1, e2, e3]
  by_cases hlt : at_ / 8 < l.length
  ·have h7 : wrap64 (7 - Go.bits .and .i64 (at_ : Int) 7) = ((7 - at_ % 8 : Nat) : Int) := by
    rw [and7_i64 at_ (by omega)]; unfold wrap64; omega
   have hr : wrap64 (rd l ((at_ : Int) / 8)) = ((byteAt l (at_ / 8) : Nat) : Int) := by
    have : ((at_ : Int) / 8).toNat = at_ / 8 := by omega
    rw [rd, this, (hb _).1, wrap64_nat _ (by have := (hb (at_ / 8)).2; omega)]
   have hs : Go.bits .and .i64 (shr .i64 (byteAt l (at_ / 8) : Int) ((7 - at_ % 8 : Nat) : Int)) 1 = ((bitAt l at_ : Nat) : Int) := by
    have e : shr .i64 (byteAt l (at_ / 8) : Int) ((7 - at_ % 8 : Nat) : Int) = ((byteAt l (at_ / 8) / 2 ^ (7 - at_ % 8) : Nat) : Int) := by
     unfold shr
     rw [Int.toNat_natCast, Nat.min_eq_left (by show 7 - at_ % 8 ≤ 64; omega)]
     simp
    have hq : byteAt l (at_ / 8) / 2 ^ (7 - at_ % 8) ≤ byteAt l (at_ / 8) := Nat.div_le_self _ _
    have := (hb (at_ / 8)).2
    rw [e, and1_i64 _ (by omega)]; rfl
   have ht := bitAt_lt l at_
   have ho : Go.bits .or .i64 ((2 * x : Nat) : Int) ((bitAt l at_ : Nat) : Int) = ((2 * x + bitAt l at_ : Nat) : Int) := by
    have h := or1_i64 x (bitAt l at_) (by omega) ht
    rw [show (x : Int) * 2 = ((2 * x : Nat) : Int) by omega] at h; exact h
   rw [if_pos (by omega), if_pos (by omega), h7, if_pos (by omega), hr, hs, ho]
   have hx3 : 2 * x + bitAt l at_ < 2 ^ (i + 1) := by rw [Nat.pow_succ]; omega
   obtain ⟨v, sh', h1, h2, h3, h4, h5⟩ := rword_l0 l hb d k (2 * x + bitAt l at_) (i + 1) n (at_ + 1) sh (by omega) hn hx3 (by omega) (fun h => by omega)
   refine ⟨v, sh', by rw [h1, show at_ + 1 + d = at_ + (d + 1) by omega], h2, fun h => ?_, fun h => h4 (by omega), h5⟩
   obtain ⟨h6, h7⟩ := h3 (by omega)
   refine ⟨?_, h7⟩
   have hn1 : num l at_ 1 = bitAt l at_ := by simp [num]
   rw [h6, show d + 1 = 1 + d by omega, num_add, hn1, Nat.add_mul, Nat.pow_add, Nat.pow_one, ← Nat.mul_assoc, Nat.mul_comm x 2]
   omega
  ·rw [if_neg (by omega)]
   have hx3 : 2 * x < 2 ^ (i + 1) := by rw [Nat.pow_succ]; omega
   obtain ⟨v, sh', h1, h2, h3, h4, h5⟩ := rword_l0 l hb d k (2 * x) (i + 1) n (at_ + 1) true (by omega) hn hx3 (by omega) (fun _ => rfl)
   exact ⟨v, sh', by rw [h1, show at_ + 1 + d = at_ + (d + 1) by omega], h2, fun h => by omega, fun _ => h5 rfl, fun _ => h5 rfl⟩
theorem rword (l : List Int) (hb : ∀ i, l.getD i 0 = (byteAt l i : Int) ∧ byteAt l i < 256) (n at_ : Nat) (sh : Bool) (hn : n ≤ 60) (hat : at_ + n ≤ 1125899906842624) (hsh : 8 * l.length < at_ → sh = true) :
  ∃ (v : Nat) (sh' : Bool), spec_reader_word.f (1 + n) l (at_ : Int) sh (n : Int) = some ((v : Int), ((at_ + n : Nat) : Int), sh') ∧ v < 2 ^ n ∧ (at_ + n ≤ 8 * l.length → v = num l at_ n ∧ sh' = sh) ∧ (8 * l.length < at_ + n → sh' = true) ∧ (sh = true → sh' = true) := by
 obtain ⟨v, sh', h1, h2, h3, h4⟩ := rword_l0 l hb n 0 0 0 n at_ sh (by omega) hn (by decide) hat hsh
 refine ⟨v, sh', by rw [Nat.zero_add] at h1; exact h1, h2, fun h => ?_, h4⟩
 obtain ⟨h5, h6⟩ := h3 h
 exact ⟨by rw [h5]; omega, h6⟩
theorem rword_bits {l : List Int} (hb : ∀ i, l.getD i 0 = (byteAt l i : Int) ∧ byteAt l i < 256) {n at_ v : Nat} (hn : n ≤ 60) (hl : l.length ≤ 140737488355328) (h : BitsAt l at_ (bts v n)) :
  spec_reader_word.f (1 + n) l (at_ : Int) false (n : Int) = some (((v % 2 ^ n : Nat) : Int), ((at_ + n : Nat) : Int), false) := by
 have h1 := h.1
 rw [bts_len] at h1
 obtain ⟨v', sh', e, _, h3, _⟩ := rword l hb n at_ false hn (by omega) (fun h => by omega)
 obtain ⟨h4, h5⟩ := h3 h1
 rw [e, h4, h5, h.val]
structure Rd (w0 : World) (g : Nat) (l : List Int) (at_ : Nat) (w : World) : Prop where
 is : IsS156 w0 w g l (at_ : Int) false
 bel : Below w0.heap.size w0 w
theorem touch_of_keep {w0 w w' : World} {g : Nat} (h : Below w0.heap.size w0 w) (h' : Below w0.heap.size w0 w') (hk : KeepBut w w' g none) : Touch [g] w w' :=
 ⟨h'.os.trans h.os.symm, h'.tape.trans h.tape.symm, h'.output.trans h.output.symm, hk.1, fun k hk1 hk2 => hk.2 k hk1 (by simpa using hk2) (by simp)⟩
theorem rd_word {w0 w : World} {g at_ : Nat} {l : List Int} (h : Rd w0 g l at_ w) (hb : ∀ i, l.getD i 0 = (byteAt l i : Int) ∧ byteAt l i < 256) (hl : l.length ≤ 140737488355328) {n v : Nat} (hn : n ≤ 60) (hbits : BitsAt l at_ (bts v n)) :
  Calls Tryz.prog 48 #[.pointer (some ⟨g, 0, none⟩), .int .i64 n] w fun e w' => e = .returned (.int .i64 (v % 2 ^ n : Nat)) ∧ Rd w0 g l (at_ + n) w' ∧ Touch [g] w w' :=
 (spec_reader_word.calls (1 + n) g l at_ false n (v % 2 ^ n : Nat) (at_ + n : Nat) false w0 w h.is h.bel (rword_bits hb hn hl hbits)).mono fun e w' ⟨he, hI, hB, hK⟩ => ⟨he, ⟨hI, hB⟩, touch_of_keep h.bel hB hK⟩
def low (x : Int) (n : Nat) : Nat := (x % 2 ^ n).toNat
theorem low_lt (x : Int) (n : Nat) : low x n < 2 ^ n := by
 have h : (0 : Int) < 2 ^ n := Int.pow_pos (by decide)
 have h1 := Int.emod_nonneg x (Int.ne_of_gt h)
 have h2 := Int.emod_lt_of_pos x h
 have e : ((2 ^ n : Nat) : Int) = (2 : Int) ^ n := by simp
 unfold low
 omega
theorem rd_signed {w0 w : World} {g at_ : Nat} {l : List Int} (h : Rd w0 g l at_ w) (hb : ∀ i, l.getD i 0 = (byteAt l i : Int) ∧ byteAt l i < 256) (hl : l.length ≤ 140737488355328) {n : Nat} {x : Int} (hn0 : 0 < n) (hn : n ≤ 60) (hx1 : -(2 ^ (n - 1) : Nat) ≤ x) (hx2 : x < (2 ^ (n - 1) : Nat)) (hbits : BitsAt l at_ (bts (low x n) n)) :
  Calls Tryz.prog 92 #[.pointer (some ⟨g, 0, none⟩), .int .i64 n] w fun e w' => e = .returned (.int .i64 x) ∧ Rd w0 g l (at_ + n) w' ∧ Touch [g] w w' := by
 obtain ⟨k, rfl⟩ : ∃ k, n = k + 1 := ⟨n - 1, by omega⟩
 have hw := rword_bits hb hn hl hbits
 rw [Nat.mod_eq_of_lt (low_lt x _)] at hw
 obtain ⟨P, hP⟩ : ∃ P, 2 ^ k = P := ⟨_, rfl⟩
 have hP0 : 0 < P := by rw [← hP]; exact Nat.two_pow_pos k
 have hPb : P ≤ 1152921504606846976 := by rw [← hP]; exact pow60 (by omega)
 have hlow : (low x (k + 1) : Int) = x % (2 * P : Int) := by
  have e : (2 : Int) ^ (k + 1) = (2 * P : Int) := by rw [Int.pow_succ, ← hP]; simp; omega
  unfold low
  rw [e]
  have := Int.emod_nonneg x (show (2 * P : Int) ≠ 0 by omega)
  omega
 rw [show k + 1 - 1 = k by omega, hP] at hx1 hx2
 have hs : spec_reader_signed.f (1 + (k + 1)) l (at_ : Int) false ((k + 1 : Nat) : Int) = some (x, ((at_ + (k + 1) : Nat) : Int), false) := by
  unfold spec_reader_signed.f
  rw [hw]
  have e1 : wrap64 (((k + 1 : Nat) : Int) - 1) = (k : Int) := by unfold wrap64; omega
  have e2 : shr .i64 (low x (k + 1) : Int) (k : Int) = (low x (k + 1) : Int) / (P : Int) := by
   unfold shr
   rw [Int.toNat_natCast, Nat.min_eq_left (by show k ≤ 64; omega), ← hP]; simp
  have e3 : shl .i64 1 ((k + 1 : Nat) : Int) = (2 * P : Int) := by
   unfold shl
   rw [Int.toNat_natCast, Nat.min_eq_left (by show k + 1 ≤ 64; omega), Int.one_mul, Int.pow_succ]
   have e : (2 : Int) ^ k = (P : Int) := by rw [← hP]; simp
   rw [e, IntKind.wrap_i64]; omega
  show (if ((k + 1 : Nat) : Int) > 0 then _ else _) = _
  rw [if_pos (by omega), if_pos (by rw [e1]; omega), e1, e2, e3]
  by_cases hneg : x < 0
  ·have hl2 : (low x (k + 1) : Int) = x + 2 * P := by
    rw [hlow]
    exact ((Int.ediv_emod_unique (a := x) (b := 2 * (P : Int)) (r := x + 2 * P) (q := -1) (by omega)).2 ⟨by omega, by omega, by omega⟩).2
   have hd : (x + 2 * (P : Int)) / (P : Int) = 1 := ((Int.ediv_emod_unique (a := x + 2 * (P : Int)) (b := (P : Int)) (r := x + P) (q := 1) (by omega)).2 ⟨by omega, by omega, by omega⟩).1
   rw [hl2, hd, if_pos rfl, if_pos (by omega)]
   congr 2
   unfold wrap64; omega
  ·have hl2 : (low x (k + 1) : Int) = x := by
    rw [hlow]
    exact ((Int.ediv_emod_unique (a := x) (b := 2 * (P : Int)) (r := x) (q := 0) (by omega)).2 ⟨by omega, by omega, by omega⟩).2
   have hd : x / (P : Int) = 0 := Int.ediv_eq_zero_of_lt (by omega) hx2
   rw [hl2, hd, if_neg (by decide)]
 exact (spec_reader_signed.calls (1 + (k + 1)) g l at_ false (k + 1 : Nat) x (at_ + (k + 1) : Nat) false w0 w h.is h.bel hs).mono fun e w' ⟨he, hI, hB, hK⟩ => ⟨he, ⟨hI, hB⟩, touch_of_keep h.bel hB hK⟩
theorem runary_l0 {l : List Int} (hb : ∀ i, l.getD i 0 = (byteAt l i : Int) ∧ byteAt l i < 256) (hl : l.length ≤ 140737488355328) : ∀ (q k c at_ : Nat), c + q ≤ 1152921504606846976 → BitsAt l at_ (List.replicate q 0 ++ [1]) →
  spec_reader_unary.l0 (k + 3 + q) (c : Int) l (at_ : Int) false = some (((c + q : Nat) : Int), ((at_ + q + 1 : Nat) : Int), false)
 | 0, k, c, at_, hc, h => by
  have hw : spec_reader_word.f (1 + 1) l (at_ : Int) false ((1 : Nat) : Int) = some (((1 % 2 ^ 1 : Nat) : Int), ((at_ + 1 : Nat) : Int), false) := rword_bits hb (by decide) hl (by simpa [bts] using h)
  have hw2 : spec_reader_word.f (k + 2) l (at_ : Int) false 1 = some (1, ((at_ + 1 : Nat) : Int), false) := by
   have := hw
   induction k with
   | zero => exact hw
   | succ k ih => exact (spec_reader_word.mono _ _ _ _ _) _ ih
  rw [Nat.add_zero, show k + 3 = (k + 2) + 1 from rfl, spec_reader_unary.l0, if_neg (by decide), hw2]
  simp
 | q + 1, k, c, at_, hc, h => by
  rw [List.replicate_succ] at h
  have e : 0 :: List.replicate q 0 ++ [1] = [0] ++ (List.replicate q 0 ++ [1]) := rfl
  rw [e] at h
  have hw : spec_reader_word.f (1 + 1) l (at_ : Int) false ((1 : Nat) : Int) = some (((0 % 2 ^ 1 : Nat) : Int), ((at_ + 1 : Nat) : Int), false) := rword_bits hb (by decide) hl (by simpa [bts] using h.left)
  obtain ⟨m, hm⟩ : ∃ m, k + 3 + q = m + 2 := ⟨k + 1 + q, by omega⟩
  have hw2 : ∀ m, spec_reader_word.f (m + 2) l (at_ : Int) false 1 = some (0, ((at_ + 1 : Nat) : Int), false) := by
   intro m
   induction m with
   | zero => exact hw
   | succ k ih => exact (spec_reader_word.mono _ _ _ _ _) _ ih
  have ih := runary_l0 hb hl q k (c + 1) (at_ + 1) (by omega) h.right
  have ec : wrap64 ((c : Int) + 1) = ((c + 1 : Nat) : Int) := by rw [show (c : Int) + 1 = ((c + 1 : Nat) : Int) by omega, wrap64_nat _ (by omega)]
  rw [← Nat.add_assoc, spec_reader_unary.l0, if_neg (by decide), hm, hw2]
  rw [hm] at ih
  rw [Option.bind_some, if_pos rfl, ec, ih, show c + 1 + q = c + (q + 1) by omega, show at_ + 1 + q + 1 = at_ + (q + 1) + 1 by omega]
theorem rd_unary {w0 w : World} {g at_ : Nat} {l : List Int} (h : Rd w0 g l at_ w) (hb : ∀ i, l.getD i 0 = (byteAt l i : Int) ∧ byteAt l i < 256) (hl : l.length ≤ 140737488355328) {q : Nat} (hq : q ≤ 1152921504606846976) (hbits : BitsAt l at_ (List.replicate q 0 ++ [1])) :
  Calls Tryz.prog 91 #[.pointer (some ⟨g, 0, none⟩)] w fun e w' => e = .returned (.int .i64 q) ∧ Rd w0 g l (at_ + q + 1) w' ∧ Touch [g] w w' := by
 have hf : spec_reader_unary.f (0 + 3 + q) l (at_ : Int) false = some ((q : Int), ((at_ + q + 1 : Nat) : Int), false) := by
  have h1 := runary_l0 hb hl q 0 0 at_ (by omega) hbits
  rw [show 0 + q = q from Nat.zero_add q] at h1
  unfold spec_reader_unary.f; exact h1
 exact (spec_reader_unary.calls (0 + 3 + q) g l at_ false q (at_ + q + 1 : Nat) false w0 w h.is h.bel hf).mono fun e w' ⟨he, hI, hB, hK⟩ => ⟨he, ⟨hI, hB⟩, touch_of_keep h.bel hB hK⟩
end Go.Proofs.YtmcllndnjdemaaaGreatDoor.Walk
namespace Go.Proofs.YtmcllndnjdemaaaGreatDoor.Walk
set_option linter.unusedVariables false
set_option linter.unusedSimpArgs false
open Go Go.RowKit Go.Proofs.YtmcllndnjdemaaaGreatDoorW.PrintWords Go.Proofs.YtmcllndnjdemaaaGreatDoorW.PrintLast Go.Proofs.YtmcllndnjdemaaaGreatDoorW.PrintMore Go.Proofs.YtmcllndnjdemaaaGreatDoor.Num Go.Proofs.YtmcllndnjdemaaaGreatDoor.PFnEncode
def zz (r : Int) : Nat := if r < 0 then (-2 * r - 1).toNat else (2 * r).toNat
def riceOf (r : Int) : List Nat := List.replicate (zz r / 4096) 0 ++ [1] ++ bts (zz r) 12
def riceBits : List Int → List Nat
 | [] => []
 | r :: l => riceOf r ++ riceBits l
theorem zz_le (r : Int) (h1 : -1073741824 ≤ r) (h2 : r ≤ 1073741824) : zz r ≤ 2147483648 := by unfold zz; split <;> omega
theorem unfolded_zz (r : Int) (h1 : -1073741824 ≤ r) (h2 : r ≤ 1073741824) : spec_Unfolded.f (zz r : Int) = some r := by
 have hz := zz_le r h1 h2
 unfold spec_Unfolded.f
 rw [and1_i64 _ (by omega)]
 unfold zz at hz ⊢
 by_cases h : r < 0
 ·rw [if_pos h] at hz ⊢
  rw [if_pos (by omega)]
  congr 1
  unfold wrap64; omega
 ·rw [if_neg h] at hz ⊢
  rw [if_neg (by omega)]
  congr 1; omega
theorem fits_32 (r : Int) (h1 : -1073741824 ≤ r) (h2 : r ≤ 1073741824) : spec_fits.f r 32 = some true := by
 have e1 : wrap64 (32 - 1) = 31 := by decide +kernel
 have e2 : shl .i64 (-1) 31 = -2147483648 := by decide +kernel
 have e3 : shl .i64 1 31 = 2147483648 := by decide +kernel
 unfold spec_fits.f
 rw [e1, e2, e3, if_pos (by decide), if_pos (by omega), decide_eq_true (by omega)]
theorem or_i64_12 (q t : Nat) (hq : q ≤ 1125899906842624) (ht : t < 4096) : Go.bits .or .i64 ((q : Int) * 4096) (t : Int) = ((q * 4096 + t : Nat) : Int) := by
 have h1 : Go.bits .or .i64 ((q : Int) * 4096) (t : Int) = IntKind.i64.wrap ((BitVec.ofInt 64 ((q : Int) * 4096) ||| BitVec.ofInt 64 (t : Int)).toNat : Int) := rfl
 have h2 : 2 ^ 12 * q + t = 2 ^ 12 * q ||| t := Nat.two_pow_add_eq_or_of_lt (by omega) q
 have e : (q : Int) * 4096 = ((4096 * q : Nat) : Int) := by omega
 rw [h1, e, BitVec.ofInt_natCast, BitVec.ofInt_natCast, BitVec.toNat_or, BitVec.toNat_ofNat, BitVec.toNat_ofNat, Nat.mod_eq_of_lt (by omega), Nat.mod_eq_of_lt (by omega), IntKind.wrap_i64]
 rw [show (2 : Nat) ^ 12 = 4096 from rfl] at h2
 rw [← h2]
 omega
theorem Touch.then_below {S : List Nat} {a b c : World} (h : Touch S a b) (k : Below a.heap.size b c) : Touch S a c :=
 ⟨k.os.trans h.os, k.tape.trans h.tape, k.output.trans h.output, Nat.le_trans h.size k.size, fun i hi hn => (k.block i hi).trans (h.block i hi hn)⟩
theorem Rd.below {w0 w w1 : World} {g at_ B : Nat} {l : List Int} (h : Rd w0 g l at_ w) (b : Below B w w1) (hg : g < B) (hB : w0.heap.size ≤ B) : Rd w0 g l at_ w1 := by
 obtain ⟨⟨A0, c0, h1, h2, h3⟩, hb⟩ := h
 exact ⟨⟨A0, c0, (b.block g hg).trans h1, h2, h3⟩, hb.trans ⟨b.os, b.tape, b.output, b.size, fun k hk => b.block k (by omega)⟩⟩
theorem Rd.lt {w0 w : World} {g at_ : Nat} {l : List Int} (h : Rd w0 g l at_ w) : g < w.heap.size := h.is.lt
theorem Rd.ge {w0 w : World} {g at_ : Nat} {l : List Int} (h : Rd w0 g l at_ w) : w0.heap.size ≤ g := h.is.ge
theorem Rd.short {w0 w : World} {g at_ : Nat} {l : List Int} (h : Rd w0 g l at_ w) : w.cell? ⟨g, 2, none⟩ = some (.bool false) := by
 obtain ⟨⟨A0, c0, k1, k2, k3⟩, _⟩ := h
 rw [cell_of_row w g 2 _ _ _ k1]; rfl
theorem rd_lit {w0 w : World} {g at_ : Nat} {l : List Int} (h : Rd w0 g l at_ w) (hb : ∀ i, l.getD i 0 = (byteAt l i : Int) ∧ byteAt l i < 256) (hl : l.length ≤ 140737488355328) (n v : Nat) (hn : n ≤ 60) (hv : v < 2 ^ n) (hbits : BitsAt l at_ (bts v n)) :
  Calls Tryz.prog 48 #[.pointer (some ⟨g, 0, none⟩), .int .i64 n] w fun e w' => e = .returned (.int .i64 v) ∧ Rd w0 g l (at_ + n) w' ∧ Touch [g] w w' := by
 have h1 := rd_word h hb hl hn hbits
 rw [Nat.mod_eq_of_lt hv] at h1; exact h1
theorem own_ge {w : World} {base size n : Nat} {e : TypeId} {v : Value} {xs : List Value} (h : w.ownsRow base e size v n xs) : ∀ k, v.ownBlock = some k → base ≤ k := by
 intro k hk
 rcases h.2 with ⟨rfl, _⟩ | ⟨g, cap, cur, rfl, hb, _⟩
 ·cases hk
 ·obtain rfl : g = k := by simpa [Value.ownBlock] using hk
  exact hb
theorem own_touch {w w' : World} {base : Nat} {e : TypeId} {size n : Nat} {v : Value} {xs : List Value} (h : w.ownsRow base e size v n xs) {U : List Nat} (t : Touch U w w') (hU : ∀ k, v.ownBlock = some k → k ∉ U) : w'.ownsRow base e size v n xs := by
 obtain ⟨h1, h2 | ⟨g, cap, cur, rfl, hb, hh, hn, hc, hs, ht⟩⟩ := h
 ·exact ⟨h1, .inl h2⟩
 ·exact ⟨h1, .inr ⟨g, cap, cur, rfl, hb, t.heap hh (hU g rfl), hn, hc, hs, ht⟩⟩
theorem infoInt : (Tryz.prog.info? 3).map (fun i => (i.zero, i.size, i.bytes)) = some (some (.int .i64 0), 1, 8) := by kernel_rfl
theorem unf_call (r : Int) (h1 : -1073741824 ≤ r) (h2 : r ≤ 1073741824) (z : Nat) (hz : zz r = z) (w : World) : Calls Tryz.prog 111 #[.int .i64 z] w fun e w' => e = .returned (.int .i64 r) ∧ ∃ n, w' = w.drewN n := by
 subst hz
 exact (spec_Unfolded.calls _ r w (unfolded_zz r h1 h2)).mono fun e w' h => ⟨h.1, h.2.out⟩
theorem fits_call (r : Int) (h1 : -1073741824 ≤ r) (h2 : r ≤ 1073741824) (w : World) : Calls Tryz.prog 56 #[.int .i64 r, .int .i64 32] w fun e w' => e = .returned (.bool true) ∧ ∃ n, w' = w.drewN n :=
 (spec_fits.calls r 32 true w (fits_32 r h1 h2)).mono fun e w' h => ⟨h.1, h.2.out⟩
theorem Rd.drew {w0 w : World} {g at_ : Nat} {l : List Int} (h : Rd w0 g l at_ w) : Rd w0 g l at_ w.drew :=
 h.below ((Below.refl _ _).drew) h.lt (Nat.le_trans h.ge (Nat.le_of_lt h.lt))
theorem Rd.drewN {w0 w : World} {g at_ : Nat} {l : List Int} (h : Rd w0 g l at_ w) (n : Nat) : Rd w0 g l at_ (w.drewN n) :=
 h.below (below_drewN (Below.refl _ _) n) h.lt (Nat.le_trans h.ge (Nat.le_of_lt h.lt))
set_option maxHeartbeats 16000000 in
set_option maxRecDepth 100000 in
theorem residual_ok {w0 w : World} {g at_ : Nat} {l : List Int} (h : Rd w0 g l at_ w) (hb : ∀ i, l.getD i 0 = (byteAt l i : Int) ∧ byteAt l i < 256) (hl : l.length ≤ 140737488355328) (size order n : Nat) (hsz : order + n = size) (hn0 : 0 < n) (hs : size ≤ 65536) (rs : List Int) (hrs : rs.length = n)
  (hr : ∀ r ∈ rs, -1073741824 ≤ r ∧ r ≤ 1073741824) (hbits : BitsAt l at_ (bts 0 2 ++ (bts 0 4 ++ (bts 12 4 ++ riceBits rs)))) :
  Calls Tryz.prog 93 #[.pointer (some ⟨g, 0, none⟩), .int .i64 size, .int .i64 order] w fun e w' => ∃ x, e = .returned (.tuple #[x, .int .i64 0]) ∧ w'.ownsRow w.heap.size 3 1 x n (nums .i64 rs) ∧
   Rd w0 g l (at_ + 10 + (riceBits rs).length) w' ∧ Touch [g] w w' := by
 have HB := Lib.hid hb
 have HR := Lib.hid hr
 have HRS := Lib.hid hrs
 have h1 := rd_lit h hb hl 2 0 (by decide) (by decide) hbits.left
 have hbits := hbits.right
 rw [bts_len] at hbits
 have HB2 := Lib.hid hbits
 have hgw := h.lt
 have hg0 := h.ge
 have H1 := Lib.hid h1
 clear h1 h hb hr hrs hbits
 go_enter Tryz.func93, Tryz.ntmps93
 go_wp2_with fail
 refine H1.out.mono ?_
 rintro e w1 ⟨rfl, hr1, t1⟩
 have h1 := rd_lit hr1 HB.out hl 4 0 (by decide) (by decide) HB2.out.left
 have hbits := HB2.out.right
 rw [bts_len] at hbits
 have HB3 := Lib.hid hbits
 have H2 := Lib.hid h1
 have T1 := Lib.hid t1
 clear h1 hr1 t1 hbits
 go_wp2_with fail
 refine H2.out.mono ?_
 rintro e w2 ⟨rfl, hr2, t2⟩
 have X2 := Lib.hid (And.intro hr2 (T1.out.trans t2))
 clear hr2 t2
 have hos : (size : Int) ≤ (order : Int) ↔ False := ⟨fun h => by omega, False.elim⟩
 have hon : (size : Int) - (order : Int) = (n : Int) := by omega
 go_wp2_with fail
 refine wp_loop_rounds 2 ?_
 rw [rounds_succ]
 go_wp2_with fail
 have hr2 := X2.out.1.below ((Below.refl w2.heap.size w2).alloc (Nat.le_refl _) (.cells #[] 3)) X2.out.1.lt (Nat.le_trans hg0 (Nat.le_of_lt X2.out.1.lt))
 have h1 := rd_lit hr2 HB.out hl 4 12 (by decide) (by decide) HB3.out.left
 have hbits := HB3.out.right
 rw [bts_len] at hbits
 have HB4 := Lib.hid hbits
 have H3 := Lib.hid h1
 have hown : (w2.alloc (.cells #[] 3)).ownsRow w.heap.size 3 1 (.slice (some ⟨w2.heap.size, 0, none⟩) 0 0) 0 (nums .i64 []) :=
  World.ownsRow_lit (base := w.heap.size) w2 #[] 0 X2.out.2.size (by unfold maxLen; omega) (by simp)
 have HOW := Lib.hid hown
 clear h1 hbits hr2 hown
 refine H3.out.mono ?_
 rintro e w3 ⟨rfl, hr3, t3⟩
 have hown3 := own_touch HOW.out t3 (fun k hk hm => by
  have h1 := own_ge HOW.out k hk
  simp at hm; omega)
 have X3 := Lib.hid (And.intro hr3 (And.intro ((X2.out.2.alloc (.cells #[] 3)).trans t3) hown3))
 clear hr3 t3 hown3 HOW X2 H1 H2 H3 T1
 obtain ⟨v11, hv11⟩ : ∃ v11, Value.slice (some ⟨w2.heap.size, 0, none⟩) 0 0 = v11 := ⟨_, rfl⟩
 rw [hv11] at X3
 rw [hv11]
 clear hv11
 go_wp2_with fail
 go_loopw [11, 65] (fun ov iv wr => ∃ (j at2 : Nat), j ≤ n ∧ iv = .int .i64 j ∧ wr.ownsRow w.heap.size 3 1 ov j (nums .i64 (rs.take j)) ∧ Rd w0 g l at2 wr ∧ Touch [g] w wr ∧ BitsAt l at2 (riceBits (rs.drop j)) ∧
  at2 + (riceBits (rs.drop j)).length = at_ + 10 + (riceBits rs).length) (fun _ iv _ => n - (intOf iv).toNat)
 case atStart => exact ⟨0, at_ + 2 + 4 + 4, by omega, rfl, X3.out.2.2, X3.out.1, X3.out.2.1, HB4.out, rfl⟩
 case round =>
  obtain ⟨j, at2, hjn, rfl, hown, hrd, ht, hbs, hat⟩ := hrel
  have X := Lib.hid (And.intro hown (And.intro hrd (And.intro ht (And.intro hbs hat))))
  clear hown hrd ht hbs hat
  by_cases hj : j < n
  ·have hjr : j < rs.length := by rw [HRS.out]; exact hj
   obtain ⟨r, hrj⟩ : ∃ r, rs[j] = r := ⟨_, rfl⟩
   have hrb := HR.out _ (List.getElem_mem hjr)
   rw [hrj] at hrb
   have hd : rs.drop j = r :: rs.drop (j + 1) := by rw [← hrj]; exact List.drop_eq_getElem_cons hjr
   have ht1 : rs.take (j + 1) = rs.take j ++ [r] := by rw [← hrj]; exact List.take_succ_eq_append_getElem hjr
   have hz := zz_le r hrb.1 hrb.2
   obtain ⟨q, hq⟩ : ∃ q, zz r / 4096 = q := ⟨_, rfl⟩
   have hq2 : q ≤ 524288 := by omega
   have hbs := X.out.2.2.2.1
   rw [hd] at hbs
   have hbs : BitsAt l at2 ((List.replicate q 0 ++ [1]) ++ (bts (zz r) 12 ++ riceBits (rs.drop (j + 1)))) := by
    rw [← hq, ← List.append_assoc]; exact hbs
   have h1 := rd_unary X.out.2.1 HB.out hl (by omega) hbs.left
   have hbs2 := hbs.right
   have e1 : (List.replicate q 0 ++ [1]).length = q + 1 := by simp
   rw [e1, ← Nat.add_assoc] at hbs2
   have H1 := Lib.hid h1
   have HBS2 := Lib.hid hbs2
   have HD := Lib.hid (And.intro hd (And.intro ht1 hq))
   have HRB := Lib.hid hrb
   clear h1 hbs2 hbs hd ht1 hq e1 hrj hrb hz
   go_wp2_with fail
   refine H1.out.mono ?_
   rintro e w4 ⟨rfl, hr4, t4⟩
   have q4 := hr4.short
   have X4 := Lib.hid (And.intro hr4 t4)
   have hqd : decide ((1048576 : Int) < (q : Int)) = false := by simp; omega
   clear hr4 t4 H1
   go_upto_region 28 with fail
   obtain ⟨z, hz⟩ : ∃ z, zz r = z := ⟨_, rfl⟩
   obtain ⟨t, ht⟩ : ∃ t, z % 4096 = t := ⟨_, rfl⟩
   have ht2 : t < 4096 := by omega
   have hqt : q * 4096 + t = z := by have := HD.out.2.2; omega
   have hor := or_i64_12 q t (by omega) ht2
   rw [hqt] at hor
   have h1 := rd_word X4.out.1.drew HB.out hl (n := 12) (v := zz r) (by decide) HBS2.out.left
   rw [hz, show (2 : Nat) ^ 12 = 4096 from rfl, ht] at h1
   have H2 := Lib.hid h1
   have HZ := Lib.hid hz
   clear h1 ht hqt hz
   have hw1 : IntKind.i64.wrap ((q : Int) * 4096) = (q : Int) * 4096 := by rw [IntKind.wrap_i64]; omega
   have hw2 : IntKind.i64.wrap ((q : Int) * 2 ^ 12) = (q : Int) * 4096 := by rw [IntKind.wrap_i64]; omega
   go_region_held3 (fun _ => True) (trivial) (first
    | (go_at_call 48; refine H2.out.mono ?_; rintro e w5 ⟨rfl, hr5, t5⟩)
    | (go_at_call 111; refine (unf_call r HRB.out.1 HRB.out.2 z HZ.out _).mono ?_; rintro e w6 ⟨rfl, q6, rfl⟩))
   obtain ⟨w6, hw6⟩ : ∃ w6, w5.drewN q6 = w6 := ⟨_, rfl⟩
   have hr6 := hr5.drewN q6
   have t6 := (X4.out.2.drew.trans t5).drewN q6
   rw [hw6] at hr6 t6 ⊢
   have q5 := hr6.short
   have X6 := Lib.hid (And.intro hr6 t6)
   have hrn : ((r : Int) == -2147483648) = false := by have := HRB.out; simp; omega
   clear hr5 t5 hr6 t6 hw6 H2 X4 q4 hqd
   go_wp2_with fail
   refine (fits_call r HRB.out.1 HRB.out.2 _).mono ?_
   rintro e w7 ⟨rfl, q7, rfl⟩
   obtain ⟨w7, hw7⟩ : ∃ w7, w6.drewN q7 = w7 := ⟨_, rfl⟩
   have hr7 := X6.out.1.drewN q7
   have t7 := X6.out.2.drewN q7
   rw [hw7] at hr7 t7 ⊢
   have hown7 := own_touch X.out.1 t7 (fun k hk hm => by
    have h1 := own_ge X.out.1 k hk
    simp at hm; omega)
   have X7 := Lib.hid (And.intro hr7 (And.intro t7 hown7))
   clear hr7 t7 hown7 hw7 X6 q5
   have hlt : (rs.take j).length = j := by rw [List.length_take, HRS.out]; omega
   go_wp2_with (with_reducible refine stop_dst (N := 103) rfl ?_)
   refine unstop ?_
   refine print_append_num (w0 := w7) w.heap.size rfl (.tmp 100) (.tmp 102) 44 3 .i64 8 rfl Tryz.underlying44 infoInt (by decide) u11 (rs.take j) r rfl rfl ?aO ?aB ?aS ?aL ?_
   case aO => rw [hlt]; exact X7.out.2.2
   case aB => exact Below.refl _ _
   case aS => exact Nat.le_trans X.out.2.2.1.size X7.out.2.1.size
   case aL => rw [hlt]; omega
   intro v1 w8 hO8 hB8 _ _
   have e2 : (rs.take j ++ [r]).length = j + 1 := by rw [List.length_append, hlt, List.length_singleton]
   rw [e2, ← HD.out.2.1] at hO8
   have hgw2 : g < w.heap.size := hgw
   have Z := Lib.hid (And.intro hO8 (And.intro (X7.out.1.below hB8 hgw2 (Nat.le_trans hg0 (Nat.le_of_lt hgw2))) ((X.out.2.2.1.trans X7.out.2.1).then_below hB8)))
   have hbs3 := HBS2.out.right
   rw [bts_len] at hbs3
   have hlen : (riceBits (rs.drop j)).length = q + 1 + 12 + (riceBits (rs.drop (j + 1))).length := by
    rw [HD.out.1, riceBits, List.length_append]
    unfold riceOf
    rw [HD.out.2.2, List.length_append, List.length_append, List.length_replicate, bts_len]; rfl
   have hat2 := X.out.2.2.2.2
   have W := Lib.hid (And.intro hbs3 (show at2 + q + 1 + 12 + (riceBits (rs.drop (j + 1))).length = at_ + 10 + (riceBits rs).length by omega))
   clear hO8 hB8 hbs3 hlen hat2 X7
   go_wp2_with fail
   go_roundw
   case rel => exact ⟨j + 1, at2 + q + 1 + 12, by omega, by go_num, Z.out.1, Z.out.2.1, Z.out.2.2, W.out.1, W.out.2⟩
   case measure => simp [intOf]; omega
  ·obtain rfl : j = n := by omega
   go_wp2_with fail
   rw [rounds_succ]
   go_wp2_with fail
   go_ret2
   have e1 : rs.take j = rs := List.take_of_length_le (by rw [HRS.out]; exact Nat.le_refl _)
   have e2 : rs.drop j = [] := List.drop_eq_nil_of_le (by rw [HRS.out]; exact Nat.le_refl _)
   have h1 := X.out.1
   have h2 := X.out.2.2.2.2
   rw [e1] at h1
   rw [e2] at h2
   have h3 : at2 = at_ + 10 + (riceBits rs).length := h2
   exact ⟨u11, rfl, h1, by rw [← h3]; exact X.out.2.1, X.out.2.2.1⟩
end Go.Proofs.YtmcllndnjdemaaaGreatDoor.Walk
namespace Go.Proofs.YtmcllndnjdemaaaGreatDoor.Walk
set_option linter.unusedVariables false
set_option linter.unusedSimpArgs false
open Go Go.RowKit Go.Proofs.YtmcllndnjdemaaaGreatDoorW.PrintWords Go.Proofs.YtmcllndnjdemaaaGreatDoorW.PrintLast Go.Proofs.YtmcllndnjdemaaaGreatDoorW.PrintMore Go.Proofs.YtmcllndnjdemaaaGreatDoor.Num Go.Proofs.YtmcllndnjdemaaaGreatDoor.PFnEncode
def sampBits (n : Nat) : List Int → List Nat
 | [] => []
 | x :: l => bts (low x n) n ++ sampBits n l
theorem sampBits_len (n : Nat) : ∀ l, (sampBits n l).length = n * l.length
 | [] => rfl
 | x :: l => by rw [sampBits, List.length_append, bts_len, sampBits_len n l, List.length_cons, Nat.mul_add, Nat.mul_one, Nat.add_comm]
def Fits (n : Nat) (x : Int) : Prop := -(2 ^ (n - 1) : Nat) ≤ x ∧ x < (2 ^ (n - 1) : Nat)
theorem Fits.small {n : Nat} {x : Int} (h : Fits n x) (hn : n ≤ 32) : -2147483648 ≤ x ∧ x ≤ 2147483648 := by
 have h1 : 2 ^ (n - 1) ≤ 2 ^ 31 := Nat.pow_le_pow_right (by decide) (by omega)
 obtain ⟨h2, h3⟩ := h
 have e : (2 : Nat) ^ 31 = 2147483648 := rfl
 omega
theorem nums_len (k : IntKind) (l : List Int) : (nums k l).length = l.length := by simp [nums]
theorem own_nil (B : Nat) (w : World) (h : B ≤ w.heap.size) : (w.alloc (.cells #[] 3)).ownsRow B 3 1 (.slice (some ⟨w.heap.size, 0, none⟩) 0 0) 0 (nums .i64 []) :=
 World.ownsRow_lit (base := B) w #[] 0 h (by unfold maxLen; omega) (by simp)
theorem shl0 (x : Int) (h1 : -2147483648 ≤ x) (h2 : x ≤ 2147483648) : IntKind.i64.wrap x = x := by rw [IntKind.wrap_i64]; omega
def pred (o : Nat) (s : List Int) (i : Nat) : Int :=
 match o with
 | 1 => s.getD (i - 1) 0
 | 2 => 2 * s.getD (i - 1) 0 - s.getD (i - 2) 0
 | 3 => 3 * s.getD (i - 1) 0 - 3 * s.getD (i - 2) 0 + s.getD (i - 3) 0
 | 4 => 4 * s.getD (i - 1) 0 - 6 * s.getD (i - 2) 0 + 4 * s.getD (i - 3) 0 - s.getD (i - 4) 0
 | _ => 0
theorem getD_take (s : List Int) (i c : Nat) (hc : 0 < c) (h : c ≤ i) : (s.take i).getD (i - c) 0 = s.getD (i - c) 0 := by
 rw [List.getD_eq_getElem?_getD, List.getD_eq_getElem?_getD, List.getElem?_take, if_pos (by omega)]
theorem pred_take (o : Nat) (s : List Int) (i : Nat) (h : o ≤ i) : pred o (s.take i) i = pred o s i := by
 unfold pred
 split
 ·rw [getD_take s i 1 (by decide) (by omega)]
 ·rw [getD_take s i 1 (by decide) (by omega), getD_take s i 2 (by decide) (by omega)]
 ·rw [getD_take s i 1 (by decide) (by omega), getD_take s i 2 (by decide) (by omega), getD_take s i 3 (by decide) (by omega)]
 ·rw [getD_take s i 1 (by decide) (by omega), getD_take s i 2 (by decide) (by omega), getD_take s i 3 (by decide) (by omega), getD_take s i 4 (by decide) (by omega)]
 ·rfl
theorem fixed_of (t : List Int) (o : Nat) (ho : o ≤ 4) (hol : o ≤ t.length) (hl : t.length ≤ 65536) (hb : ∀ i, -33554432 ≤ t.getD i 0 ∧ t.getD i 0 ≤ 33554432) : spec_fixedOf.f t (o : Int) = some (pred o t t.length) := by
 have hw : ∀ c : Nat, c ≤ t.length → wrap64 ((t.length : Int) - (c : Int)) = ((t.length - c : Nat) : Int) := fun c hc => by unfold wrap64; omega
 have hr : ∀ m : Nat, rd t (m : Int) = t.getD m 0 := fun m => by unfold rd; rw [Int.toNat_natCast]
 have hw1 : 1 ≤ t.length → wrap64 ((t.length : Int) - 1) = ((t.length - 1 : Nat) : Int) := hw 1
 have hw2 : 2 ≤ t.length → wrap64 ((t.length : Int) - 2) = ((t.length - 2 : Nat) : Int) := hw 2
 have hw3 : 3 ≤ t.length → wrap64 ((t.length : Int) - 3) = ((t.length - 3 : Nat) : Int) := hw 3
 have hw4 : 4 ≤ t.length → wrap64 ((t.length : Int) - 4) = ((t.length - 4 : Nat) : Int) := hw 4
 have b1 := hb (t.length - 1)
 have b2 := hb (t.length - 2)
 have b3 := hb (t.length - 3)
 have b4 := hb (t.length - 4)
 have hk : ∀ x : Int, -9223372036854775808 ≤ x → x < 9223372036854775808 → wrap64 x = x := fun x h1 h2 => by unfold wrap64; omega
 rcases (by omega : o = 0 ∨ o = 1 ∨ o = 2 ∨ o = 3 ∨ o = 4) with rfl | rfl | rfl | rfl | rfl
 ·rfl
 ·have hw1 := hw1 hol
  show spec_fixedOf.f t 1 = _
  unfold spec_fixedOf.f
  rw [if_pos rfl, hw1, if_pos (by omega), if_pos (by omega), hr]; rfl
 ·have hw1 := hw1 (by omega)
  have hw2 := hw2 hol
  show spec_fixedOf.f t 2 = _
  unfold spec_fixedOf.f
  rw [if_neg (by decide), if_pos rfl, hw1, hw2, if_pos (by omega), if_pos (by omega), if_pos (by omega), if_pos (by omega), hr, hr]
  unfold pred
  rw [hk (2 * _) (by omega) (by omega), hk _ (by omega) (by omega)]
  rfl
 ·have hw1 := hw1 (by omega)
  have hw2 := hw2 (by omega)
  have hw3 := hw3 hol
  show spec_fixedOf.f t 3 = _
  unfold spec_fixedOf.f
  rw [if_neg (by decide), if_neg (by decide), if_pos rfl, hw1, hw2, hw3, if_pos (by omega), if_pos (by omega), if_pos (by omega), if_pos (by omega), if_pos (by omega), if_pos (by omega), hr, hr, hr]
  unfold pred
  rw [hk (3 * t.getD (t.length - 1) 0) (by omega) (by omega), hk (3 * t.getD (t.length - 2) 0) (by omega) (by omega), hk (3 * t.getD (t.length - 1) 0 - 3 * t.getD (t.length - 2) 0) (by omega) (by omega), hk _ (by omega) (by omega)]
  rfl
 ·have hw1 := hw1 (by omega)
  have hw2 := hw2 (by omega)
  have hw3 := hw3 (by omega)
  have hw4 := hw4 hol
  show spec_fixedOf.f t 4 = _
  unfold spec_fixedOf.f
  rw [if_neg (by decide), if_neg (by decide), if_neg (by decide), if_pos rfl, hw1, hw2, hw3, hw4, if_pos (by omega), if_pos (by omega), if_pos (by omega), if_pos (by omega), if_pos (by omega), if_pos (by omega), if_pos (by omega), if_pos (by omega), hr, hr, hr, hr]
  unfold pred
  rw [hk (4 * t.getD (t.length - 1) 0) (by omega) (by omega), hk (6 * t.getD (t.length - 2) 0) (by omega) (by omega), hk (4 * t.getD (t.length - 3) 0) (by omega) (by omega), hk (4 * t.getD (t.length - 1) 0 - 6 * t.getD (t.length - 2) 0) (by omega) (by omega), hk (4 * t.getD (t.length - 1) 0 - 6 * t.getD (t.length - 2) 0 + 4 * t.getD (t.length - 3) 0) (by omega) (by omega), hk _ (by omega) (by omega)]
  rfl
theorem fits_n (n : Nat) (x : Int) (hn0 : 0 < n) (hn : n ≤ 40) (h : Fits n x) : spec_fits.f x (n : Int) = some true := by
 obtain ⟨k, rfl⟩ : ∃ k, n = k + 1 := ⟨n - 1, by omega⟩
 obtain ⟨h1, h2⟩ := h
 rw [show k + 1 - 1 = k by omega] at h1 h2
 obtain ⟨P, hP⟩ : ∃ P, 2 ^ k = P := ⟨_, rfl⟩
 have hPb : P ≤ 1152921504606846976 := by rw [← hP]; exact pow60 (by omega)
 have hPi : (2 : Int) ^ k = (P : Int) := by rw [← hP]; simp
 rw [hP] at h1 h2
 have e1 : wrap64 (((k + 1 : Nat) : Int) - 1) = (k : Int) := by unfold wrap64; omega
 have e2 : shl .i64 (-1) (k : Int) = -(P : Int) := by
  unfold shl
  rw [Int.toNat_natCast, Nat.min_eq_left (by show k ≤ 64; omega), hPi, IntKind.wrap_i64]; omega
 have e3 : shl .i64 1 (k : Int) = (P : Int) := by
  unfold shl
  rw [Int.toNat_natCast, Nat.min_eq_left (by show k ≤ 64; omega), hPi, IntKind.wrap_i64]; omega
 unfold spec_fits.f
 rw [e1, e2, e3, if_pos (by omega), if_pos (by omega), decide_eq_true (by omega)]
theorem fits_calln (n : Nat) (x : Int) (hn0 : 0 < n) (hn : n ≤ 40) (h : Fits n x) (w : World) : Calls Tryz.prog 56 #[.int .i64 x, .int .i64 n] w fun e w' => e = .returned (.bool true) ∧ ∃ n, w' = w.drewN n :=
 (spec_fits.calls x n true w (fits_n n x hn0 hn h)).mono fun e w' h => ⟨h.1, h.2.out⟩
theorem fixed_call (A : Option Addr) (n c : Nat) (t : List Int) (o : Nat) (w : World) (ht : ReadsInt w .i64 A n t) (hc : n ≤ c) (ho : o ≤ 4) (hol : o ≤ n) (hn : n ≤ 65536) (hb : ∀ i, -33554432 ≤ t.getD i 0 ∧ t.getD i 0 ≤ 33554432) :
  Calls Tryz.prog 94 #[.slice A n c, .int .i64 o] w fun e w' => e = .returned (.int .i64 (pred o t n)) ∧ ∃ q, w' = w.drewN q := by
 obtain rfl := ht.1
 exact (spec_fixedOf.calls A c t o _ w (Kd.C_of_reads (h1 := fun _ => rfl) (readsInt_of.1 ht)) hc (fixed_of t o ho hol hn hb)).mono fun e w' h => ⟨h.1, h.2.out⟩
theorem getD_bound {xs : List Int} {a b : Int} (h : ∀ x ∈ xs, a ≤ x ∧ x ≤ b) (ha : a ≤ 0) (hb : 0 ≤ b) (m i : Nat) : a ≤ (xs.take m).getD i 0 ∧ (xs.take m).getD i 0 ≤ b := by
 rcases Nat.lt_or_ge i (xs.take m).length with h1 | h1
 ·rw [List.getD_eq_getElem?_getD, List.getElem?_eq_getElem h1]
  exact h _ (List.mem_of_mem_take (List.getElem_mem h1))
 ·rw [List.getD_eq_getElem?_getD, List.getElem?_eq_none h1]; exact ⟨ha, hb⟩
theorem Fits.small24 {n : Nat} {x : Int} (h : Fits n x) (hn : n ≤ 25) : -16777216 ≤ x ∧ x ≤ 16777216 := by
 have h1 : 2 ^ (n - 1) ≤ 2 ^ 24 := Nat.pow_le_pow_right (by decide) (by omega)
 obtain ⟨h2, h3⟩ := h
 have e : (2 : Nat) ^ 24 = 16777216 := rfl
 omega
theorem touch_grown {w w1 : World} {row : Option Nat} (h : w.grownBy w1 row) : Touch row.toList w w1 :=
 ⟨h.os, h.tape, h.output, h.size, fun k hk hn => h.block k hk (fun e => hn (by rw [← e]; simp))⟩
theorem own_pin {w : World} {base size n : Nat} {e : TypeId} {v : Value} {xs : List Value} (h : w.ownsRow base e size v n xs) (hn : 0 < n) :
  ∃ g cap o, v = .slice (some ⟨g, 0, none⟩) n cap ∧ base ≤ g ∧ w.heap[g]? = some o ∧ ∀ w' : World, w'.heap[g]? = some o → w'.ownsRow base e size (.slice (some ⟨g, 0, none⟩) n cap) n xs := by
 obtain ⟨h1, ⟨_, h2⟩ | ⟨g, cap, cur, rfl, hb, hh, hn', hc, hs, ht⟩⟩ := h
 ·omega
 ·exact ⟨g, cap, _, rfl, hb, hh, fun w' h' => ⟨h1, .inr ⟨g, cap, cur, rfl, hb, h', hn', hc, hs, ht⟩⟩⟩
theorem own_cap {w : World} {base size n c : Nat} {e : TypeId} {A : Option Addr} {xs : List Value} (h : w.ownsRow base e size (.slice A n c) n xs) : n ≤ c := by
 rcases h.2 with ⟨h0, h1⟩ | ⟨g, cap, cur, hv, hb, _, hc, _⟩
 ·omega
 ·injection hv with _ _ h3; omega
set_option maxHeartbeats 16000000 in
set_option maxRecDepth 100000 in
theorem sub_const {w0 w : World} {g at_ : Nat} {l : List Int} (h : Rd w0 g l at_ w) (hb : ∀ i, l.getD i 0 = (byteAt l i : Int) ∧ byteAt l i < 256) (hl : l.length ≤ 140737488355328) (size bits : Nat) (hs0 : 0 < size) (hs : size ≤ 65536) (hbt0 : 0 < bits) (hbt : bits ≤ 25) (x : Int) (hx : Fits bits x) (hbits : BitsAt l at_ (bts 0 1 ++ (bts 0 6 ++ (bts 0 1 ++ bts (low x bits) bits)))) :
  Calls Tryz.prog 54 #[.pointer (some ⟨g, 0, none⟩), .int .i64 size, .int .i64 bits] w fun e w' => ∃ vx, e = .returned (.tuple #[vx, .int .i64 0]) ∧ w'.ownsRow w.heap.size 3 1 vx size (nums .i64 (List.replicate size x)) ∧
   Rd w0 g l (at_ + 8 + bits) w' ∧ Touch [g] w w' := by
 have HB := Lib.hid hb
 have hgw := h.lt
 have hg0 := h.ge
 have h1 := rd_lit h hb hl 1 0 (by decide) (by decide) hbits.left
 have hbits := hbits.right
 rw [bts_len] at hbits
 have HB2 := Lib.hid hbits
 have H1 := Lib.hid h1
 clear h1 h hb hbits
 go_enter Tryz.func54, Tryz.ntmps54
 go_wp2_with fail
 refine H1.out.mono ?_
 rintro e w1 ⟨rfl, hr1, t1⟩
 have h1 := rd_lit hr1 HB.out hl 6 (0) (by decide) (by decide) HB2.out.left
 have hbits := HB2.out.right
 rw [bts_len] at hbits
 have HB3 := Lib.hid hbits
 have H2 := Lib.hid h1
 have T1 := Lib.hid t1
 clear h1 hr1 t1 hbits H1 HB2
 go_wp2_with fail
 refine H2.out.mono ?_
 rintro e w2 ⟨rfl, hr2, t2⟩
 have h1 := rd_lit hr2 HB.out hl 1 0 (by decide) (by decide) HB3.out.left
 have hbits := HB3.out.right
 rw [bts_len] at hbits
 have HBR := Lib.hid hbits
 have H3 := Lib.hid h1
 have T2 := Lib.hid (T1.out.trans t2)
 clear h1 hr2 t2 hbits H2 HB3 T1
 go_wp2_with fail
 refine H3.out.mono ?_
 rintro e w3 ⟨rfl, hr3, t3⟩
 have q3 := hr3.short
 have X3 := Lib.hid (And.intro hr3 (T2.out.trans t3))
 clear hr3 t3 H3 T2
 have hb0 : (bits : Int) ≤ 0 ↔ False := ⟨fun h => by omega, False.elim⟩
 go_wp2_with fail
 obtain ⟨w4, hw4⟩ : ∃ w4, (w3.alloc (.cells #[] 3)).alloc (.cells #[] 3) = w4 := ⟨_, rfl⟩
 have hA : Below w3.heap.size w3 ((w3.alloc (.cells #[] 3)).alloc (.cells #[] 3)) := below_alloc (below_alloc (Below.refl _ _) _) _
 have hO := own_nil w.heap.size w3 X3.out.2.size
 have hO := own_touch hO ((Touch.refl [] (w3.alloc (.cells #[] 3))).alloc (.cells #[] 3)) (by simp)
 have hr4 := X3.out.1.below hA X3.out.1.lt (Nat.le_trans X3.out.1.ge (Nat.le_of_lt X3.out.1.lt))
 have t4 := (X3.out.2.alloc (.cells #[] 3)).alloc (.cells #[] 3)
 rw [hw4] at hA hO hr4 t4 ⊢
 obtain ⟨v11, hv11⟩ : ∃ v11, Value.slice (some ⟨w3.heap.size, 0, none⟩) 0 0 = v11 := ⟨_, rfl⟩
 rw [hv11] at hO ⊢
 have X4 := Lib.hid (And.intro hr4 (And.intro t4 hO))
 have hxs := hx.small (by omega)
 clear hw4 hA hO hr4 t4 hv11 X3 q3
 refine (rd_signed X4.out.1 HB.out hl hbt0 (by omega) hx.1 hx.2 HBR.out).mono ?_
 rintro e w5 ⟨rfl, hr5, t5⟩
 have hO5 := own_touch X4.out.2.2 t5 (fun k hk hm => by
  have h1 := own_ge X4.out.2.2 k hk
  simp at hm; omega)
 have X5 := Lib.hid (And.intro hr5 (And.intro (X4.out.2.1.trans t5) hO5))
 clear hr5 t5 hO5 X4
 go_wp2_with fail
 go_loopw [11, 73] (fun ov iv wr => ∃ j : Nat, j ≤ size ∧ iv = .int .i64 j ∧ wr.ownsRow w.heap.size 3 1 ov j (nums .i64 (List.replicate j x)) ∧ Rd w0 g l (at_ + 1 + 6 + 1 + bits) wr ∧ Touch [g] w wr) (fun _ iv _ => size - (intOf iv).toNat)
 case atStart => exact ⟨0, by omega, rfl, X5.out.2.2, X5.out.1, X5.out.2.1⟩
 case round =>
  obtain ⟨j, hj, rfl, hown, hrd, ht⟩ := hrel
  have X := Lib.hid (And.intro hown (And.intro hrd ht))
  have q6 := hrd.short
  clear hown hrd ht
  have hw0 := shl0 x hxs.1 hxs.2
  by_cases hlt : j < size
  ·go_wp2_with (with_reducible refine stop_dst (N := 80) rfl ?_)
   refine unstop ?_
   have e1 : (List.replicate j x).length = j := List.length_replicate
   refine print_append_num (w0 := wr) w.heap.size rfl (.tmp 75) (.tmp 79) 44 3 .i64 8 rfl Tryz.underlying44 infoInt (by decide) u11 (List.replicate j x) x rfl rfl ?aO ?aB ?aS ?aL ?_
   case aO => rw [e1]; exact X.out.1
   case aB => exact Below.refl _ _
   case aS => exact X.out.2.2.size
   case aL => rw [e1]; omega
   intro v1 w8 hO8 hB8 _ _
   rw [← List.replicate_succ', List.length_replicate] at hO8
   have Z := Lib.hid (And.intro hO8 (And.intro (X.out.2.1.below hB8 hgw (Nat.le_trans hg0 (Nat.le_of_lt hgw))) (X.out.2.2.then_below hB8)))
   clear hO8 hB8 q6
   go_wp2_with fail
   go_roundw
   case rel => exact ⟨j + 1, by omega, by go_num, Z.out.1, Z.out.2.1, Z.out.2.2⟩
   case measure => simp [intOf]; omega
  ·obtain rfl : j = size := by omega
   go_wp2_with fail
   go_ret2
   exact ⟨u11, rfl, X.out.1, by rw [show at_ + 8 + bits = at_ + 1 + 6 + 1 + bits by omega]; exact X.out.2.1, X.out.2.2⟩
set_option maxHeartbeats 16000000 in
set_option maxRecDepth 100000 in
theorem sub_verb {w0 w : World} {g at_ : Nat} {l : List Int} (h : Rd w0 g l at_ w) (hb : ∀ i, l.getD i 0 = (byteAt l i : Int) ∧ byteAt l i < 256) (hl : l.length ≤ 140737488355328) (size bits : Nat) (hs0 : 0 < size) (hs : size ≤ 65536) (hbt0 : 0 < bits) (hbt : bits ≤ 25) (xs : List Int) (hlen : xs.length = size) (hxs : ∀ x ∈ xs, Fits bits x) (hbits : BitsAt l at_ (bts 0 1 ++ (bts 1 6 ++ (bts 0 1 ++ (sampBits bits ((xs.take size).drop 0) ++ []))))) :
  Calls Tryz.prog 54 #[.pointer (some ⟨g, 0, none⟩), .int .i64 size, .int .i64 bits] w fun e w' => ∃ vx, e = .returned (.tuple #[vx, .int .i64 0]) ∧ w'.ownsRow w.heap.size 3 1 vx size (nums .i64 xs) ∧
   Rd w0 g l (at_ + 8 + bits * size) w' ∧ Touch [g] w w' := by
 have HF := Lib.hid hxs
 have HXS := Lib.hid hlen
 clear hxs hlen
 have HB := Lib.hid hb
 have hgw := h.lt
 have hg0 := h.ge
 have h1 := rd_lit h hb hl 1 0 (by decide) (by decide) hbits.left
 have hbits := hbits.right
 rw [bts_len] at hbits
 have HB2 := Lib.hid hbits
 have H1 := Lib.hid h1
 clear h1 h hb hbits
 go_enter Tryz.func54, Tryz.ntmps54
 go_wp2_with fail
 refine H1.out.mono ?_
 rintro e w1 ⟨rfl, hr1, t1⟩
 have h1 := rd_lit hr1 HB.out hl 6 (1) (by decide) (by decide) HB2.out.left
 have hbits := HB2.out.right
 rw [bts_len] at hbits
 have HB3 := Lib.hid hbits
 have H2 := Lib.hid h1
 have T1 := Lib.hid t1
 clear h1 hr1 t1 hbits H1 HB2
 go_wp2_with fail
 refine H2.out.mono ?_
 rintro e w2 ⟨rfl, hr2, t2⟩
 have h1 := rd_lit hr2 HB.out hl 1 0 (by decide) (by decide) HB3.out.left
 have hbits := HB3.out.right
 rw [bts_len] at hbits
 have HBR := Lib.hid hbits
 have H3 := Lib.hid h1
 have T2 := Lib.hid (T1.out.trans t2)
 clear h1 hr2 t2 hbits H2 HB3 T1
 go_wp2_with fail
 refine H3.out.mono ?_
 rintro e w3 ⟨rfl, hr3, t3⟩
 have q3 := hr3.short
 have X3 := Lib.hid (And.intro hr3 (T2.out.trans t3))
 clear hr3 t3 H3 T2
 have hb0 : (bits : Int) ≤ 0 ↔ False := ⟨fun h => by omega, False.elim⟩
 go_wp2_with fail
 obtain ⟨w4, hw4⟩ : ∃ w4, (w3.alloc (.cells #[] 3)).alloc (.cells #[] 3) = w4 := ⟨_, rfl⟩
 have hA : Below w3.heap.size w3 ((w3.alloc (.cells #[] 3)).alloc (.cells #[] 3)) := below_alloc (below_alloc (Below.refl _ _) _) _
 have hO := own_nil w.heap.size w3 X3.out.2.size
 have hO := own_touch hO ((Touch.refl [] (w3.alloc (.cells #[] 3))).alloc (.cells #[] 3)) (by simp)
 have hr4 := X3.out.1.below hA X3.out.1.lt (Nat.le_trans X3.out.1.ge (Nat.le_of_lt X3.out.1.lt))
 have t4 := (X3.out.2.alloc (.cells #[] 3)).alloc (.cells #[] 3)
 rw [hw4] at hA hO hr4 t4 ⊢
 obtain ⟨v11, hv11⟩ : ∃ v11, Value.slice (some ⟨w3.heap.size, 0, none⟩) 0 0 = v11 := ⟨_, rfl⟩
 rw [hv11] at hO ⊢
 have X4 := Lib.hid (And.intro hr4 (And.intro t4 hO))
 clear hw4 hA hO hr4 t4 hv11 X3 q3
 go_loopw [11, 91] (fun ov iv wr => ∃ j at2 : Nat, j ≤ size ∧ iv = .int .i64 j ∧ wr.ownsRow w.heap.size 3 1 ov j (nums .i64 (xs.take j)) ∧ Rd w0 g l at2 wr ∧ Touch [g] w wr ∧ BitsAt l at2 (sampBits bits ((xs.take size).drop j) ++ []) ∧ at2 = at_ + 1 + 6 + 1 + bits * j) (fun _ iv _ => size - (intOf iv).toNat)
 case atStart => exact ⟨0, at_ + 1 + 6 + 1, by omega, rfl, X4.out.2.2, X4.out.1, X4.out.2.1, HBR.out, by omega⟩
 case round =>
  obtain ⟨j, at2, hj, rfl, hown, hrd, ht, hbs, hat⟩ := hrel
  have q6 := hrd.short
  have X := Lib.hid (And.intro hown (And.intro hrd (And.intro ht (And.intro hbs hat))))
  clear hown hrd ht hbs hat
  by_cases hlt : j < size
  ·have hjr : j < xs.length := by rw [HXS.out]; omega
   have hjt : j < (xs.take size).length := by rw [List.length_take, HXS.out]; omega
   obtain ⟨x, hxj⟩ : ∃ x, xs[j] = x := ⟨_, rfl⟩
   have hx := HF.out _ (List.getElem_mem hjr)
   rw [hxj] at hx
   have hd : (xs.take size).drop j = x :: (xs.take size).drop (j + 1) := by
    rw [← hxj]
    have h1 := List.drop_eq_getElem_cons hjt
    rw [List.getElem_take] at h1; exact h1
   have ht1 : xs.take (j + 1) = xs.take j ++ [x] := by rw [← hxj]; exact List.take_succ_eq_append_getElem hjr
   have hbs := X.out.2.2.2.1
   rw [hd, sampBits, List.append_assoc] at hbs
   have h1 := rd_signed X.out.2.1 HB.out hl hbt0 (by omega) hx.1 hx.2 hbs.left
   have hbs2 := hbs.right
   rw [bts_len] at hbs2
   have H1 := Lib.hid h1
   have HD := Lib.hid (And.intro ht1 hbs2)
   have hxs := hx.small (by omega)
   have hw0 := shl0 x hxs.1 hxs.2
   clear h1 hbs hbs2 hd ht1 hx hxj q6
   go_wp2_with fail
   refine H1.out.mono ?_
   rintro e w5 ⟨rfl, hr5, t5⟩
   have hO5 := own_touch X.out.1 t5 (fun k hk hm => by
    have h1 := own_ge X.out.1 k hk
    simp at hm; omega)
   have X5 := Lib.hid (And.intro hr5 (And.intro (X.out.2.2.1.trans t5) hO5))
   clear hr5 t5 hO5 H1
   have e1 : (xs.take j).length = j := by rw [List.length_take, HXS.out]; omega
   go_wp2_with (with_reducible refine stop_dst (N := 100) rfl ?_)
   refine unstop ?_
   refine print_append_num (w0 := w5) w.heap.size rfl (.tmp 93) (.tmp 99) 44 3 .i64 8 rfl Tryz.underlying44 infoInt (by decide) u11 (xs.take j) x rfl rfl ?aO ?aB ?aS ?aL ?_
   case aO => rw [e1]; exact X5.out.2.2
   case aB => exact Below.refl _ _
   case aS => exact X5.out.2.1.size
   case aL => rw [e1]; omega
   intro v1 w8 hO8 hB8 _ _
   have e2 : (xs.take j ++ [x]).length = j + 1 := by rw [List.length_append, e1, List.length_singleton]
   rw [e2, ← HD.out.1] at hO8
   have Z := Lib.hid (And.intro hO8 (And.intro (X5.out.1.below hB8 hgw (Nat.le_trans hg0 (Nat.le_of_lt hgw))) (X5.out.2.1.then_below hB8)))
   clear hO8 hB8 X5
   have hmul : bits * (j + 1) = bits * j + bits := Nat.mul_succ bits j
   go_wp2_with fail
   go_roundw
   case rel => exact ⟨j + 1, at2 + bits, by omega, by go_num, Z.out.1, Z.out.2.1, Z.out.2.2, HD.out.2, by have := X.out.2.2.2.2; omega⟩
   case measure => simp [intOf]; omega
  ·obtain rfl : j = size := by omega
   go_wp2_with fail
   go_ret2
   have e1 : xs.take j = xs := List.take_of_length_le (by rw [HXS.out]; exact Nat.le_refl _)
   have h1 := X.out.1
   rw [e1] at h1
   have h2 := X.out.2.2.2.2
   exact ⟨u11, rfl, h1, by rw [show at_ + 8 + bits * j = at2 by omega]; exact X.out.2.1, X.out.2.2.1⟩
set_option maxHeartbeats 16000000 in
set_option maxRecDepth 100000 in
theorem sub_fixed {w0 w : World} {g at_ : Nat} {l : List Int} (h : Rd w0 g l at_ w) (hb : ∀ i, l.getD i 0 = (byteAt l i : Int) ∧ byteAt l i < 256) (hl : l.length ≤ 140737488355328) (size bits : Nat) (hs0 : 0 < size) (hs : size ≤ 65536) (hbt0 : 0 < bits) (hbt : bits ≤ 25) (o : Nat) (ho : o ≤ 4) (hos : o < size) (xs : List Int) (hlen : xs.length = size) (hxs : ∀ x ∈ xs, Fits bits x) (rs : List Int) (hrs : rs.length = size - o) (hrb : ∀ r ∈ rs, -1073741824 ≤ r ∧ r ≤ 1073741824) (hrp : ∀ k, k < size - o → rs.getD k 0 + pred o xs (o + k) = xs.getD (o + k) 0)
  (hbits : BitsAt l at_ (bts 0 1 ++ (bts (8 + o) 6 ++ (bts 0 1 ++ (sampBits bits ((xs.take o).drop 0) ++ (bts 0 2 ++ (bts 0 4 ++ (bts 12 4 ++ riceBits rs)))))))) :
  Calls Tryz.prog 54 #[.pointer (some ⟨g, 0, none⟩), .int .i64 size, .int .i64 bits] w fun e w' => ∃ vx, e = .returned (.tuple #[vx, .int .i64 0]) ∧ w'.ownsRow w.heap.size 3 1 vx size (nums .i64 xs) ∧
   Rd w0 g l (at_ + 8 + bits * o + 10 + (riceBits rs).length) w' ∧ Touch [g] w w' := by
 have HF := Lib.hid hxs
 have HXS := Lib.hid hlen
 have HRS := Lib.hid (And.intro hrs (And.intro hrb hrp))
 clear hxs hlen hrs hrb hrp
 obtain ⟨kd, hkd⟩ : ∃ kd, 8 + o = kd := ⟨_, rfl⟩
 rw [hkd] at hbits
 have d1 : decide ((1 : Int) < (kd : Int)) = true := by simp; omega
 have d2 : decide ((kd : Int) < 8) = false := by simp; omega
 have d3 : decide ((12 : Int) < (kd : Int)) = false := by simp; omega
 have d4 : ((kd : Int) == 0) = false := by simp; omega
 have d5 : ((kd : Int) == 1) = false := by simp; omega
 have d6 : decide ((kd : Int) < 32) = true := by simp; omega
 have d7 : (kd : Int) - 8 = (o : Int) := by omega
 have d8 : decide ((32 : Int) ≤ (kd : Int)) = false := by simp; omega
 have d9 : decide ((size : Int) ≤ (o : Int)) = false := by simp; omega
 have d9n : decide (size ≤ o) = false := by simp; omega
 clear hkd
 have HB := Lib.hid hb
 have hgw := h.lt
 have hg0 := h.ge
 have h1 := rd_lit h hb hl 1 0 (by decide) (by decide) hbits.left
 have hbits := hbits.right
 rw [bts_len] at hbits
 have HB2 := Lib.hid hbits
 have H1 := Lib.hid h1
 clear h1 h hb hbits
 go_enter Tryz.func54, Tryz.ntmps54
 go_wp2_with fail
 refine H1.out.mono ?_
 rintro e w1 ⟨rfl, hr1, t1⟩
 have h1 := rd_lit hr1 HB.out hl 6 (kd) (by decide) (by omega) HB2.out.left
 have hbits := HB2.out.right
 rw [bts_len] at hbits
 have HB3 := Lib.hid hbits
 have H2 := Lib.hid h1
 have T1 := Lib.hid t1
 clear h1 hr1 t1 hbits H1 HB2
 go_wp2_with fail
 refine H2.out.mono ?_
 rintro e w2 ⟨rfl, hr2, t2⟩
 have h1 := rd_lit hr2 HB.out hl 1 0 (by decide) (by decide) HB3.out.left
 have hbits := HB3.out.right
 rw [bts_len] at hbits
 have HBR := Lib.hid hbits
 have H3 := Lib.hid h1
 have T2 := Lib.hid (T1.out.trans t2)
 clear h1 hr2 t2 hbits H2 HB3 T1
 go_wp2_with fail
 refine H3.out.mono ?_
 rintro e w3 ⟨rfl, hr3, t3⟩
 have q3 := hr3.short
 have X3 := Lib.hid (And.intro hr3 (T2.out.trans t3))
 clear hr3 t3 H3 T2
 have hb0 : (bits : Int) ≤ 0 ↔ False := ⟨fun h => by omega, False.elim⟩
 go_wp2_with fail
 obtain ⟨w4, hw4⟩ : ∃ w4, (w3.alloc (.cells #[] 3)).alloc (.cells #[] 3) = w4 := ⟨_, rfl⟩
 have hA : Below w3.heap.size w3 ((w3.alloc (.cells #[] 3)).alloc (.cells #[] 3)) := below_alloc (below_alloc (Below.refl _ _) _) _
 have hO := own_nil w.heap.size w3 X3.out.2.size
 have hO := own_touch hO ((Touch.refl [] (w3.alloc (.cells #[] 3))).alloc (.cells #[] 3)) (by simp)
 have hr4 := X3.out.1.below hA X3.out.1.lt (Nat.le_trans X3.out.1.ge (Nat.le_of_lt X3.out.1.lt))
 have t4 := (X3.out.2.alloc (.cells #[] 3)).alloc (.cells #[] 3)
 rw [hw4] at hA hO hr4 t4 ⊢
 obtain ⟨v11, hv11⟩ : ∃ v11, Value.slice (some ⟨w3.heap.size, 0, none⟩) 0 0 = v11 := ⟨_, rfl⟩
 rw [hv11] at hO ⊢
 have X4 := Lib.hid (And.intro hr4 (And.intro t4 hO))
 clear hw4 hA hO hr4 t4 hv11 X3 q3
 go_loopw [11, 116] (fun ov iv wr => ∃ j at2 : Nat, j ≤ o ∧ iv = .int .i64 j ∧ wr.ownsRow w.heap.size 3 1 ov j (nums .i64 (xs.take j)) ∧ Rd w0 g l at2 wr ∧ Touch [g] w wr ∧ BitsAt l at2 (sampBits bits ((xs.take o).drop j) ++ (bts 0 2 ++ (bts 0 4 ++ (bts 12 4 ++ riceBits rs)))) ∧ at2 = at_ + 1 + 6 + 1 + bits * j) (fun _ iv _ => o - (intOf iv).toNat)
 case atStart => exact ⟨0, at_ + 1 + 6 + 1, by omega, rfl, X4.out.2.2, X4.out.1, X4.out.2.1, HBR.out, by omega⟩
 case round =>
  obtain ⟨j, at2, hj, rfl, hown, hrd, ht, hbs, hat⟩ := hrel
  have q6 := hrd.short
  have X := Lib.hid (And.intro hown (And.intro hrd (And.intro ht (And.intro hbs hat))))
  clear hown hrd ht hbs hat
  by_cases hlt : j < o
  ·have hjr : j < xs.length := by rw [HXS.out]; omega
   have hjt : j < (xs.take o).length := by rw [List.length_take, HXS.out]; omega
   obtain ⟨x, hxj⟩ : ∃ x, xs[j] = x := ⟨_, rfl⟩
   have hx := HF.out _ (List.getElem_mem hjr)
   rw [hxj] at hx
   have hd : (xs.take o).drop j = x :: (xs.take o).drop (j + 1) := by
    rw [← hxj]
    have h1 := List.drop_eq_getElem_cons hjt
    rw [List.getElem_take] at h1; exact h1
   have ht1 : xs.take (j + 1) = xs.take j ++ [x] := by rw [← hxj]; exact List.take_succ_eq_append_getElem hjr
   have hbs := X.out.2.2.2.1
   rw [hd, sampBits, List.append_assoc] at hbs
   have h1 := rd_signed X.out.2.1 HB.out hl hbt0 (by omega) hx.1 hx.2 hbs.left
   have hbs2 := hbs.right
   rw [bts_len] at hbs2
   have H1 := Lib.hid h1
   have HD := Lib.hid (And.intro ht1 hbs2)
   have hxs := hx.small (by omega)
   have hw0 := shl0 x hxs.1 hxs.2
   clear h1 hbs hbs2 hd ht1 hx hxj q6
   go_wp2_with fail
   refine H1.out.mono ?_
   rintro e w5 ⟨rfl, hr5, t5⟩
   have hO5 := own_touch X.out.1 t5 (fun k hk hm => by
    have h1 := own_ge X.out.1 k hk
    simp at hm; omega)
   have X5 := Lib.hid (And.intro hr5 (And.intro (X.out.2.2.1.trans t5) hO5))
   clear hr5 t5 hO5 H1
   have e1 : (xs.take j).length = j := by rw [List.length_take, HXS.out]; omega
   go_wp2_with (with_reducible refine stop_dst (N := 123) rfl ?_)
   refine unstop ?_
   refine print_append_num (w0 := w5) w.heap.size rfl (.tmp 118) (.tmp 122) 44 3 .i64 8 rfl Tryz.underlying44 infoInt (by decide) u11 (xs.take j) x rfl rfl ?aO ?aB ?aS ?aL ?_
   case aO => rw [e1]; exact X5.out.2.2
   case aB => exact Below.refl _ _
   case aS => exact X5.out.2.1.size
   case aL => rw [e1]; omega
   intro v1 w8 hO8 hB8 _ _
   have e2 : (xs.take j ++ [x]).length = j + 1 := by rw [List.length_append, e1, List.length_singleton]
   rw [e2, ← HD.out.1] at hO8
   have Z := Lib.hid (And.intro hO8 (And.intro (X5.out.1.below hB8 hgw (Nat.le_trans hg0 (Nat.le_of_lt hgw))) (X5.out.2.1.then_below hB8)))
   clear hO8 hB8 X5
   have hmul : bits * (j + 1) = bits * j + bits := Nat.mul_succ bits j
   go_wp2_with fail
   go_roundw
   case rel => exact ⟨j + 1, at2 + bits, by omega, by go_num, Z.out.1, Z.out.2.1, Z.out.2.2, HD.out.2, by have := X.out.2.2.2.2; omega⟩
   case measure => simp [intOf]; omega
  ·obtain rfl : j = o := by omega
   have q6 := X.out.2.1.short
   have hat2 := X.out.2.2.2.2
   have hbs := X.out.2.2.2.1
   have ed : (xs.take j).drop j = [] := List.drop_eq_nil_of_le (by rw [List.length_take]; omega)
   rw [ed] at hbs
   obtain ⟨n, hn⟩ : ∃ n, size - j = n := ⟨_, rfl⟩
   have hrn : rs.length = n := by rw [← hn]; exact HRS.out.1
   have hcall := residual_ok X.out.2.1 HB.out hl size j n (by omega) (by omega) hs rs hrn HRS.out.2.1 hbs
   have HCALL := Lib.hid hcall
   have HRN := Lib.hid hrn
   have HN := Lib.hid hn
   clear hcall hbs ed hrn hn
   go_wp2_with fail
   refine HCALL.out.mono ?_
   rintro e w6 ⟨vr, rfl, hO6, hr6, t6⟩
   have hn0 : 0 < n := by have := HN.out; omega
   obtain ⟨gr, capr, orr, rfl, hgr, hgo, hpin⟩ := own_pin hO6 hn0
   have hO7 := own_touch X.out.1 t6 (fun k hk hm => by
    have h1 := own_ge X.out.1 k hk
    simp at hm; omega)
   obtain ⟨v20, hv20⟩ : ∃ v20, u11 = v20 := ⟨_, rfl⟩
   have hdis : ∀ q, u11.ownBlock = some q → q ≠ gr := fun q hq => by
    have h1 : q < wr.heap.size := by
     rcases X.out.1.2 with ⟨h2, _⟩ | ⟨g', cap', cur', h2, _, h3, _⟩
     ·rw [h2] at hq; cases hq
     ·rw [h2] at hq
      obtain rfl : g' = q := by simpa [Value.ownBlock] using hq
      exact (Array.getElem?_eq_some_iff.1 h3).1
    omega
   have hgrw : gr < w6.heap.size := (Array.getElem?_eq_some_iff.1 hgo).1
   have X6 := Lib.hid (And.intro hr6 (And.intro (X.out.2.2.1.trans t6) (And.intro hO7 (And.intro hgo hdis))))
   have HPIN := Lib.hid hpin
   have HGR := Lib.hid (show w.heap.size ≤ gr from Nat.le_trans X.out.2.2.1.size hgr)
   have hn65 : n ≤ 65536 := by have := HN.out; omega
   clear hO6 hr6 t6 hO7 hgo hpin hdis hv20 HCALL
   go_wp2_with fail
   go_loopw [11, 164] (fun ov iv wx => ∃ k : Nat, k ≤ n ∧ iv = .int .i64 k ∧ wx.ownsRow w.heap.size 3 1 ov (j + k) (nums .i64 (xs.take (j + k))) ∧ Rd w0 g l (at2 + 10 + (riceBits rs).length) wx ∧ Touch [g] w wx ∧ wx.heap[gr]? = some orr ∧ (∀ q, ov.ownBlock = some q → q ≠ gr)) (fun _ iv _ => n - (intOf iv).toNat)
   case atStart => exact ⟨0, by omega, rfl, X6.out.2.2.1, X6.out.1, X6.out.2.1, X6.out.2.2.2.1, X6.out.2.2.2.2⟩
   case round =>
    obtain ⟨k, hk, rfl, hown, hrd, ht, hgo, hdis⟩ := hrel
    have Y := Lib.hid (And.intro hown (And.intro hrd (And.intro ht (And.intro hgo hdis))))
    clear hown hrd ht hgo hdis
    by_cases hkn : k < n
    ·obtain ⟨A, c, rfl, hR⟩ := own_reads Y.out.1
     have hcap := own_cap Y.out.1
     obtain ⟨m, hm⟩ : ∃ m, j + k = m := ⟨_, rfl⟩
     have hmn : m < size := by have := HN.out; omega
     have hmx : m < xs.length := by rw [HXS.out]; exact hmn
     obtain ⟨r, hr⟩ : ∃ r, rs.getD k 0 = r := ⟨_, rfl⟩
     obtain ⟨p, hp⟩ : ∃ p, pred j xs m = p := ⟨_, rfl⟩
     obtain ⟨x, hx⟩ : ∃ x, xs.getD m 0 = x := ⟨_, rfl⟩
     have hxm : xs[m] = x := by rw [← hx, List.getD_eq_getElem?_getD, List.getElem?_eq_getElem hmx]; rfl
     have hrpx : r + p = x := by
      have h1 := HRS.out.2.2 k (by have := HN.out; omega)
      rw [hm, hr, hp, hx] at h1; exact h1
     have hxf := HF.out _ (List.getElem_mem hmx)
     rw [hxm] at hxf
     have hxb := hxf.small24 hbt
     have hrow := HPIN.out wr Y.out.2.2.2.1
     have hcell : wr.cell? ⟨gr, k, none⟩ = some (.int .i64 r) := by
      have hkr : k < rs.length := by rw [HRN.out]; exact hkn
      rw [hrow.cellAt k (by omega)]
      rw [List.getD_eq_getElem?_getD, List.getElem?_eq_getElem hkr] at hr
      simp [nums, hkr] at hr ⊢; exact hr
     have hfc := fixed_call A (j + k) c (xs.take (j + k)) j wr hR hcap ho (by omega) (by omega) (fun i => getD_bound (fun y hy => by have := (HF.out y hy).small24 hbt; omega) (by decide) (by decide) _ i)
     rw [pred_take j xs (j + k) (by omega), hm, hp] at hfc
     have ht1 : xs.take (m + 1) = xs.take m ++ [x] := by rw [← hxm]; exact List.take_succ_eq_append_getElem hmx
     have hrb := HRS.out.2.1 r (by
      have hkr : k < rs.length := by rw [HRN.out]; exact hkn
      rw [← hr, List.getD_eq_getElem?_getD, List.getElem?_eq_getElem hkr]; exact List.getElem_mem hkr)
     have HFC := Lib.hid hfc
     have HT1 := Lib.hid ht1
     have HXF := Lib.hid hxf
     have Y2 := Y
     rw [hm] at Y2
     have HM := Lib.hid hm
     rw [hm] at hcap ⊢
     clear hfc ht1 hxf hrow hR Y hx hxm hp hr hm
     have hw0 := shl0 x (by omega) (by omega)
     go_wp2_with fail
     refine HFC.out.mono ?_
     rintro e w7 ⟨rfl, q7, rfl⟩
     go_wp2_with fail
     refine (fits_calln bits x hbt0 (by omega) HXF.out _).mono ?_
     rintro e w8 ⟨rfl, q8, rfl⟩
     obtain ⟨w8, hw8⟩ : ∃ w8, (wr.drewN q7).drewN q8 = w8 := ⟨_, rfl⟩
     have hr8 := (Y2.out.2.1.drewN q7).drewN q8
     have t8 := (Y2.out.2.2.1.drewN q7).drewN q8
     have hO8 : ((wr.drewN q7).drewN q8).ownsRow w.heap.size 3 1 (.slice A m c) m (nums .i64 (xs.take m)) := Y2.out.1
     have hg8 : ((wr.drewN q7).drewN q8).heap[gr]? = some orr := Y2.out.2.2.2.1
     rw [hw8] at hr8 t8 hO8 hg8 ⊢
     have X8 := Lib.hid (And.intro hr8 (And.intro t8 (And.intro hO8 hg8)))
     have HDIS := Lib.hid Y2.out.2.2.2.2
     clear hr8 t8 hO8 hg8 hw8 HFC Y2 hcell
     have e1 : (xs.take m).length = m := by rw [List.length_take, HXS.out]; omega
     go_wp2_with (with_reducible refine stop_dst (N := 188) rfl ?_)
     refine unstop ?_
     refine print_append_num (w0 := w8) w.heap.size rfl (.tmp 185) (.tmp 187) 44 3 .i64 8 rfl Tryz.underlying44 infoInt (by decide) (.slice A m c) (xs.take m) x rfl rfl ?aO ?aB ?aS ?aL ?_
     case aO => rw [e1]; exact X8.out.2.2.1
     case aB => exact Below.refl _ _
     case aS => exact X8.out.2.1.size
     case aL => rw [e1]; omega
     intro v1 w9 hO9 hB9 hgr9 hat9
     have e2 : (xs.take m ++ [x]).length = m + 1 := by rw [List.length_append, e1, List.length_singleton]
     rw [e2, ← HT1.out] at hO9
     have hgrlt : gr < w8.heap.size := (Array.getElem?_eq_some_iff.1 X8.out.2.2.2).1
     have hg9 : w9.heap[gr]? = some orr := (touch_grown hgr9).heap X8.out.2.2.2 (fun hm => by
      obtain ⟨q, hq, e⟩ : ∃ q, (Value.slice A m c).ownBlock = some q ∧ gr = q := by
       cases hob : (Value.slice A m c).ownBlock with
       | none =>
        have hm2 : gr ∈ (Value.slice A m c).ownBlock.toList := hm
        rw [hob] at hm2; simp at hm2
       | some q =>
        have hm2 : gr ∈ (Value.slice A m c).ownBlock.toList := hm
        rw [hob] at hm2; exact ⟨q, rfl, by simpa using hm2⟩
      exact HDIS.out q hq e.symm)
     have hd9 : ∀ q, v1.ownBlock = some q → q ≠ gr := fun q hq e => by
      rcases hat9 with h1 | ⟨b, h1, h2⟩
      ·exact HDIS.out q (by rw [← hq, h1]) e
      ·rw [h1] at hq
       have h3 : b = q := Option.some.inj hq
       have h4 : w8.heap.size ≤ b := h2
       omega
     have Z := Lib.hid (And.intro hO9 (And.intro (X8.out.1.below hB9 hgw (Nat.le_trans hg0 (Nat.le_of_lt hgw))) (And.intro (X8.out.2.1.then_below hB9) (And.intro hg9 hd9))))
     clear hO9 hB9 hgr9 hat9 hg9 hd9 X8
     have hm1 : j + (k + 1) = m + 1 := by have := HM.out; omega
     go_wp2_with fail
     go_roundw
     case rel => exact ⟨k + 1, by omega, by go_num, by rw [hm1]; exact Z.out.1, Z.out.2.1, Z.out.2.2.1, Z.out.2.2.2.1, Z.out.2.2.2.2⟩
     case measure => simp [intOf]; omega
    ·obtain rfl : k = n := by omega
     have hsz : j + k = size := by have := HN.out; omega
     have hrow := Y.out.1
     rw [hsz, List.take_of_length_le (by rw [HXS.out]; exact Nat.le_refl _)] at hrow
     obtain ⟨gs, caps, os, rfl, hgs, hgso, hpins⟩ := own_pin hrow hs0
     have Y2 := Lib.hid (And.intro hrow (And.intro Y.out.2.1 Y.out.2.2.1))
     have hbn : at2 + 10 + (riceBits rs).length = at_ + 8 + bits * j + 10 + (riceBits rs).length := by omega
     clear hrow hgso hpins Y
     go_wp2_with fail
     go_loopw [192] (fun iv wx => ∃ i : Nat, i ≤ size ∧ iv = .int .i64 i ∧ wx.ownsRow w.heap.size 3 1 (.slice (some ⟨gs, 0, none⟩) size caps) size (nums .i64 xs) ∧ Rd w0 g l (at2 + 10 + (riceBits rs).length) wx ∧ Touch [g] w wx) (fun iv _ => size - (intOf iv).toNat)
     case atStart => exact ⟨0, by omega, rfl, Y2.out.1, Y2.out.2.1, Y2.out.2.2⟩
     case round =>
      obtain ⟨i, hi, rfl, hown, hrd, ht⟩ := hrel
      have Z := Lib.hid (And.intro hown (And.intro hrd ht))
      clear hown hrd ht
      by_cases his : i < size
      ·have hix : i < xs.length := by rw [HXS.out]; exact his
       obtain ⟨x, hx⟩ : ∃ x, xs[i] = x := ⟨_, rfl⟩
       have hxb := (HF.out _ (List.getElem_mem hix)).small24 hbt
       rw [hx] at hxb
       have hcell : wr.cell? ⟨gs, i, none⟩ = some (.int .i64 x) := by
        rw [Z.out.1.cellAt i (by omega)]
        simp [nums, hix, hx]
       have hfz : wr.frozen? ⟨gs, i, none⟩ = false := Z.out.1.frozenAt i
       have hw0 := shl0 x (by omega) (by omega)
       have hst := (own_store Z.out.1 (i : Int) x).1
       rw [Int.toNat_natCast] at hst
       have hset : xs.set i x = xs := by rw [← hx]; exact List.set_getElem_self hix
       rw [hset] at hst
       have hgsg : gs ≠ g := by omega
       have hr9 : Rd w0 g l (at2 + 10 + (riceBits rs).length) (wr.setCell ⟨gs, i, none⟩ (.int .i64 x)) :=
        Z.out.2.1.below ((Below.refl w.heap.size wr).setCell (p := ⟨gs, i, none⟩) hgs _) hgw (Nat.le_trans hg0 (Nat.le_of_lt hgw))
       have t9 := Z.out.2.2.then_below ((Below.refl w.heap.size wr).setCell (p := ⟨gs, i, none⟩) hgs (.int .i64 x))
       have X9 := Lib.hid (And.intro hst (And.intro hr9 t9))
       clear hst hset hr9 t9 hx
       go_wp2_with fail
       go_roundw
       case rel => exact ⟨i + 1, by omega, by go_num, X9.out.1, X9.out.2.1, X9.out.2.2⟩
       case measure => simp [intOf]; omega
      ·go_wp2_with fail
       go_ret2
       refine ⟨_, rfl, Z.out.1, ?_, Z.out.2.2⟩
       have h9 := Z.out.2.1
       rw [hbn] at h9; exact h9
end Go.Proofs.YtmcllndnjdemaaaGreatDoor.Walk
namespace Go.Proofs.YtmcllndnjdemaaaGreatDoor.Walk
set_option linter.unusedVariables false
set_option linter.unusedSimpArgs false
open Go Go.RowKit Go.Proofs.YtmcllndnjdemaaaGreatDoorW.PrintWords Go.Proofs.YtmcllndnjdemaaaGreatDoorW.PrintLast Go.Proofs.YtmcllndnjdemaaaGreatDoorW.PrintMore Go.Proofs.YtmcllndnjdemaaaGreatDoor.Num Go.Proofs.YtmcllndnjdemaaaGreatDoor.PFnEncode
def rests (o : Nat) (xs : List Int) : List Int := (List.range (xs.length - o)).map fun k => xs.getD (o + k) 0 - pred o xs (o + k)
def subBits (bits K o : Nat) (xs : List Int) : List Nat :=
 bts 0 1 ++ (bts (if K = 0 then 0 else if K = 1 then 1 else 8 + o) 6 ++ (bts 0 1 ++ (if K = 0 then bts (low (xs.getD 0 0) bits) bits else if K = 1 then sampBits bits xs else
  sampBits bits (xs.take o) ++ (bts 0 2 ++ (bts 0 4 ++ (bts 12 4 ++ riceBits (rests o xs)))))))
structure SubOk (bits size K o : Nat) (xs : List Int) : Prop where
 b0 : 0 < bits
 b1 : bits ≤ 25
 s0 : 0 < size
 s1 : size ≤ 65536
 len : xs.length = size
 fits : ∀ x ∈ xs, Fits bits x
 same : K = 0 → ∀ x ∈ xs, x = xs.getD 0 0
 ord : K = 2 → o ≤ 4 ∧ o < size
 kind : K ≤ 2
theorem rests_len (o : Nat) (xs : List Int) : (rests o xs).length = xs.length - o := by unfold rests; simp
theorem rests_get (o : Nat) (xs : List Int) (k : Nat) (hk : k < xs.length - o) : (rests o xs).getD k 0 = xs.getD (o + k) 0 - pred o xs (o + k) := by
 unfold rests
 rw [List.getD_eq_getElem?_getD, List.getElem?_map, List.getElem?_range hk]; rfl
theorem pred_bound (o : Nat) (xs : List Int) (i : Nat) (h : ∀ m, -16777216 ≤ xs.getD m 0 ∧ xs.getD m 0 ≤ 16777216) : -251658240 ≤ pred o xs i ∧ pred o xs i ≤ 251658240 := by
 have h1 := h (i - 1)
 have h2 := h (i - 2)
 have h3 := h (i - 3)
 have h4 := h (i - 4)
 unfold pred
 split <;> omega
theorem SubOk.getD {bits size K o : Nat} {xs : List Int} (h : SubOk bits size K o xs) (m : Nat) : -16777216 ≤ xs.getD m 0 ∧ xs.getD m 0 ≤ 16777216 := by
 have h1 := getD_bound (fun x hx => (h.fits x hx).small24 h.b1) (by decide) (by decide) xs.length m
 rw [List.take_length] at h1; exact h1
theorem rests_bound {bits size K o : Nat} {xs : List Int} (h : SubOk bits size K o xs) : ∀ r ∈ rests o xs, -1073741824 ≤ r ∧ r ≤ 1073741824 := by
 intro r hr
 unfold rests at hr
 obtain ⟨k, _, rfl⟩ := List.mem_map.1 hr
 have h1 := h.getD (o + k)
 have h2 := pred_bound o xs (o + k) h.getD
 omega
theorem sub_read {w0 w : World} {g at_ : Nat} {l : List Int} (h : Rd w0 g l at_ w) (hb : ∀ i, l.getD i 0 = (byteAt l i : Int) ∧ byteAt l i < 256) (hl : l.length ≤ 140737488355328) {bits size K o : Nat} {xs : List Int} (ok : SubOk bits size K o xs) (hbits : BitsAt l at_ (subBits bits K o xs)) :
  Calls Tryz.prog 54 #[.pointer (some ⟨g, 0, none⟩), .int .i64 size, .int .i64 bits] w fun e w' => ∃ vx, e = .returned (.tuple #[vx, .int .i64 0]) ∧ w'.ownsRow w.heap.size 3 1 vx size (nums .i64 xs) ∧
   Rd w0 g l (at_ + (subBits bits K o xs).length) w' ∧ Touch [g] w w' := by
 obtain ⟨b0, b1, s0, s1, hlen, hf, hsame, hord, hK⟩ := id ok
 rcases (by omega : K = 0 ∨ K = 1 ∨ K = 2) with rfl | rfl | rfl
 ·have hx : Fits bits (xs.getD 0 0) := by
   rw [List.getD_eq_getElem?_getD, List.getElem?_eq_getElem (by omega)]; exact hf _ (List.getElem_mem (by omega))
  have hrep : List.replicate size (xs.getD 0 0) = xs := (List.eq_replicate_iff.2 ⟨hlen, hsame rfl⟩).symm
  have hlen2 : (subBits bits 0 o xs).length = 8 + bits := by
   unfold subBits; simp only [List.length_append, bts_len, if_pos]; omega
  have hc := sub_const h hb hl size bits s0 s1 b0 b1 (xs.getD 0 0) hx hbits
  rw [hrep] at hc
  rw [hlen2, ← Nat.add_assoc]; exact hc
 ·have ht : (xs.take size).drop 0 = xs := by rw [List.drop_zero, ← hlen, List.take_length]
  have hlen2 : (subBits bits 1 o xs).length = 8 + bits * size := by
   unfold subBits; rw [if_neg (by decide), if_pos rfl, if_neg (by decide), if_pos rfl]; simp only [List.length_append, bts_len, sampBits_len, hlen]; omega
  have hc := sub_verb h hb hl size bits s0 s1 b0 b1 xs hlen hf (by rw [ht, List.append_nil]; exact hbits)
  rw [hlen2, ← Nat.add_assoc]; exact hc
 ·obtain ⟨ho, hos⟩ := hord rfl
  have hlen2 : (subBits bits 2 o xs).length = 8 + bits * o + 10 + (riceBits (rests o xs)).length := by
   unfold subBits
   rw [if_neg (by decide), if_neg (by decide), if_neg (by decide), if_neg (by decide)]
   simp only [List.length_append, bts_len, sampBits_len, List.length_take]
   have : min o xs.length = o := by omega
   rw [this]; omega
  have hc := sub_fixed h hb hl size bits s0 s1 b0 b1 o ho hos xs hlen hf (rests o xs) (by rw [rests_len, hlen]) (rests_bound ok) (fun k hk => by rw [rests_get o xs k (by omega)]; omega) hbits
  rw [hlen2, show at_ + (8 + bits * o + 10 + (riceBits (rests o xs)).length) = at_ + 8 + bits * o + 10 + (riceBits (rests o xs)).length by omega]; exact hc
end Go.Proofs.YtmcllndnjdemaaaGreatDoor.Walk
