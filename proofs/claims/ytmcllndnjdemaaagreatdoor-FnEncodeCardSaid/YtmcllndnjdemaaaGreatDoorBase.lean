/- Small words for a walk that is driven by hand: it stops at the operation that writes a named slot. -/
import Derived.Test.YtmcllndnjdemaaaGreatDoorWAll
import Derived.WalkKit
import Derived.Below
import Derived.Deep.Draws
import Derived.Test.YtmcllndnjdemaaaGreatDoorProg
import Derived.Lib.Hide
import Derived.KernelRfl
import Derived.WalkLawsBesides
import Derived.WalkSpells
import Derived.Deep.QuietTactic
import Derived.BigQuiet
import Derived.StillTailTactics
import Derived.Laws.CopyOwn
import Derived.Laws.Bits64
import Derived.Laws.BitsLemmas
import Derived.Laws.BitsAllLaws
namespace Go.Proofs.YtmcllndnjdemaaaGreatDoor.Walk
open Go Go.RowKit
def Stop (p : Prop) : Prop := p
theorem unstop {p : Prop} (h : p) : Stop p := h
section
variable {P : Program} {ops : Array Oper} {rest : List Oper} {o : Oper} {a : Act} {Q : Exit → Act → World → Prop} {W : World}
theorem stop_dst {N : Tmp} (_h : o.dst = some N) (h : Stop (wpList P ops Q (o :: rest) a W)) : wpList P ops Q (o :: rest) a W := h
end
end Go.Proofs.YtmcllndnjdemaaaGreatDoor.Walk
namespace Go.Proofs.YtmcllndnjdemaaaGreatDoor.Walk
set_option linter.unusedVariables false
set_option linter.unusedSimpArgs false
open Go Go.RowKit
structure Touch (S : List Nat) (w w' : World) : Prop where
 os : w'.os = w.os
 tape : w'.tape = w.tape
 output : w'.output = w.output
 size : w.heap.size ≤ w'.heap.size
 block : ∀ k, k < w.heap.size → k ∉ S → w'.heap[k]? = w.heap[k]?
theorem Touch.refl (S : List Nat) (w : World) : Touch S w w := ⟨rfl, rfl, rfl, Nat.le_refl _, fun _ _ _ => rfl⟩
theorem Touch.of_below {S : List Nat} {w w' : World} (h : Below w.heap.size w w') : Touch S w w' := ⟨h.os, h.tape, h.output, h.size, fun k hk _ => h.block k hk⟩
theorem Touch.trans {S : List Nat} {a b c : World} (h : Touch S a b) (k : Touch S b c) : Touch S a c :=
 ⟨k.os.trans h.os, k.tape.trans h.tape, k.output.trans h.output, Nat.le_trans h.size k.size, fun i hi hn => (k.block i (Nat.lt_of_lt_of_le hi h.size) hn).trans (h.block i hi hn)⟩
theorem Touch.mono {S T : List Nat} {w w' : World} (h : Touch S w w') (hs : ∀ k, k < w.heap.size → k ∈ S → k ∈ T) : Touch T w w' :=
 ⟨h.os, h.tape, h.output, h.size, fun i hi hn => h.block i hi (fun hm => hn (hs i hi hm))⟩
theorem Touch.below {S : List Nat} {w0 w w' : World} (h : Touch S w w') (hb : Below w0.heap.size w0 w) (hS : ∀ k ∈ S, w0.heap.size ≤ k) : Below w0.heap.size w0 w' :=
 hb.trans ⟨h.os, h.tape, h.output, h.size, fun k hk => h.block k (Nat.lt_of_lt_of_le hk hb.size) (fun hm => by have := hS k hm; omega)⟩
theorem Touch.drewN {S : List Nat} {a w : World} (h : Touch S a w) (n : Nat) : Touch S a (w.drewN n) := ⟨h.os, h.tape, h.output, h.size, h.block⟩
theorem Touch.drew {S : List Nat} {a w : World} (h : Touch S a w) : Touch S a w.drew := ⟨h.os, h.tape, h.output, h.size, h.block⟩
theorem Touch.alloc {S : List Nat} {a w : World} (h : Touch S a w) (o : Obj) : Touch S a (w.alloc o) :=
 h.trans (Touch.of_below ((Below.refl _ _).alloc (Nat.le_refl _) o))
theorem Touch.setCell {S : List Nat} {a w : World} (h : Touch S a w) {p : Addr} (hp : p.block ∈ S ∨ a.heap.size ≤ p.block) (u : Value) : Touch S a (w.setCell p u) :=
 ⟨h.os, h.tape, h.output, by simp [World.setCell]; exact h.size, fun k hk hn => by
  rw [Below.heap_setCell _ _ _ _ (by rintro rfl; rcases hp with hp | hp; exact hn hp; omega)]; exact h.block k hk hn⟩
theorem Touch.heap {S : List Nat} {w w' : World} (h : Touch S w w') {k : Nat} {o : Obj} (hk : w.heap[k]? = some o) (hn : k ∉ S) : w'.heap[k]? = some o :=
 (h.block k (Array.getElem?_eq_some_iff.1 hk).1 hn).trans hk
theorem Touch.cell {S : List Nat} {w w' : World} (h : Touch S w w') {a : Addr} {v : Value} (hc : w.cell? a = some v) (hn : a.block ∉ S) : w'.cell? a = some v := by
 rw [← hc]
 exact World.cell?_of_block (h.block _ (World.block_lt_of_cell? w a hc) hn)
end Go.Proofs.YtmcllndnjdemaaaGreatDoor.Walk
namespace Go.Proofs.YtmcllndnjdemaaaGreatDoor.Walk
set_option linter.unusedVariables false
set_option linter.unusedSimpArgs false
open Go Go.RowKit Go.Proofs.YtmcllndnjdemaaaGreatDoorW.PrintWords
theorem infoU8 : (Tryz.prog.info? 5).map (fun i => (i.zero, i.size, i.bytes)) = some (some (.int .u8 0), 1, 1) := by kernel_rfl
end Go.Proofs.YtmcllndnjdemaaaGreatDoor.Walk
namespace Go.Proofs.YtmcllndnjdemaaaGreatDoor.Num
set_option linter.unusedVariables false
set_option linter.unusedSimpArgs false
open Go
def byteAt (l : List Int) (i : Nat) : Nat := (l.getD i 0).toNat
def bitAt (l : List Int) (i : Nat) : Nat := byteAt l (i / 8) / 2 ^ (7 - i % 8) % 2
def num (l : List Int) (at_ : Nat) : Nat → Nat
 | 0 => 0
 | n + 1 => 2 * num l at_ n + bitAt l (at_ + n)
theorem bitAt_lt (l : List Int) (i : Nat) : bitAt l i < 2 := Nat.mod_lt _ (by decide)
theorem num_add (l : List Int) (a m n : Nat) : num l a (m + n) = num l a m * 2 ^ n + num l (a + m) n := by
 induction n with
 | zero => simp [num]
 | succ n ih =>
  rw [show m + (n + 1) = (m + n) + 1 from rfl, num, ih, num, Nat.pow_succ, show a + (m + n) = a + m + n from by omega, Nat.mul_add]
  have : num l a m * (2 ^ n * 2) = 2 * (num l a m * 2 ^ n) := by rw [← Nat.mul_assoc, Nat.mul_comm]
  omega
theorem num_in (l : List Int) (p j k : Nat) (h : j + k ≤ 8) : num l (8 * p + j) k = byteAt l p / 2 ^ (8 - j - k) % 2 ^ k := by
 induction k with
 | zero => simp [num, Nat.mod_one]
 | succ k ih =>
  rw [num, ih (by omega)]
  have e1 : (8 * p + j + k) / 8 = p := by omega
  have e2 : (8 * p + j + k) % 8 = j + k := by omega
  unfold bitAt
  rw [e1, e2]
  have e3 : 8 - j - k = (7 - (j + k)) + 1 := by omega
  have e4 : 8 - j - (k + 1) = 7 - (j + k) := by omega
  rw [e3, e4, Nat.pow_succ, ← Nat.div_div_eq_div_mul]
  obtain ⟨q, hq⟩ : ∃ q, byteAt l p / 2 ^ (7 - (j + k)) = q := ⟨_, rfl⟩
  rw [hq, Nat.pow_succ, Nat.mul_comm (2 ^ k) 2, Nat.mod_mul]
  omega
theorem num_byte (l : List Int) (p : Nat) (h : byteAt l p < 256) : num l (8 * p) 8 = byteAt l p := by
 have := num_in l p 0 8 (by omega)
 rw [Nat.add_zero] at this
 rw [this]; simp; omega
theorem or_u64_add (a b : Int) (k : Nat) (ha : 0 ≤ a) (hb : 0 ≤ b) (hb1 : b < 2 ^ k) (hk : a * 2 ^ k + b < 18446744073709551616) :
  Go.bits .or .u64 (a * 2 ^ k) b = a * 2 ^ k + b := by
 obtain ⟨A, rfl⟩ := Int.eq_ofNat_of_zero_le ha
 obtain ⟨B, rfl⟩ := Int.eq_ofNat_of_zero_le hb
 have e : (A : Int) * 2 ^ k = ((A * 2 ^ k : Nat) : Int) := by simp
 have hB : B < 2 ^ k := by exact_mod_cast hb1
 rw [e] at hk ⊢
 obtain ⟨Z, hZ⟩ : ∃ Z, A * 2 ^ k = Z := ⟨_, rfl⟩
 rw [hZ] at hk
 have hlt : Z + B < 18446744073709551616 := by omega
 rw [hZ, u64_or _ _ (by omega) (by omega) (by omega) (by omega), Int.toNat_natCast, Int.toNat_natCast, ← hZ, Nat.mul_comm A, ← Nat.two_pow_add_eq_or_of_lt hB]
 rfl
end Go.Proofs.YtmcllndnjdemaaaGreatDoor.Num
namespace Go.Proofs.YtmcllndnjdemaaaGreatDoor.Walk
set_option linter.unusedVariables false
set_option linter.unusedSimpArgs false
open Go Go.Proofs.YtmcllndnjdemaaaGreatDoor.Num
structure WS where
 out : List Int
 c : Nat
 nb : Nat
def WS.put (s : WS) (t : Nat) : WS := if s.nb = 7 then ⟨s.out ++ [((2 * s.c + t : Nat) : Int)], 0, 0⟩ else ⟨s.out, 2 * s.c + t, s.nb + 1⟩
def WS.puts (s : WS) (v : Nat) : Nat → WS
 | 0 => s
 | n + 1 => WS.puts (s.put (v / 2 ^ n % 2)) v n
structure WS.Ok (s : WS) : Prop where
 nb : s.nb < 8
 c : s.c < 2 ^ s.nb
theorem WS.Ok.put {s : WS} (h : s.Ok) {t : Nat} (ht : t < 2) : (s.put t).Ok := by
 have h1 := h.nb; have h2 := h.c
 unfold WS.put
 split
 ·exact ⟨show 0 < 8 by decide, show 0 < 2 ^ 0 by decide⟩
 ·refine ⟨by show s.nb + 1 < 8; omega, ?_⟩
  show 2 * s.c + t < 2 ^ (s.nb + 1)
  rw [Nat.pow_succ]; omega
theorem WS.Ok.c_lt {s : WS} (h : s.Ok) : s.c < 128 := by
 have h1 := h.nb; have h2 := h.c
 exact Nat.lt_of_lt_of_le h2 (Nat.pow_le_pow_right (by decide) (by omega : s.nb ≤ 7))
theorem bit_of_u64 (q : Nat) (h : q < 18446744073709551616) : Go.bits .and .u64 (q : Int) 1 = ((q % 2 : Nat) : Int) := by
 rw [u64_and _ _ (by omega) (by omega) (by decide) (by decide)]
 show ((q &&& (2 ^ 1 - 1) : Nat) : Int) = _
 rw [Nat.and_two_pow_sub_one_eq_mod]
theorem or_bit_u8 (c t : Nat) (hc : c < 128) (ht : t < 2) : Go.bits .or .u8 ((c : Int) * 2) (t : Int) = ((2 * c + t : Nat) : Int) := by
 have key : ∀ c : Fin 128, ∀ t : Fin 2, Go.bits .or .u8 ((c.val : Int) * 2) (t.val : Int) = ((2 * c.val + t.val : Nat) : Int) := by decide +kernel
 exact key ⟨c, hc⟩ ⟨t, ht⟩
def WS.flush (s : WS) : WS := if s.nb = 0 then s else s.puts 0 (8 - s.nb)
end Go.Proofs.YtmcllndnjdemaaaGreatDoor.Walk
namespace Go.Proofs.YtmcllndnjdemaaaGreatDoor.Walk
set_option linter.unusedVariables false
set_option linter.unusedSimpArgs false
open Go Go.Proofs.YtmcllndnjdemaaaGreatDoor.Num
def bts (v : Nat) : Nat → List Nat
 | 0 => []
 | n + 1 => (v / 2 ^ n % 2) :: bts v n
theorem bts_len (v : Nat) : ∀ n, (bts v n).length = n
 | 0 => rfl
 | n + 1 => by rw [bts, List.length_cons, bts_len v n]
theorem bts_snoc (c t : Nat) (ht : t < 2) : ∀ n, bts (2 * c + t) (n + 1) = bts c n ++ [t]
 | 0 => by simp [bts]; omega
 | n + 1 => by
  have e : (2 * c + t) / 2 ^ (n + 1) = c / 2 ^ n := by
   rw [Nat.pow_succ, Nat.mul_comm (2 ^ n) 2, ← Nat.div_div_eq_div_mul]
   congr 1; omega
  rw [bts, e, bts_snoc c t ht n]; rfl
theorem bts_mod (v : Nat) : ∀ n m, n ≤ m → bts (v % 2 ^ m) n = bts v n
 | 0, _, _ => rfl
 | n + 1, m, h => by
  rw [bts, bts, bts_mod v n m (by omega)]
  congr 1
  obtain ⟨d, rfl⟩ : ∃ d, m = n + 1 + d := ⟨m - (n + 1), by omega⟩
  rw [show n + 1 + d = n + (1 + d) by omega, Nat.pow_add, Nat.mod_mul_right_div_self, Nat.pow_add, Nat.pow_one, Nat.mod_mul_right_mod]
theorem bts_zero : ∀ n, bts 0 n = List.replicate n 0
 | 0 => rfl
 | n + 1 => by rw [bts, bts_zero n, Nat.zero_div, List.replicate_succ]
def bytesBits : List Int → List Nat
 | [] => []
 | b :: l => bts b.toNat 8 ++ bytesBits l
theorem bytesBits_append : ∀ a b, bytesBits (a ++ b) = bytesBits a ++ bytesBits b
 | [], b => rfl
 | x :: a, b => by rw [List.cons_append, bytesBits, bytesBits, bytesBits_append a b, List.append_assoc]
theorem bytesBits_len : ∀ l, (bytesBits l).length = 8 * l.length
 | [] => rfl
 | x :: l => by rw [bytesBits, List.length_append, bts_len, bytesBits_len l, List.length_cons]; omega
def WS.bits (s : WS) : List Nat := bytesBits s.out ++ bts s.c s.nb
theorem WS.bits_len (s : WS) : s.bits.length = 8 * s.out.length + s.nb := by
 unfold WS.bits; rw [List.length_append, bytesBits_len, bts_len]
theorem WS.put_bits (s : WS) (t : Nat) (ht : t < 2) : (s.put t).bits = s.bits ++ [t] := by
 obtain ⟨out, c, k⟩ := s
 unfold WS.put WS.bits
 by_cases h : k = 7
 ·subst h
  show bytesBits (out ++ [((2 * c + t : Nat) : Int)]) ++ bts 0 0 = bytesBits out ++ bts c 7 ++ [t]
  rw [bytesBits_append, bytesBits, bytesBits, Int.toNat_natCast, List.append_nil, bts_snoc c t ht 7, bts, List.append_nil, List.append_assoc]
 ·rw [if_neg (by exact h)]
  show bytesBits out ++ bts (2 * c + t) (k + 1) = bytesBits out ++ bts c k ++ [t]
  rw [bts_snoc c t ht k, List.append_assoc]
theorem WS.puts_bits (v : Nat) : ∀ (n : Nat) (s : WS), (s.puts v n).bits = s.bits ++ bts v n
 | 0, s => by rw [WS.puts, bts, List.append_nil]
 | n + 1, s => by
  rw [WS.puts, WS.puts_bits v n, WS.put_bits _ _ (Nat.mod_lt _ (by decide)), bts, List.append_assoc]; rfl
theorem WS.Ok.puts (v : Nat) : ∀ (n : Nat) {s : WS}, s.Ok → (s.puts v n).Ok
 | 0, s, h => h
 | n + 1, s, h => WS.Ok.puts v n (h.put (Nat.mod_lt _ (by decide)))
def padOf (n : Nat) : Nat := (8 - n % 8) % 8
theorem WS.flush_bits (s : WS) (h : s.Ok) : s.flush.bits = s.bits ++ List.replicate (padOf s.bits.length) 0 ∧ s.flush.nb = 0 ∧ s.flush.Ok := by
 have hk := h.nb
 have hl := s.bits_len
 unfold WS.flush
 by_cases h0 : s.nb = 0
 ·rw [if_pos h0]
  refine ⟨?_, h0, h⟩
  rw [show padOf s.bits.length = 0 by unfold padOf; omega]; simp
 ·rw [if_neg h0]
  have hp : padOf s.bits.length = 8 - s.nb := by unfold padOf; omega
  have hb := s.puts_bits 0 (8 - s.nb)
  have ho := h.puts 0 (8 - s.nb)
  have hl2 := (s.puts 0 (8 - s.nb)).bits_len
  rw [hb, List.length_append, bts_len] at hl2
  refine ⟨by rw [hb, hp, bts_zero], ?_, ho⟩
  have := ho.nb; omega
theorem WS.put_bytes_ok {s : WS} (h : s.Ok) (hb : ∀ x ∈ s.out, 0 ≤ x ∧ x ≤ 255) {t : Nat} (ht : t < 2) : ∀ x ∈ (s.put t).out, 0 ≤ x ∧ x ≤ 255 := by
 intro x hx
 have hc := h.c_lt
 unfold WS.put at hx
 split at hx
 ·rcases List.mem_append.1 hx with h1 | h1
  ·exact hb x h1
  ·simp only [List.mem_singleton] at h1; omega
 ·exact hb x hx
def BitsAt (l : List Int) (at_ : Nat) (bs : List Nat) : Prop := at_ + bs.length ≤ 8 * l.length ∧ ∀ i, i < bs.length → bitAt l (at_ + i) = bs.getD i 0
theorem BitsAt.left {l : List Int} {at_ : Nat} {a b : List Nat} (h : BitsAt l at_ (a ++ b)) : BitsAt l at_ a := by
 obtain ⟨h1, h2⟩ := h
 rw [List.length_append] at h1 h2
 refine ⟨by omega, fun i hi => ?_⟩
 rw [h2 i (by omega), List.getD_eq_getElem?_getD, List.getD_eq_getElem?_getD, List.getElem?_append_left hi]
theorem BitsAt.right {l : List Int} {at_ : Nat} {a b : List Nat} (h : BitsAt l at_ (a ++ b)) : BitsAt l (at_ + a.length) b := by
 obtain ⟨h1, h2⟩ := h
 rw [List.length_append] at h1 h2
 refine ⟨by omega, fun i hi => ?_⟩
 rw [Nat.add_assoc, h2 (a.length + i) (by omega), List.getD_eq_getElem?_getD, List.getD_eq_getElem?_getD, List.getElem?_append_right (by omega), Nat.add_sub_cancel_left]
theorem BitsAt.val {l : List Int} (v : Nat) : ∀ (n at_ : Nat), BitsAt l at_ (bts v n) → num l at_ n = v % 2 ^ n
 | 0, at_, _ => by simp [num, Nat.mod_one]
 | n + 1, at_, h => by
  have e : bts v (n + 1) = [v / 2 ^ n % 2] ++ bts v n := rfl
  rw [e] at h
  have h1 := h.left.2 0 (by simp)
  have h2 := BitsAt.val v n _ h.right
  rw [show n + 1 = 1 + n by omega, num_add]
  have hn1 : num l at_ 1 = bitAt l at_ := by simp [num]
  rw [List.length_singleton] at h2
  rw [Nat.add_zero] at h1
  rw [hn1, h2, h1]
  show v / 2 ^ n % 2 * 2 ^ n + v % 2 ^ n = v % 2 ^ (1 + n)
  rw [show 1 + n = n + 1 by omega, Nat.pow_succ, Nat.mod_mul, Nat.mul_comm, Nat.add_comm]
theorem byteAt_cons (x : Int) (l : List Int) (i : Nat) : byteAt (x :: l) (i + 1) = byteAt l i := by
 unfold byteAt; rfl
theorem bts_getD (v : Nat) : ∀ n i, i < n → (bts v n).getD i 0 = v / 2 ^ (n - 1 - i) % 2
 | 0, i, h => by omega
 | n + 1, 0, _ => rfl
 | n + 1, i + 1, h => by
  rw [bts]
  show (bts v n).getD i 0 = _
  rw [bts_getD v n i (by omega)]
  congr 3; omega
theorem bits_bytes : ∀ (l : List Int) (i : Nat), i < 8 * l.length → (bytesBits l).getD i 0 = bitAt l i
 | [], i, h => by simp at h
 | x :: l, i, h => by
  rw [List.length_cons] at h
  rw [bytesBits, List.getD_eq_getElem?_getD]
  rcases Nat.lt_or_ge i 8 with h8 | h8
  ·rw [List.getElem?_append_left (by rw [bts_len]; exact h8), ← List.getD_eq_getElem?_getD, bts_getD _ _ _ h8]
   unfold bitAt
   rw [show i / 8 = 0 by omega, show i % 8 = i by omega]
   rfl
  ·rw [List.getElem?_append_right (by rw [bts_len]; exact h8), bts_len, ← List.getD_eq_getElem?_getD, bits_bytes l (i - 8) (by omega)]
   unfold bitAt
   rw [show i / 8 = (i - 8) / 8 + 1 by omega, byteAt_cons, show (i - 8) % 8 = i % 8 by omega]
theorem bitAt_shift (p l : List Int) (i : Nat) : bitAt (p ++ l) (8 * p.length + i) = bitAt l i := by
 unfold bitAt
 rw [show (8 * p.length + i) / 8 = p.length + i / 8 by omega, show (8 * p.length + i) % 8 = i % 8 by omega]
 congr 2
 unfold byteAt
 rw [List.getD_eq_getElem?_getD, List.getElem?_append_right (by omega), Nat.add_sub_cancel_left, ← List.getD_eq_getElem?_getD]
theorem bitsAt_bytes (p l q : List Int) : BitsAt (p ++ (l ++ q)) (8 * p.length) (bytesBits l) := by
 refine ⟨by rw [bytesBits_len, List.length_append, List.length_append]; omega, fun i hi => ?_⟩
 rw [bytesBits_len] at hi
 rw [bitAt_shift, bits_bytes l i hi]
 unfold bitAt
 congr 2
 unfold byteAt
 rw [List.getD_eq_getElem?_getD, List.getElem?_append_left (by omega), ← List.getD_eq_getElem?_getD]
end Go.Proofs.YtmcllndnjdemaaaGreatDoor.Walk
