/- The calls of the reference's header reader, over plain facts. -/
import Derived.Test.YtmcllndnjdemaaaGreatDoorPFnEncodex2
import Derived.Test.YtmcllndnjdemaaaGreatDoorPCr16
import Derived.Test.YtmcllndnjdemaaaGreatDoorCrcS
import Derived.Test.YtmcllndnjdemaaaGreatDoorNpl
import Derived.Test.YtmcllndnjdemaaaGreatDoorSubAll
import Derived.Test.YtmcllndnjdemaaaGreatDoorEh
namespace Go.Proofs.YtmcllndnjdemaaaGreatDoor.Walk
set_option linter.unusedVariables false
set_option linter.unusedSimpArgs false
open Go Go.RowKit Go.Proofs.YtmcllndnjdemaaaGreatDoorW.PrintWords Go.Proofs.YtmcllndnjdemaaaGreatDoorW.PrintLast Go.Proofs.YtmcllndnjdemaaaGreatDoorW.PrintMore Go.Proofs.YtmcllndnjdemaaaGreatDoor.Num Go.Proofs.YtmcllndnjdemaaaGreatDoor.Crc Go.Proofs.YtmcllndnjdemaaaGreatDoor.PFnEncode
def rateTab : List Nat := [0, 88200, 176400, 192000, 8000, 16000, 22050, 24000, 32000, 44100, 48000, 96000]
def szOf (k : Nat) : Nat := if k = 1 then 192 else if k < 6 then 144 * 2 ^ k else if k < 8 then 0 else 2 ^ k
theorem sizeOf_call (k : Nat) (hk1 : k < 16) (w : World) : Calls Tryz.prog 51 #[.int .i64 k] w fun e w' => e = .returned (.int .i64 (szOf k : Nat)) ∧ ∃ n, w' = w.drewN n := by
 have key : ∀ k : Fin 16, spec_sizeOf.f (k.val : Int) = some ((szOf k.val : Nat) : Int) := by decide +kernel
 exact (spec_sizeOf.calls (k : Int) _ w (key ⟨k, hk1⟩)).mono fun e w' h => ⟨h.1, h.2.out⟩
theorem rates_call (w : World) : Calls Tryz.prog 52 #[] w fun e w' => ∃ x, e = .returned x ∧ w'.ownsRow w.heap.size 3 1 x 12 (nums .i64 (rateTab.map fun x : Nat => (x : Int))) ∧ Below w.heap.size w w' :=
 (spec_rates.calls (rateTab.map fun x : Nat => (x : Int)) w rfl).mono fun e w' ⟨x, he, hr, hb⟩ => ⟨x, he, Kd.own_of_R hr, hb⟩
theorem coded_call (v : Nat) (w : World) (hv : v < 68719476736) :
  Calls Tryz.prog 50 #[.int .u64 v] w fun e w' => ∃ x, e = .returned x ∧ w'.ownsRow w.heap.size 5 1 x (more v + 1) (nums .u8 (coded v)) ∧ Below w.heap.size w w' :=
 (spec_Coded.calls 30 v (coded v) w (spec_coded v hv)).mono fun e w' ⟨x, he, hr, hb⟩ => ⟨x, he, by have h := Kd.own_of_R hr; rw [coded_len] at h; exact h, hb⟩
theorem crc8_call (A : Option Addr) (c : Nat) (l : List Int) (w : World) (hl : ReadsInt w .u8 A l.length l) (hc : l.length ≤ c) (hlen : l.length ≤ 2 ^ 62) (hb : ∀ x ∈ l, 0 ≤ x ∧ x ≤ 255) :
  Calls Tryz.prog 53 #[.slice A l.length c] w fun e w' => e = .returned (.int .i64 (up8 (f8 7) 0 l)) ∧ ∃ n, w' = w.drewN n := by
 obtain ⟨K, hK⟩ := CrcS.spec8 l hlen hb
 have hf : spec_Crc8.f K l = some (up8 (f8 7) 0 l) := by unfold spec_Crc8.f; rw [hK]; rfl
 exact (spec_Crc8.calls K A c l _ w (Kd.C_of_reads (h1 := fun _ => rfl) (readsInt_of.1 hl)) hc hf).mono fun e w' h => ⟨h.1, h.2.out⟩
theorem crc16_call (A : Option Addr) (c : Nat) (l : List Int) (w : World) (hl : ReadsInt w .u8 A l.length l) (hc : l.length ≤ c) (hlen : l.length ≤ 2 ^ 62) (hb : ∀ x ∈ l, 0 ≤ x ∧ x ≤ 255) :
  Calls Tryz.prog 31 #[.slice A l.length c] w fun e w' => e = .returned (.int .i64 (up16 (f16 32773) 0 l)) ∧ ∃ n, w' = w.drewN n := by
 obtain ⟨K, hK⟩ := CrcS.spec16 l hlen hb
 have hf : spec_Crc16.f K l = some (up16 (f16 32773) 0 l) := by unfold spec_Crc16.f; rw [hK]; rfl
 exact (spec_Crc16.calls K A c l _ w (Kd.C_of_reads (h1 := fun _ => rfl) (readsInt_of.1 hl)) hc hf).mono fun e w' h => ⟨h.1, h.2.out⟩
theorem sum_byte (l : List Int) (hb : ∀ x ∈ l, 0 ≤ x ∧ x ≤ 255) : ∃ z : Nat, up8 (f8 7) 0 l = (z : Int) ∧ z < 256 :=
 ⟨_, CrcP.crc8_from l hb 0#8, (l.foldl CrcP.b8 0#8).isLt⟩
theorem sum_word (l : List Int) (hb : ∀ x ∈ l, 0 ≤ x ∧ x ≤ 255) : ∃ z : Nat, up16 (f16 32773) 0 l = (z : Int) ∧ z < 65536 :=
 ⟨_, CrcP.crc16_from l hb 0#16, (l.foldl CrcP.b16 0#16).isLt⟩
theorem number_call (A : Option Addr) (c m v : Nat) (l ts : List Int) (w : World) (hl : ReadsInt w .u8 A m l) (hc : m ≤ c) (he : l = coded v ++ ts) (hv : v < 68719476736) (hts : ∀ x ∈ ts, 0 ≤ x ∧ x ≤ 255) :
  Calls Tryz.prog 49 #[.slice A m c] w fun e w' => e = .returned (.tuple #[.int .u64 v, .int .i64 (more v + 1 : Nat)]) ∧ ∃ q, w' = w.drewN q := by
 obtain rfl := hl.1
 exact (spec_Number.calls 30 A c l v (more v + 1 : Nat) w (Kd.C_of_reads (h1 := fun _ => rfl) (readsInt_of.1 hl)) hc (by rw [he]; exact spec_num_coded v hv ts hts)).mono fun e w' ⟨he, hd⟩ => ⟨he, hd.1⟩
theorem drop_byte (l : List Int) (k i : Nat) : (l.drop k).getD i 0 = l.getD (k + i) 0 := by rw [List.getD_eq_getElem?_getD, List.getElem?_drop, ← List.getD_eq_getElem?_getD]
theorem reads_drop {w : World} {ad : Addr} {n : Nat} {l : List Int} (h : ReadsInt w .u8 (some ad) n l) (k : Nat) (hn : k < n) : ReadsInt w .u8 (some (ad.add k)) (n - k) (l.drop k) := by
 obtain ⟨h1, h2, h3⟩ := h
 obtain ⟨ad', e, hc⟩ := h3 (by omega)
 obtain rfl := Option.some.inj e
 refine ⟨by rw [List.length_drop, h1], by omega, fun _ => ⟨ad.add k, rfl, fun i hi => ?_⟩⟩
 rw [drop_byte, ← hc (k + i) (by omega)]
 congr 1
 by_cases hk : k = 0 <;> by_cases h0 : i = 0 <;> simp [Addr.add, hk, h0, Nat.add_assoc]
theorem reads_take {w : World} {A : Option Addr} {n k : Nat} {l : List Int} (h : ReadsInt w .u8 A n l) (hk : k ≤ n) : ReadsInt w .u8 A k (l.take k) := by
 obtain ⟨h1, h2, h3⟩ := h
 refine ⟨by rw [List.length_take]; omega, by omega, fun h0 => ?_⟩
 obtain ⟨ad, e, hc⟩ := h3 (by omega)
 refine ⟨ad, e, fun i hi => ?_⟩
 rw [hc i (by omega), List.getD_eq_getElem?_getD, List.getD_eq_getElem?_getD, List.getElem?_take, if_pos hi]
structure Rs (w0 : World) (N : Nat) (l : List Int) (w : World) (at_ : Nat) (h : Array Value) : Prop where
 hN : w0.heap.size = N
 rd : Rd w0 (N + 2) l at_ w
 hd : w.heap[N + 1]? = some (.cells h 32 (0, 0))
 res : w.heap[N]? = some (.cells #[.bool false, .int .i64 0, .int .i64 0, .int .i64 0, .int .i64 0, .int .u64 0] 32 (0, 0))
theorem rs_word {w0 w : World} {N : Nat} {l : List Int} {at_ : Nat} {h : Array Value} (r : Rs w0 N l w at_ h) (hb : ∀ i, l.getD i 0 = (byteAt l i : Int) ∧ byteAt l i < 256) (hl : l.length ≤ 140737488355328) {n v : Nat} (hn : n ≤ 60) (hbits : BitsAt l at_ (bts v n)) (x : Int) (hx : ((v % 2 ^ n : Nat) : Int) = x) :
  Calls Tryz.prog 48 #[.pointer (some ⟨N + 2, 0, none⟩), .int .i64 n] w fun e w' => e = .returned (.int .i64 x) ∧ Rs w0 N l w' (at_ + n) h := by
 refine (rd_word r.rd hb hl hn hbits).mono ?_
 rintro e w' ⟨rfl, h1, t⟩
 rw [hx]
 exact ⟨rfl, r.hN, h1, t.heap r.hd (by simp), t.heap r.res (by simp)⟩
theorem rs_cells {w0 w : World} {N : Nat} {l : List Int} {at_ : Nat} {h : Array Value} (r : Rs w0 N l w at_ h) : w.cell? ⟨N + 2, 1, none⟩ = some (.int .i64 at_) ∧ w.cell? ⟨N + 2, 2, none⟩ = some (.bool false) ∧ w.frozen? ⟨N + 2, 1, none⟩ = false := by
 obtain ⟨A0, c0, k1, k2, k3⟩ := r.rd.is
 exact ⟨by rw [cell_of_row w (N + 2) 1 _ _ _ k1]; rfl, by rw [cell_of_row w (N + 2) 2 _ _ _ k1]; rfl, by simp [World.frozen?, k1]⟩
theorem rs_below {w0 w w' : World} {N : Nat} {l : List Int} {at_ : Nat} {h : Array Value} (r : Rs w0 N l w at_ h) (b : Below w.heap.size w w') : Rs w0 N l w' at_ h :=
 ⟨r.hN, ⟨r.rd.is.below b, below_then r.rd.bel r.rd.bel.size b⟩, (b.block _ (Array.getElem?_eq_some_iff.1 r.hd).1).trans r.hd, (b.block _ (Array.getElem?_eq_some_iff.1 r.res).1).trans r.res⟩
theorem rs_set {w0 w : World} {N : Nat} {l : List Int} {at_ : Nat} {h : Array Value} (r : Rs w0 N l w at_ h) (k : Nat) (u : Value) : Rs w0 N l (w.setCell ⟨N + 1, k, none⟩ u) at_ (h.setIfInBounds k u) := by
 obtain ⟨A0, c0, h1, h2, h3⟩ := r.rd.is
 exact ⟨r.hN, ⟨⟨A0, c0, blk_far h1 (p := ⟨N + 1, k, none⟩) (by show N + 2 ≠ N + 1; omega) u, h2, h3⟩, r.rd.bel.setCell (p := ⟨N + 1, k, none⟩) (by rw [r.hN]; show N ≤ N + 1; omega) u⟩, blk_set r.hd k u,
  blk_far r.res (p := ⟨N + 1, k, none⟩) (by show N ≠ N + 1; omega) u⟩
theorem rs_at {w0 w : World} {N : Nat} {l : List Int} {at_ : Nat} {h : Array Value} (r : Rs w0 N l w at_ h) (at2 : Nat) : Rs w0 N l (w.setCell ⟨N + 2, 1, none⟩ (.int .i64 at2)) at2 h := by
 obtain ⟨A0, c0, k1, k2, k3⟩ := r.rd.is
 exact ⟨r.hN, ⟨⟨A0, c0, by rw [blk_set k1 1]; rfl, k2, k3⟩, r.rd.bel.setCell (p := ⟨N + 2, 1, none⟩) (by rw [r.hN]; show N ≤ N + 2; omega) _⟩, blk_far r.hd (p := ⟨N + 2, 1, none⟩) (by show N + 1 ≠ N + 2; omega) _,
  blk_far r.res (p := ⟨N + 2, 1, none⟩) (by show N ≠ N + 2; omega) _⟩
end Go.Proofs.YtmcllndnjdemaaaGreatDoor.Walk
