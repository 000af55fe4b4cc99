/- spec.ReadHead: it says Bad only where no header stands. Printed by wip/rh.py. -/
import Derived.Test.YtcdfbcanebjmfaaDoorSpecN
import Derived.Test.YtcdfbcanebjmfaaDoorHdr
import Derived.Test.YtcdfbcanebjmfaaDoorSh
import Derived.Outline
import Derived.BigQuiet
import Derived.Deep.DeepCutAuto
import Derived.Deep.CutBlock
import Derived.Deep.RegionWith
import Derived.Lib.Bytes
import Derived.Deep.RegionHeld3
namespace Go.Proofs.YtcdfbcanebjmfaaDoor.Walk
set_option linter.unusedVariables false
set_option linter.unusedSimpArgs false
open Go Go.RowKit Go.Proofs.YtcdfbcanebjmfaaDoorW.PrintWords Go.Proofs.YtcdfbcanebjmfaaDoorW.PrintLast Go.Proofs.YtcdfbcanebjmfaaDoorW.PrintMore Go.Proofs.YtcdfbcanebjmfaaDoor.Num Go.Proofs.YtcdfbcanebjmfaaDoor.Crc Go.Proofs.YtcdfbcanebjmfaaDoor.PFnHeaderTurned Go.Proofs.YtcdfbcanebjmfaaDoor.PNum

def anyHead (w : World) (g : Nat) : Prop := ∃ (b0 : Bool) (i1 i2 i3 i4 i5 : Int), w.heap[g]? = some (.cells #[.bool b0, .int .i64 i1, .int .i64 i2, .int .i64 i3, .int .i64 i4, .int .u64 i5] 29 (0, 0))
/-- The state of the reading: the reader at bit 'at', the header, the result's place. -/
structure Rh (w0 : World) (N : Nat) (l : List Int) (w : World) (at_ : Nat) (sh : Bool) : Prop where
  hN : w0.heap.size = N
  rd : IsS58 w0 w (N + 2) l (at_ : Int) sh
  hd : anyHead w (N + 1)
  res : w.heap[N]? = some (.cells #[.bool false, .int .i64 0, .int .i64 0, .int .i64 0, .int .i64 0, .int .u64 0] 29 (0, 0))
  bel : Below w0.heap.size w0 w
  early : 8 * l.length < at_ → sh = true
theorem rh_word {w0 w : World} {N : Nat} {l : List Int} {at_ : Nat} {sh : Bool} (h : Rh w0 N l w at_ sh) (hb : ∀ i, l.getD i 0 = (byteAt l i : Int) ∧ byteAt l i < 256) (n : Nat) (hn : n ≤ 16) (hat : at_ + n ≤ 1000000) :
    Calls Tryd.prog 16 #[.pointer (some ⟨N + 2, 0, none⟩), .int .i64 n] w fun e w' => ∃ (v : Nat) (sh' : Bool), e = .returned (.int .i64 v) ∧ Rh w0 N l w' (at_ + n) sh' ∧ v < 2 ^ n ∧ (at_ + n ≤ 8 * l.length → v = num l at_ n ∧ sh' = sh) := by
  obtain ⟨v, sh', h1, h2, h3, h4, h5⟩ := rword l hb n at_ sh hn hat h.early
  refine (spec_reader_word.calls (1 + n) (N + 2) l at_ sh n v ((at_ + n : Nat) : Int) sh' w0 w h.rd h.bel h1).mono ?_
  rintro e w' ⟨he, hI, hB, hK⟩
  have l1 := (Array.getElem?_eq_some_iff.1 h.res).1
  obtain ⟨b0, i1, i2, i3, i4, i5, hd⟩ := h.hd
  have l2 := (Array.getElem?_eq_some_iff.1 hd).1
  exact ⟨v, sh', he, ⟨h.hN, hI, ⟨b0, i1, i2, i3, i4, i5, (hK.2 (N + 1) l2 (by omega) (by simp)).trans hd⟩, (hK.2 N l1 (by omega) (by simp)).trans h.res, hB, h4⟩, h2, h3⟩
theorem rh_ret {w0 w : World} {N : Nat} {l : List Int} {at_ : Nat} {sh : Bool} (h : Rh w0 N l w at_ sh) (b0 : Bool) (i1 i2 i3 i4 i5 : Int) :
    ∃ wz, ((((((w.setCell ⟨N, 0, none⟩ (.bool b0)).setCell ⟨N, 1, none⟩ (.int .i64 i1)).setCell ⟨N, 2, none⟩ (.int .i64 i2)).setCell ⟨N, 3, none⟩ (.int .i64 i3)).setCell ⟨N, 4, none⟩ (.int .i64 i4)).setCell ⟨N, 5, none⟩ (.int .u64 i5)) = wz ∧ Below w0.heap.size w0 wz ∧ wz.cell? ⟨N, 0, none⟩ = some (.bool b0) ∧ wz.cell? ⟨N, 1, none⟩ = some (.int .i64 i1) ∧ wz.cell? ⟨N, 2, none⟩ = some (.int .i64 i2) ∧ wz.cell? ⟨N, 3, none⟩ = some (.int .i64 i3) ∧ wz.cell? ⟨N, 4, none⟩ = some (.int .i64 i4) ∧ wz.cell? ⟨N, 5, none⟩ = some (.int .u64 i5) := by
  have z0 := blk_set h.res 0 (.bool b0)
  have z1 := blk_set z0 1 (.int .i64 i1)
  have z2 := blk_set z1 2 (.int .i64 i2)
  have z3 := blk_set z2 3 (.int .i64 i3)
  have z4 := blk_set z3 4 (.int .i64 i4)
  have z5 := blk_set z4 5 (.int .u64 i5)
  obtain ⟨wz, hwz⟩ : ∃ wz, ((((((w.setCell ⟨N, 0, none⟩ (.bool b0)).setCell ⟨N, 1, none⟩ (.int .i64 i1)).setCell ⟨N, 2, none⟩ (.int .i64 i2)).setCell ⟨N, 3, none⟩ (.int .i64 i3)).setCell ⟨N, 4, none⟩ (.int .i64 i4)).setCell ⟨N, 5, none⟩ (.int .u64 i5)) = wz := ⟨_, rfl⟩
  have hb := ((((((h.bel.setCell (p := ⟨N, 0, none⟩) (Nat.le_of_eq h.hN) (.bool b0)).setCell (p := ⟨N, 1, none⟩) (Nat.le_of_eq h.hN) (.int .i64 i1)).setCell (p := ⟨N, 2, none⟩) (Nat.le_of_eq h.hN) (.int .i64 i2)).setCell (p := ⟨N, 3, none⟩) (Nat.le_of_eq h.hN) (.int .i64 i3)).setCell (p := ⟨N, 4, none⟩) (Nat.le_of_eq h.hN) (.int .i64 i4)).setCell (p := ⟨N, 5, none⟩) (Nat.le_of_eq h.hN) (.int .u64 i5))
  rw [hwz] at z5 hb
  have hz : wz.heap[N]? = some (.cells #[.bool b0, .int .i64 i1, .int .i64 i2, .int .i64 i3, .int .i64 i4, .int .u64 i5] 29 (0, 0)) := by rw [z5]; rfl
  exact ⟨wz, hwz, hb, by rw [cell_of_row wz N 0 _ _ _ hz]; rfl, by rw [cell_of_row wz N 1 _ _ _ hz]; rfl, by rw [cell_of_row wz N 2 _ _ _ hz]; rfl, by rw [cell_of_row wz N 3 _ _ _ hz]; rfl, by rw [cell_of_row wz N 4 _ _ _ hz]; rfl, by rw [cell_of_row wz N 5 _ _ _ hz]; rfl⟩
theorem rh_set {w0 w : World} {N : Nat} {l : List Int} {at_ : Nat} {sh : Bool} (h : Rh w0 N l w at_ sh) (k : Nat) (u : Value) (hu : anyHead (w.setCell ⟨N + 1, k, none⟩ u) (N + 1)) : Rh w0 N l (w.setCell ⟨N + 1, k, none⟩ u) at_ sh := by
  obtain ⟨A0, c0, h1, h2, h3⟩ := h.rd
  exact ⟨h.hN, ⟨A0, c0, blk_far h1 (p := ⟨N + 1, k, none⟩) (by show N + 2 ≠ N + 1; omega) u, h2, h3⟩, hu, blk_far h.res (p := ⟨N + 1, k, none⟩) (by show N ≠ N + 1; omega) u,
    h.bel.setCell (p := ⟨N + 1, k, none⟩) (by rw [h.hN]; show N ≤ N + 1; omega) u, h.early⟩
theorem rh_set0 {w0 w : World} {N : Nat} {l : List Int} {at_ : Nat} {sh : Bool} (h : Rh w0 N l w at_ sh) (b : Bool) : Rh w0 N l (w.setCell ⟨N + 1, 0, none⟩ (.bool b)) at_ sh := by
  obtain ⟨b0, i1, i2, i3, i4, i5, hd⟩ := h.hd
  exact rh_set h 0 _ ⟨b, i1, i2, i3, i4, i5, by rw [blk_set hd 0]; rfl⟩
theorem rh_set1 {w0 w : World} {N : Nat} {l : List Int} {at_ : Nat} {sh : Bool} (h : Rh w0 N l w at_ sh) (x : Int) : Rh w0 N l (w.setCell ⟨N + 1, 1, none⟩ (.int .i64 x)) at_ sh := by
  obtain ⟨b0, i1, i2, i3, i4, i5, hd⟩ := h.hd
  exact rh_set h 1 _ ⟨b0, x, i2, i3, i4, i5, by rw [blk_set hd 1]; rfl⟩
theorem rh_set2 {w0 w : World} {N : Nat} {l : List Int} {at_ : Nat} {sh : Bool} (h : Rh w0 N l w at_ sh) (x : Int) : Rh w0 N l (w.setCell ⟨N + 1, 2, none⟩ (.int .i64 x)) at_ sh := by
  obtain ⟨b0, i1, i2, i3, i4, i5, hd⟩ := h.hd
  exact rh_set h 2 _ ⟨b0, i1, x, i3, i4, i5, by rw [blk_set hd 2]; rfl⟩
theorem rh_set3 {w0 w : World} {N : Nat} {l : List Int} {at_ : Nat} {sh : Bool} (h : Rh w0 N l w at_ sh) (x : Int) : Rh w0 N l (w.setCell ⟨N + 1, 3, none⟩ (.int .i64 x)) at_ sh := by
  obtain ⟨b0, i1, i2, i3, i4, i5, hd⟩ := h.hd
  exact rh_set h 3 _ ⟨b0, i1, i2, x, i4, i5, by rw [blk_set hd 3]; rfl⟩
theorem rh_set4 {w0 w : World} {N : Nat} {l : List Int} {at_ : Nat} {sh : Bool} (h : Rh w0 N l w at_ sh) (x : Int) : Rh w0 N l (w.setCell ⟨N + 1, 4, none⟩ (.int .i64 x)) at_ sh := by
  obtain ⟨b0, i1, i2, i3, i4, i5, hd⟩ := h.hd
  exact rh_set h 4 _ ⟨b0, i1, i2, i3, x, i5, by rw [blk_set hd 4]; rfl⟩
theorem rh_set5 {w0 w : World} {N : Nat} {l : List Int} {at_ : Nat} {sh : Bool} (h : Rh w0 N l w at_ sh) (x : Int) : Rh w0 N l (w.setCell ⟨N + 1, 5, none⟩ (.int .u64 x)) at_ sh := by
  obtain ⟨b0, i1, i2, i3, i4, i5, hd⟩ := h.hd
  exact rh_set h 5 _ ⟨b0, i1, i2, i3, i4, x, by rw [blk_set hd 5]; rfl⟩
theorem rh_below {w0 w w' : World} {N : Nat} {l : List Int} {at_ : Nat} {sh : Bool} (h : Rh w0 N l w at_ sh) (b : Below w.heap.size w w') : Rh w0 N l w' at_ sh := by
  obtain ⟨b0, i1, i2, i3, i4, i5, hd⟩ := h.hd
  exact ⟨h.hN, h.rd.below b, ⟨b0, i1, i2, i3, i4, i5, (b.block _ (Array.getElem?_eq_some_iff.1 hd).1).trans hd⟩, (b.block _ (Array.getElem?_eq_some_iff.1 h.res).1).trans h.res, below_then h.bel h.bel.size b, h.early⟩
theorem rh_at {w0 w : World} {N : Nat} {l : List Int} {at_ : Nat} {sh : Bool} (h : Rh w0 N l w at_ sh) (at2 : Nat) (h2 : 8 * l.length < at2 → sh = true) : Rh w0 N l (w.setCell ⟨N + 2, 1, none⟩ (.int .i64 at2)) at2 sh := by
  obtain ⟨A0, c0, k1, k2, k3⟩ := h.rd
  obtain ⟨b0, i1, i2, i3, i4, i5, hd⟩ := h.hd
  exact ⟨h.hN, ⟨A0, c0, by rw [blk_set k1 1]; rfl, k2, k3⟩, ⟨b0, i1, i2, i3, i4, i5, blk_far hd (p := ⟨N + 2, 1, none⟩) (by show N + 1 ≠ N + 2; omega) _⟩, blk_far h.res (p := ⟨N + 2, 1, none⟩) (by show N ≠ N + 2; omega) _,
    h.bel.setCell (p := ⟨N + 2, 1, none⟩) (by rw [h.hN]; show N ≤ N + 2; omega) _, h2⟩
theorem rh_cells {w0 w : World} {N : Nat} {l : List Int} {at_ : Nat} {sh : Bool} (h : Rh w0 N l w at_ sh) : w.cell? ⟨N + 2, 1, none⟩ = some (.int .i64 at_) ∧ w.cell? ⟨N + 2, 2, none⟩ = some (.bool sh) ∧ w.frozen? ⟨N + 2, 1, none⟩ = false := by
  obtain ⟨A0, c0, k1, k2, k3⟩ := h.rd
  exact ⟨by rw [cell_of_row w (N + 2) 1 _ _ _ k1]; rfl, by rw [cell_of_row w (N + 2) 2 _ _ _ k1]; rfl, by simp [World.frozen?, k1]⟩
theorem GoodAt.unshift {l : List Int} {v n : Nat} (p : List Int) (h : GoodAt (p ++ l) p.length v n) : GoodAt l 0 v n := by
  have e : ∀ i, byteAt (p ++ l) (p.length + i) = byteAt l i := fun i => by
    unfold byteAt
    rw [List.getD_eq_getElem?_getD, List.getElem?_append_right (Nat.le_add_right _ _), Nat.add_sub_cancel_left, ← List.getD_eq_getElem?_getD]
  have ev : ∀ q x k, vals (p ++ l) (p.length + q) x k = vals l q x k := fun q x k => by
    induction k with
    | zero => rfl
    | succ k ih => rw [vals, vals, ih, Nat.add_assoc, e]
  obtain ⟨h0, h⟩ := h
  have hb := e 0
  rw [Nat.add_zero] at hb
  rw [hb] at h
  refine ⟨by rw [List.length_append] at h0; omega, ?_⟩
  rcases h with h | ⟨L, m1, mx, h1, h2, h3, h4, h5⟩
  · exact .inl h
  · rw [ev (0 + 1)] at h3 h4
    refine .inr ⟨L, m1, mx, h1, ⟨by have := h2.1; rw [List.length_append] at this; omega, fun i hi => ?_⟩, h3, h4, h5⟩
    have := h2.2 i hi
    rw [Nat.add_assoc, e] at this
    exact this
theorem good_drop {l : List Int} (hl : 4 ≤ l.length) {v n : Nat} (h : GoodAt l 4 v n) : GoodAt (l.drop 4) 0 v n := by
  have hp : (l.take 4).length = 4 := by rw [List.length_take]; omega
  have h2 : GoodAt (l.take 4 ++ l.drop 4) (l.take 4).length v n := by rw [List.take_append_drop, hp]; exact h
  exact h2.unshift _
theorem drop_byte (l : List Int) (i : Nat) : (l.drop 4).getD i 0 = l.getD (4 + i) 0 ∧ byteAt (l.drop 4) i = byteAt l (4 + i) := by
  have e : (l.drop 4).getD i 0 = l.getD (4 + i) 0 := by rw [List.getD_eq_getElem?_getD, List.getElem?_drop, ← List.getD_eq_getElem?_getD]
  exact ⟨e, by unfold byteAt; rw [e]⟩
theorem reads_drop {w : World} {ad : Addr} {n : Nat} {l : List Int} (h : ReadsInt w .u8 (some ad) n l) (hn : 6 ≤ n) : ReadsInt w .u8 (some (ad.add 4)) (n - 4) (l.drop 4) := by
  obtain ⟨h1, h2, h3⟩ := h
  obtain ⟨ad', e, hc⟩ := h3 (by omega)
  obtain rfl := Option.some.inj e
  refine ⟨by rw [List.length_drop, h1], by omega, fun _ => ⟨ad.add 4, rfl, fun i hi => ?_⟩⟩
  rw [(drop_byte l i).1, ← hc (4 + i) (by omega)]
  congr 1
  simp [Addr.add, Nat.add_assoc]
theorem reads_take {w : World} {A : Option Addr} {n k : Nat} {l : List Int} (h : ReadsInt w .u8 A n l) (hk : k ≤ n) : ReadsInt w .u8 A k (l.take k) := by
  obtain ⟨h1, h2, h3⟩ := h
  refine ⟨by rw [List.length_take]; omega, by omega, fun h0 => ?_⟩
  obtain ⟨ad, e, hc⟩ := h3 (by omega)
  refine ⟨ad, e, fun i hi => ?_⟩
  rw [hc i (by omega), List.getD_eq_getElem?_getD, List.getD_eq_getElem?_getD, List.getElem?_take, if_pos hi]
/-- spec.Number, called. -/
theorem number_call (A : Option Addr) (c m : Nat) (l : List Int) (v n : Nat) (w : World) (hl : ReadsInt w .u8 A m l) (hc : m ≤ c) (h : spec_Number.f 30 l = some ((v : Int), (n : Int))) :
    Calls Tryd.prog 17 #[.slice A m c] w fun e w' => e = .returned (.tuple #[.int .u64 v, .int .i64 n]) ∧ ∃ q, w' = w.drewN q := by
  obtain rfl := hl.1
  exact (spec_Number.calls 30 A c l v n w (Kd.C_of_reads (h1 := fun _ => rfl) (readsInt_of.1 hl)) hc h).mono fun e w' ⟨he, hd⟩ => ⟨he, hd.1⟩
theorem hdr32 {l : List Int} {f : HF} (h : HdrIs l f) : 32 ≤ 8 * l.length ∧ num l 0 15 = 32764 := by
  refine ⟨h.d, ?_⟩
  rw [show 15 = 14 + 1 from rfl, num_add, h.b]
  have := h.c
  simp only [Nat.zero_add] at this ⊢
  rw [this]

theorem good_undrop {l : List Int} (hl : 4 ≤ l.length) {v n : Nat} (h : GoodAt (l.drop 4) 0 v n) : GoodAt l 4 v n := by
  have e : ∀ i, byteAt l (4 + i) = byteAt (l.drop 4) i := fun i => (drop_byte l i).2.symm
  have ev : ∀ q x k, vals l (4 + q) x k = vals (l.drop 4) q x k := fun q x k => by
    induction k with
    | zero => rfl
    | succ k ih => rw [vals, vals, ih, Nat.add_assoc, e]
  obtain ⟨h0, h⟩ := h
  have hb := e 0
  rw [Nat.add_zero] at hb
  rw [← hb] at h
  refine ⟨by rw [List.length_drop] at h0; omega, ?_⟩
  rcases h with h | ⟨L, m1, mx, h1, h2, h3, h4, h5⟩
  · exact .inl h
  · rw [← ev (0 + 1)] at h3 h4
    refine .inr ⟨L, m1, mx, h1, ⟨by have := h2.1; rw [List.length_drop] at this; omega, fun i hi => ?_⟩, h3, h4, h5⟩
    have := h2.2 i hi
    rw [← e, ← Nat.add_assoc] at this
    exact this
theorem bs6 {l : List Int} {at_ s a : Nat} (h : bsAt l at_ 6 = some (s, a)) : a = at_ + 8 ∧ at_ + 8 ≤ 8 * l.length := by
  unfold bsAt at h
  rw [if_neg (by decide), if_neg (by decide), if_neg (by decide), if_pos rfl] at h
  split at h
  · simp at h; omega
  · cases h
theorem bs7 {l : List Int} {at_ s a : Nat} (h : bsAt l at_ 7 = some (s, a)) : a = at_ + 16 ∧ at_ + 16 ≤ 8 * l.length := by
  unfold bsAt at h
  rw [if_neg (by decide), if_neg (by decide), if_neg (by decide), if_neg (by decide), if_pos rfl] at h
  split at h
  · simp at h; omega
  · cases h
theorem bsO {l : List Int} {at_ n s a : Nat} (h6 : n ≠ 6) (h7 : n ≠ 7) (h : bsAt l at_ n = some (s, a)) : a = at_ := by
  unfold bsAt at h
  rw [if_neg h6, if_neg h7] at h
  (repeat' split at h) <;> (try simp at h) <;> omega
theorem sr12 {l : List Int} {at_ s a : Nat} (h : srAt l at_ 12 = some (s, a)) : a = at_ + 8 ∧ at_ + 8 ≤ 8 * l.length := by
  unfold srAt at h
  rw [if_neg (by decide), if_pos rfl] at h
  split at h
  · simp at h; omega
  · cases h
theorem sr13 {l : List Int} {at_ s a : Nat} (h : srAt l at_ 13 = some (s, a)) : a = at_ + 16 ∧ at_ + 16 ≤ 8 * l.length := by
  unfold srAt at h
  rw [if_neg (by decide), if_neg (by decide), if_pos rfl] at h
  split at h
  · simp at h; omega
  · cases h
theorem sr14 {l : List Int} {at_ s a : Nat} (h : srAt l at_ 14 = some (s, a)) : a = at_ + 16 ∧ at_ + 16 ≤ 8 * l.length := by
  unfold srAt at h
  rw [if_neg (by decide), if_neg (by decide), if_neg (by decide), if_pos rfl] at h
  split at h
  · simp at h; omega
  · cases h
theorem srO {l : List Int} {at_ n s a : Nat} (h2 : n ≠ 12) (h3 : n ≠ 13) (h4 : n ≠ 14) (h : srAt l at_ n = some (s, a)) : a = at_ := by
  unfold srAt at h
  rw [if_neg h2, if_neg h3, if_neg h4] at h
  (repeat' split at h) <;> (try simp at h) <;> omega

def dropSeq : Nat → Code → Code
  | 0, c => c
  | n + 1, .seq _ b => dropSeq n b
  | _, c => c
noncomputable def rhTail (n : Nat) : Code := dropSeq n ((Tryd.f7.body).getD .skip)
set_option maxHeartbeats 32000000 in
set_option maxRecDepth 100000 in
theorem rh_tail2 {w wc : World} {N n c v4 v5 v7 v8 k : Nat} {ad : Addr} {l : List Int} {u13 u14 u15 u16 u17 u18 u19 u20 u21 u22 u23 u24 u25 u26 u27 u28 u29 u30 u31 u32 u33 u34 u35 u36 u37 u38 u39 u40 u41 u42 u43 u44 u45 u46 u47 u48 u49 u50 u51 u52 u53 u54 u55 u56 u57 u58 u59 u60 u61 u62 u63 u64 u65 u66 u67 u68 u69 u70 u71 u72 u73 u74 u75 u76 u77 u78 u79 u80 u81 u82 u83 u84 u85 u86 u87 u88 u89 u90 u91 u92 u93 u94 u95 u96 u97 u98 u99 u100 u101 u102 u103 u104 u105 u106 u107 u108 u109 u110 u111 u112 u113 u114 u115 u116 u117 u118 u119 u120 u121 u122 u123 u124 u125 u126 u127 u128 u129 u130 u131 u132 u133 u134 u135 u136 u137 u138 u139 u140 u141 u142 u143 u144 u145 u146 u147 u148 u149 u150 u151 u152 u153 u154 u155 u156 u157 u158 u159 u160 u161 u162 u163 u164 u165 u166 u167 u168 u169 u170 u171 u172 u173 u174 u175 u176 u177 u178 u179 u180 u181 u182 u183 u184 u185 u186 u187 u188 u189 u190 u191 u192 u193 u194 u195 u196 u197 u198 u199 u200 u201 u202 u203 u204 u205 u206 u207 u208 u209 u210 u211 u212 u213 u214 u215 u216 u217 : Value} (hc : n ≤ c) (hn : n ≤ 1000) (hn6 : 6 ≤ n) (HBY : Hid (∀ i, l.getD i 0 = (byteAt l i : Int) ∧ byteAt l i < 256)) (HBX : Hid (∀ x ∈ l, 0 ≤ x ∧ x ≤ 255)) (HNL : Hid (l.length = n)) (HL : Hid (ReadsInt w .u8 (some ad) n l)) (hlen : 48 ≤ 8 * l.length) (hv5 : v5 < 2 ^ 4) (hv7 : v7 < 2 ^ 3) (HN7 : Hid (¬ v7 = 7)) {a3 : Nat} {s3 : Bool} (X16 : Hid (Rh w N l wc a3 s3))
    (HPRE : Hid (∀ f, HdrIs l f → s3 = false ∧ a3 / 8 < l.length ∧ l.getD (a3 / 8) 0 = up8 (f8 7) 0 (l.take (a3 / 8)))) (HA8 : Hid (a3 % 8 = 0)) (ha3b : a3 ≤ 8032) :
    Code.wp Tryd.prog (rhTail 20) (bodyPost Tryd.prog Tryd.f7 (fun e w' => Below N w w' ∧ ∃ (b0 : Bool) (i1 i2 i3 i4 i5 at_ st : Int),
      e = .returned (.tuple #[.agg #[.bool b0, .int .i64 i1, .int .i64 i2, .int .i64 i3, .int .i64 i4, .int .u64 i5], .int .i64 at_, .int .i64 st]) ∧ (st = 1 → ∀ f, ¬ HdrIs l f))) ⟨List.toArray (.slice (some ad) n c :: undef :: .pointer (some ⟨N, 0, none⟩) :: .int .i64 0 :: .int .i64 0 :: .pointer (some ⟨N + 1, 0, none⟩) :: .pointer (some ⟨N + 2, 0, none⟩) :: .int .i64 v4 :: .int .i64 v5 :: .int .i64 v7 :: .int .i64 v8 :: .int .i64 k :: undef :: u13 :: u14 :: u15 :: u16 :: u17 :: u18 :: u19 :: u20 :: u21 :: u22 :: u23 :: u24 :: u25 :: u26 :: u27 :: u28 :: u29 :: u30 :: u31 :: u32 :: u33 :: u34 :: u35 :: u36 :: u37 :: u38 :: u39 :: u40 :: u41 :: u42 :: u43 :: u44 :: u45 :: u46 :: u47 :: u48 :: u49 :: u50 :: u51 :: u52 :: u53 :: u54 :: u55 :: u56 :: u57 :: u58 :: u59 :: u60 :: u61 :: u62 :: u63 :: u64 :: u65 :: u66 :: u67 :: u68 :: u69 :: u70 :: u71 :: u72 :: u73 :: u74 :: u75 :: u76 :: u77 :: u78 :: u79 :: u80 :: u81 :: u82 :: u83 :: u84 :: u85 :: u86 :: u87 :: u88 :: u89 :: u90 :: u91 :: u92 :: u93 :: u94 :: u95 :: u96 :: u97 :: u98 :: u99 :: u100 :: u101 :: u102 :: u103 :: u104 :: u105 :: u106 :: u107 :: u108 :: u109 :: u110 :: u111 :: u112 :: u113 :: u114 :: u115 :: u116 :: u117 :: u118 :: u119 :: u120 :: u121 :: u122 :: u123 :: u124 :: u125 :: u126 :: u127 :: u128 :: u129 :: u130 :: u131 :: u132 :: u133 :: u134 :: u135 :: u136 :: u137 :: u138 :: u139 :: u140 :: u141 :: u142 :: u143 :: u144 :: u145 :: u146 :: u147 :: u148 :: u149 :: u150 :: u151 :: u152 :: u153 :: u154 :: u155 :: u156 :: u157 :: u158 :: u159 :: u160 :: u161 :: u162 :: u163 :: u164 :: u165 :: u166 :: u167 :: u168 :: u169 :: u170 :: u171 :: u172 :: u173 :: u174 :: u175 :: u176 :: u177 :: u178 :: u179 :: u180 :: u181 :: u182 :: u183 :: u184 :: u185 :: u186 :: u187 :: u188 :: u189 :: u190 :: u191 :: u192 :: u193 :: u194 :: u195 :: u196 :: u197 :: u198 :: u199 :: u200 :: u201 :: u202 :: u203 :: u204 :: u205 :: u206 :: u207 :: u208 :: u209 :: u210 :: u211 :: u212 :: u213 :: u214 :: u215 :: u216 :: u217 :: []), []⟩ wc := by
  conv => arg 2; whnf
  have hv7' : v7 < 7 := by have := HN7.out; omega
  obtain ⟨bt, hbt⟩ : ∃ bt : Nat, ([.int .i64 0, .int .i64 8, .int .i64 12, .int .i64 0, .int .i64 16, .int .i64 20, .int .i64 24] : List Value)[v7]'(by simp; omega) = .int .i64 (bt : Nat) := by
    rcases (by omega : v7 = 0 ∨ v7 = 1 ∨ v7 = 2 ∨ v7 = 3 ∨ v7 = 4 ∨ v7 = 5 ∨ v7 = 6) with rfl | rfl | rfl | rfl | rfl | rfl | rfl
    · exact ⟨0, rfl⟩
    · exact ⟨8, rfl⟩
    · exact ⟨12, rfl⟩
    · exact ⟨0, rfl⟩
    · exact ⟨16, rfl⟩
    · exact ⟨20, rfl⟩
    · exact ⟨24, rfl⟩
  have hst2 := rh_below X16.out ((Below.refl wc.heap.size wc).alloc (Nat.le_refl _) (.cells #[.int .i64 0, .int .i64 8, .int .i64 12, .int .i64 0, .int .i64 16, .int .i64 20, .int .i64 24] 3))
  obtain ⟨b0, i1, i2, i3, i4, i5, hk⟩ := hst2.hd
  have c4 : (wc.alloc (.cells #[.int .i64 0, .int .i64 8, .int .i64 12, .int .i64 0, .int .i64 16, .int .i64 20, .int .i64 24] 3)).cell? ⟨N + 1, 4, none⟩ = some (.int .i64 i4) := by rw [cell_of_row _ (N + 1) 4 _ _ _ hk]; rfl
  have f4 : (wc.alloc (.cells #[.int .i64 0, .int .i64 8, .int .i64 12, .int .i64 0, .int .i64 16, .int .i64 20, .int .i64 24] 3)).frozen? ⟨N + 1, 4, none⟩ = false := by simp only [World.frozen?, hk]; rfl
  have X16b := Lib.hid hst2
  clear hk hst2
  go_upto_region 37 with fail
  have hst := rh_set4 X16b.out (bt : Nat)
  obtain ⟨w17, hw17⟩ : ∃ w17, (wc.alloc (.cells #[.int .i64 0, .int .i64 8, .int .i64 12, .int .i64 0, .int .i64 16, .int .i64 20, .int .i64 24] 3)).setCell ⟨N + 1, 4, none⟩ (.int .i64 (bt : Nat)) = w17 := ⟨_, rfl⟩
  rw [hw17] at hst ⊢
  have X17 := Lib.hid hst
  clear hst hw17 hbt c4 f4 X16 X16b
  have q1 := (rh_cells X17.out).1
  have q2 := (rh_cells X17.out).2.1
  cases hs3 : s3
  case true =>
    have hbad : ∀ f, ¬ HdrIs l f := fun f hf => by
      have := (HPRE.out f hf).1
      rw [hs3] at this; cases this
    have HBAD := Lib.hid hbad
    rw [hs3] at q2
    clear hbad hs3
    obtain ⟨b0, i1, i2, i3, i4, i5, hk⟩ := X17.out.hd
    have c0 : w17.cell? ⟨N + 1, 0, none⟩ = some (.bool b0) := by rw [cell_of_row w17 (N + 1) 0 _ _ _ hk]; rfl
    have c1 : w17.cell? ⟨N + 1, 1, none⟩ = some (.int .i64 i1) := by rw [cell_of_row w17 (N + 1) 1 _ _ _ hk]; rfl
    have c2 : w17.cell? ⟨N + 1, 2, none⟩ = some (.int .i64 i2) := by rw [cell_of_row w17 (N + 1) 2 _ _ _ hk]; rfl
    have c3 : w17.cell? ⟨N + 1, 3, none⟩ = some (.int .i64 i3) := by rw [cell_of_row w17 (N + 1) 3 _ _ _ hk]; rfl
    have c4 : w17.cell? ⟨N + 1, 4, none⟩ = some (.int .i64 i4) := by rw [cell_of_row w17 (N + 1) 4 _ _ _ hk]; rfl
    have c5 : w17.cell? ⟨N + 1, 5, none⟩ = some (.int .u64 i5) := by rw [cell_of_row w17 (N + 1) 5 _ _ _ hk]; rfl
    have hr := X17.out.res
    have r0 : w17.cell? ⟨N, 0, none⟩ = some (.bool false) := by rw [cell_of_row w17 N 0 _ _ _ hr]; rfl
    have s0 : w17.frozen? ⟨N, 0, none⟩ = false := by simp [World.frozen?, hr]
    have r1 : w17.cell? ⟨N, 1, none⟩ = some (.int .i64 0) := by rw [cell_of_row w17 N 1 _ _ _ hr]; rfl
    have s1 : w17.frozen? ⟨N, 1, none⟩ = false := by simp [World.frozen?, hr]
    have r2 : w17.cell? ⟨N, 2, none⟩ = some (.int .i64 0) := by rw [cell_of_row w17 N 2 _ _ _ hr]; rfl
    have s2 : w17.frozen? ⟨N, 2, none⟩ = false := by simp [World.frozen?, hr]
    have r3 : w17.cell? ⟨N, 3, none⟩ = some (.int .i64 0) := by rw [cell_of_row w17 N 3 _ _ _ hr]; rfl
    have s3 : w17.frozen? ⟨N, 3, none⟩ = false := by simp [World.frozen?, hr]
    have r4 : w17.cell? ⟨N, 4, none⟩ = some (.int .i64 0) := by rw [cell_of_row w17 N 4 _ _ _ hr]; rfl
    have s4 : w17.frozen? ⟨N, 4, none⟩ = false := by simp [World.frozen?, hr]
    have r5 : w17.cell? ⟨N, 5, none⟩ = some (.int .u64 0) := by rw [cell_of_row w17 N 5 _ _ _ hr]; rfl
    have s5 : w17.frozen? ⟨N, 5, none⟩ = false := by simp [World.frozen?, hr]
    go_wp2_with fail
    obtain ⟨wz, hwz, hbz, t0, t1, t2, t3, t4, t5⟩ := rh_ret X17.out b0 i1 i2 i3 i4 i5
    rw [hwz]
    exact bodyPost_ret (v := .tuple #[.agg #[.bool b0, .int .i64 i1, .int .i64 i2, .int .i64 i3, .int .i64 i4, .int .u64 i5], .int .i64 0, .int .i64 1]) (by simp [results, Tryd.results7, go_sem, t0, t1, t2, t3, t4, t5]) rfl ⟨by rw [X17.out.hN] at hbz; exact hbz, b0, i1, i2, i3, i4, i5, 0, 1, rfl, fun _ => HBAD.out⟩
  case false =>
    rw [hs3] at q2 X17
    clear hs3
    obtain ⟨p, hp⟩ : ∃ p, a3 / 8 = p := ⟨_, rfl⟩
    have ep : (a3 : Int) / 8 = (p : Int) := by omega
    have HP := Lib.hid hp
    by_cases hpn : n ≤ p
    case pos =>
      have g1 : decide ((n : Int) ≤ (p : Int)) = true := by simp; omega
      have hbad : ∀ f, ¬ HdrIs l f := fun f hf => by
        have := (HPRE.out f hf).2.1
        rw [HP.out, HNL.out] at this; omega
      have HBAD := Lib.hid hbad
      clear hbad hp
      obtain ⟨b0, i1, i2, i3, i4, i5, hk⟩ := X17.out.hd
      have c0 : w17.cell? ⟨N + 1, 0, none⟩ = some (.bool b0) := by rw [cell_of_row w17 (N + 1) 0 _ _ _ hk]; rfl
      have c1 : w17.cell? ⟨N + 1, 1, none⟩ = some (.int .i64 i1) := by rw [cell_of_row w17 (N + 1) 1 _ _ _ hk]; rfl
      have c2 : w17.cell? ⟨N + 1, 2, none⟩ = some (.int .i64 i2) := by rw [cell_of_row w17 (N + 1) 2 _ _ _ hk]; rfl
      have c3 : w17.cell? ⟨N + 1, 3, none⟩ = some (.int .i64 i3) := by rw [cell_of_row w17 (N + 1) 3 _ _ _ hk]; rfl
      have c4 : w17.cell? ⟨N + 1, 4, none⟩ = some (.int .i64 i4) := by rw [cell_of_row w17 (N + 1) 4 _ _ _ hk]; rfl
      have c5 : w17.cell? ⟨N + 1, 5, none⟩ = some (.int .u64 i5) := by rw [cell_of_row w17 (N + 1) 5 _ _ _ hk]; rfl
      have hr := X17.out.res
      have r0 : w17.cell? ⟨N, 0, none⟩ = some (.bool false) := by rw [cell_of_row w17 N 0 _ _ _ hr]; rfl
      have s0 : w17.frozen? ⟨N, 0, none⟩ = false := by simp [World.frozen?, hr]
      have r1 : w17.cell? ⟨N, 1, none⟩ = some (.int .i64 0) := by rw [cell_of_row w17 N 1 _ _ _ hr]; rfl
      have s1 : w17.frozen? ⟨N, 1, none⟩ = false := by simp [World.frozen?, hr]
      have r2 : w17.cell? ⟨N, 2, none⟩ = some (.int .i64 0) := by rw [cell_of_row w17 N 2 _ _ _ hr]; rfl
      have s2 : w17.frozen? ⟨N, 2, none⟩ = false := by simp [World.frozen?, hr]
      have r3 : w17.cell? ⟨N, 3, none⟩ = some (.int .i64 0) := by rw [cell_of_row w17 N 3 _ _ _ hr]; rfl
      have s3 : w17.frozen? ⟨N, 3, none⟩ = false := by simp [World.frozen?, hr]
      have r4 : w17.cell? ⟨N, 4, none⟩ = some (.int .i64 0) := by rw [cell_of_row w17 N 4 _ _ _ hr]; rfl
      have s4 : w17.frozen? ⟨N, 4, none⟩ = false := by simp [World.frozen?, hr]
      have r5 : w17.cell? ⟨N, 5, none⟩ = some (.int .u64 0) := by rw [cell_of_row w17 N 5 _ _ _ hr]; rfl
      have s5 : w17.frozen? ⟨N, 5, none⟩ = false := by simp [World.frozen?, hr]
      go_wp2_with fail
      obtain ⟨wz, hwz, hbz, t0, t1, t2, t3, t4, t5⟩ := rh_ret X17.out b0 i1 i2 i3 i4 i5
      rw [hwz]
      exact bodyPost_ret (v := .tuple #[.agg #[.bool b0, .int .i64 i1, .int .i64 i2, .int .i64 i3, .int .i64 i4, .int .u64 i5], .int .i64 0, .int .i64 1]) (by simp [results, Tryd.results7, go_sem, t0, t1, t2, t3, t4, t5]) rfl ⟨by rw [X17.out.hN] at hbz; exact hbz, b0, i1, i2, i3, i4, i5, 0, 1, rfl, fun _ => HBAD.out⟩
    case neg =>
      have g1 : decide ((n : Int) ≤ (p : Int)) = false := by simp; omega
      have hpn2 : p < n := by omega
      clear hpn hp
      go_upto_region 39 with fail
      clear q1 q2 g1
      go_cut [197] (fun y wx => wx = w17 ∧ ∃ bb : Bool, y = .bool bb)
      case first =>
        obtain ⟨b0, i1, i2, i3, i4, i5, hk⟩ := X17.out.hd
        have c1 : w17.cell? ⟨N + 1, 1, none⟩ = some (.int .i64 i1) := by rw [cell_of_row w17 (N + 1) 1 _ _ _ hk]; rfl
        have c2 : w17.cell? ⟨N + 1, 2, none⟩ = some (.int .i64 i2) := by rw [cell_of_row w17 (N + 1) 2 _ _ _ hk]; rfl
        clear hk
        obtain ⟨z1, hz1⟩ : ∃ z1 : Bool, decide ((11 : Int) < (v5 : Int)) = z1 := ⟨_, rfl⟩
        obtain ⟨z2, hz2⟩ : ∃ z2 : Bool, (i2 == 0) = z2 := ⟨_, rfl⟩
        obtain ⟨z3, hz3⟩ : ∃ z3 : Bool, decide ((65535 : Int) < i1) = z3 := ⟨_, rfl⟩
        cases z1 <;> cases z2 <;> cases z3 <;> go_wp2_with fail
        all_goals
          go_meet
          exact ⟨rfl, _, rfl⟩
      case rest =>
        obtain ⟨rfl, bb, rfl⟩ := hcut
        cases bb
        case true =>
          obtain ⟨b0, i1, i2, i3, i4, i5, hk⟩ := X17.out.hd
          have c0 : wc.cell? ⟨N + 1, 0, none⟩ = some (.bool b0) := by rw [cell_of_row wc (N + 1) 0 _ _ _ hk]; rfl
          have c1 : wc.cell? ⟨N + 1, 1, none⟩ = some (.int .i64 i1) := by rw [cell_of_row wc (N + 1) 1 _ _ _ hk]; rfl
          have c2 : wc.cell? ⟨N + 1, 2, none⟩ = some (.int .i64 i2) := by rw [cell_of_row wc (N + 1) 2 _ _ _ hk]; rfl
          have c3 : wc.cell? ⟨N + 1, 3, none⟩ = some (.int .i64 i3) := by rw [cell_of_row wc (N + 1) 3 _ _ _ hk]; rfl
          have c4 : wc.cell? ⟨N + 1, 4, none⟩ = some (.int .i64 i4) := by rw [cell_of_row wc (N + 1) 4 _ _ _ hk]; rfl
          have c5 : wc.cell? ⟨N + 1, 5, none⟩ = some (.int .u64 i5) := by rw [cell_of_row wc (N + 1) 5 _ _ _ hk]; rfl
          have hr := X17.out.res
          have r0 : wc.cell? ⟨N, 0, none⟩ = some (.bool false) := by rw [cell_of_row wc N 0 _ _ _ hr]; rfl
          have s0 : wc.frozen? ⟨N, 0, none⟩ = false := by simp [World.frozen?, hr]
          have r1 : wc.cell? ⟨N, 1, none⟩ = some (.int .i64 0) := by rw [cell_of_row wc N 1 _ _ _ hr]; rfl
          have s1 : wc.frozen? ⟨N, 1, none⟩ = false := by simp [World.frozen?, hr]
          have r2 : wc.cell? ⟨N, 2, none⟩ = some (.int .i64 0) := by rw [cell_of_row wc N 2 _ _ _ hr]; rfl
          have s2 : wc.frozen? ⟨N, 2, none⟩ = false := by simp [World.frozen?, hr]
          have r3 : wc.cell? ⟨N, 3, none⟩ = some (.int .i64 0) := by rw [cell_of_row wc N 3 _ _ _ hr]; rfl
          have s3 : wc.frozen? ⟨N, 3, none⟩ = false := by simp [World.frozen?, hr]
          have r4 : wc.cell? ⟨N, 4, none⟩ = some (.int .i64 0) := by rw [cell_of_row wc N 4 _ _ _ hr]; rfl
          have s4 : wc.frozen? ⟨N, 4, none⟩ = false := by simp [World.frozen?, hr]
          have r5 : wc.cell? ⟨N, 5, none⟩ = some (.int .u64 0) := by rw [cell_of_row wc N 5 _ _ _ hr]; rfl
          have s5 : wc.frozen? ⟨N, 5, none⟩ = false := by simp [World.frozen?, hr]
          go_wp2_with fail
          obtain ⟨wz, hwz, hbz, t0, t1, t2, t3, t4, t5⟩ := rh_ret X17.out b0 i1 i2 i3 i4 i5
          rw [hwz]
          exact bodyPost_ret (v := .tuple #[.agg #[.bool b0, .int .i64 i1, .int .i64 i2, .int .i64 i3, .int .i64 i4, .int .u64 i5], .int .i64 0, .int .i64 2]) (by simp [results, Tryd.results7, go_sem, t0, t1, t2, t3, t4, t5]) rfl ⟨by rw [X17.out.hN] at hbz; exact hbz, b0, i1, i2, i3, i4, i5, 0, 2, rfl, fun h => absurd h (by decide)⟩
        case false =>
          have q1 := (rh_cells X17.out).1
          have hlp : (l.take p).length = p := by rw [List.length_take, HNL.out]; omega
          have hbp : ∀ x ∈ l.take p, 0 ≤ x ∧ x ≤ 255 := fun x hx => HBX.out x (List.mem_of_mem_take hx)
          obtain ⟨z, hz, hz2⟩ := sum_byte (l.take p) hbp
          have hcrc : Calls Tryd.prog 12 #[.slice (some ad) p c] wc fun e w' => e = .returned (.int .i64 z) ∧ ∃ q, w' = wc.drewN q := by
            have hrd := reads_take (HL.out.below X17.out.bel) (k := p) (by omega)
            have h := crc8_call (some ad) c (l.take p) wc (by rw [hlp]; exact hrd) (by omega) (by omega) hbp
            rw [hlp, hz] at h; exact h
          have HCRC := Lib.hid hcrc
          have HZ := Lib.hid hz
          have hpc : (p : Int) ≤ (c : Int) := by omega
          clear hcrc hz hbp hlp
          go_wp2_with fail
          refine HCRC.out.mono ?_
          rintro e w18 ⟨rfl, q6, rfl⟩
          have X18 := Lib.hid (rh_below X17.out (below_drewN (Below.refl _ _) q6))
          clear q1 X17
          go_wp2_with fail
          refine (rh_word X18.out HBY.out 8 (by decide) (by omega)).mono ?_
          rintro e w19 ⟨vs, shs, rfl, hst, hvs, hg⟩
          have X19 := Lib.hid hst
          have hvn : vs = byteAt l p := by
            have ha := HA8.out
            have hp := HP.out
            have e8 : a3 = 8 * p := by omega
            rw [(hg (by rw [HNL.out]; omega)).1, e8]
            exact num_byte l p (HBY.out p).2
          have HVN := Lib.hid hvn
          clear hst hg hvn X18
          by_cases hvz : vs = z
          case neg =>
            have g2 : ((vs : Int) != (z : Int)) = true := by simp; omega
            have hbad : ∀ f, ¬ HdrIs l f := fun f hf => by
              have h := (HPRE.out f hf).2.2
              rw [HP.out, HZ.out, (HBY.out p).1, ← HVN.out] at h
              exact hvz (by omega)
            have HBAD := Lib.hid hbad
            clear hbad hvz
            obtain ⟨b0, i1, i2, i3, i4, i5, hk⟩ := X19.out.hd
            have c0 : w19.cell? ⟨N + 1, 0, none⟩ = some (.bool b0) := by rw [cell_of_row w19 (N + 1) 0 _ _ _ hk]; rfl
            have c1 : w19.cell? ⟨N + 1, 1, none⟩ = some (.int .i64 i1) := by rw [cell_of_row w19 (N + 1) 1 _ _ _ hk]; rfl
            have c2 : w19.cell? ⟨N + 1, 2, none⟩ = some (.int .i64 i2) := by rw [cell_of_row w19 (N + 1) 2 _ _ _ hk]; rfl
            have c3 : w19.cell? ⟨N + 1, 3, none⟩ = some (.int .i64 i3) := by rw [cell_of_row w19 (N + 1) 3 _ _ _ hk]; rfl
            have c4 : w19.cell? ⟨N + 1, 4, none⟩ = some (.int .i64 i4) := by rw [cell_of_row w19 (N + 1) 4 _ _ _ hk]; rfl
            have c5 : w19.cell? ⟨N + 1, 5, none⟩ = some (.int .u64 i5) := by rw [cell_of_row w19 (N + 1) 5 _ _ _ hk]; rfl
            have hr := X19.out.res
            have r0 : w19.cell? ⟨N, 0, none⟩ = some (.bool false) := by rw [cell_of_row w19 N 0 _ _ _ hr]; rfl
            have s0 : w19.frozen? ⟨N, 0, none⟩ = false := by simp [World.frozen?, hr]
            have r1 : w19.cell? ⟨N, 1, none⟩ = some (.int .i64 0) := by rw [cell_of_row w19 N 1 _ _ _ hr]; rfl
            have s1 : w19.frozen? ⟨N, 1, none⟩ = false := by simp [World.frozen?, hr]
            have r2 : w19.cell? ⟨N, 2, none⟩ = some (.int .i64 0) := by rw [cell_of_row w19 N 2 _ _ _ hr]; rfl
            have s2 : w19.frozen? ⟨N, 2, none⟩ = false := by simp [World.frozen?, hr]
            have r3 : w19.cell? ⟨N, 3, none⟩ = some (.int .i64 0) := by rw [cell_of_row w19 N 3 _ _ _ hr]; rfl
            have s3 : w19.frozen? ⟨N, 3, none⟩ = false := by simp [World.frozen?, hr]
            have r4 : w19.cell? ⟨N, 4, none⟩ = some (.int .i64 0) := by rw [cell_of_row w19 N 4 _ _ _ hr]; rfl
            have s4 : w19.frozen? ⟨N, 4, none⟩ = false := by simp [World.frozen?, hr]
            have r5 : w19.cell? ⟨N, 5, none⟩ = some (.int .u64 0) := by rw [cell_of_row w19 N 5 _ _ _ hr]; rfl
            have s5 : w19.frozen? ⟨N, 5, none⟩ = false := by simp [World.frozen?, hr]
            go_wp2_with fail
            obtain ⟨wz, hwz, hbz, t0, t1, t2, t3, t4, t5⟩ := rh_ret X19.out b0 i1 i2 i3 i4 i5
            rw [hwz]
            exact bodyPost_ret (v := .tuple #[.agg #[.bool b0, .int .i64 i1, .int .i64 i2, .int .i64 i3, .int .i64 i4, .int .u64 i5], .int .i64 0, .int .i64 1]) (by simp [results, Tryd.results7, go_sem, t0, t1, t2, t3, t4, t5]) rfl ⟨by rw [X19.out.hN] at hbz; exact hbz, b0, i1, i2, i3, i4, i5, 0, 1, rfl, fun _ => HBAD.out⟩
          case pos =>
            have g2 : ((vs : Int) != (z : Int)) = false := by simp; omega
            clear hvz
            obtain ⟨b0, i1, i2, i3, i4, i5, hk⟩ := X19.out.hd
            have c0 : w19.cell? ⟨N + 1, 0, none⟩ = some (.bool b0) := by rw [cell_of_row w19 (N + 1) 0 _ _ _ hk]; rfl
            have c1 : w19.cell? ⟨N + 1, 1, none⟩ = some (.int .i64 i1) := by rw [cell_of_row w19 (N + 1) 1 _ _ _ hk]; rfl
            have c2 : w19.cell? ⟨N + 1, 2, none⟩ = some (.int .i64 i2) := by rw [cell_of_row w19 (N + 1) 2 _ _ _ hk]; rfl
            have c3 : w19.cell? ⟨N + 1, 3, none⟩ = some (.int .i64 i3) := by rw [cell_of_row w19 (N + 1) 3 _ _ _ hk]; rfl
            have c4 : w19.cell? ⟨N + 1, 4, none⟩ = some (.int .i64 i4) := by rw [cell_of_row w19 (N + 1) 4 _ _ _ hk]; rfl
            have c5 : w19.cell? ⟨N + 1, 5, none⟩ = some (.int .u64 i5) := by rw [cell_of_row w19 (N + 1) 5 _ _ _ hk]; rfl
            have hr := X19.out.res
            have r0 : w19.cell? ⟨N, 0, none⟩ = some (.bool false) := by rw [cell_of_row w19 N 0 _ _ _ hr]; rfl
            have s0 : w19.frozen? ⟨N, 0, none⟩ = false := by simp [World.frozen?, hr]
            have r1 : w19.cell? ⟨N, 1, none⟩ = some (.int .i64 0) := by rw [cell_of_row w19 N 1 _ _ _ hr]; rfl
            have s1 : w19.frozen? ⟨N, 1, none⟩ = false := by simp [World.frozen?, hr]
            have r2 : w19.cell? ⟨N, 2, none⟩ = some (.int .i64 0) := by rw [cell_of_row w19 N 2 _ _ _ hr]; rfl
            have s2 : w19.frozen? ⟨N, 2, none⟩ = false := by simp [World.frozen?, hr]
            have r3 : w19.cell? ⟨N, 3, none⟩ = some (.int .i64 0) := by rw [cell_of_row w19 N 3 _ _ _ hr]; rfl
            have s3 : w19.frozen? ⟨N, 3, none⟩ = false := by simp [World.frozen?, hr]
            have r4 : w19.cell? ⟨N, 4, none⟩ = some (.int .i64 0) := by rw [cell_of_row w19 N 4 _ _ _ hr]; rfl
            have s4 : w19.frozen? ⟨N, 4, none⟩ = false := by simp [World.frozen?, hr]
            have r5 : w19.cell? ⟨N, 5, none⟩ = some (.int .u64 0) := by rw [cell_of_row w19 N 5 _ _ _ hr]; rfl
            have s5 : w19.frozen? ⟨N, 5, none⟩ = false := by simp [World.frozen?, hr]
            have q1 := (rh_cells X19.out).1
            obtain ⟨a4, ha4⟩ : ∃ a4, a3 + 8 = a4 := ⟨_, rfl⟩
            rw [ha4] at q1
            obtain ⟨p4, hp4⟩ : ∃ p4, a4 / 8 = p4 := ⟨_, rfl⟩
            have ep4 : (a4 : Int) / 8 = (p4 : Int) := by omega
            have hb4 : a4 ≤ 9000 := by omega
            clear hp4
            go_upto_region 44 with fail
            go_region
            go_wp2_with fail
            obtain ⟨wz, hwz, hbz, t0, t1, t2, t3, t4, t5⟩ := rh_ret X19.out b0 i1 i2 i3 i4 i5
            rw [hwz]
            exact bodyPost_ret (v := .tuple #[.agg #[.bool b0, .int .i64 i1, .int .i64 i2, .int .i64 i3, .int .i64 i4, .int .u64 i5], .int .i64 p4, .int .i64 0]) (by simp [results, Tryd.results7, go_sem, t0, t1, t2, t3, t4, t5]) rfl ⟨by rw [X19.out.hN] at hbz; exact hbz.drew, b0, i1, i2, i3, i4, i5, p4, 0, rfl, fun h => absurd h (by decide)⟩
set_option maxHeartbeats 32000000 in
set_option maxRecDepth 100000 in
theorem rh_tail1 {w wc : World} {N n c v4 v5 v7 v8 k : Nat} {ad : Addr} {l : List Int} {u13 u14 u15 u16 u17 u18 u19 u20 u21 u22 u23 u24 u25 u26 u27 u28 u29 u30 u31 u32 u33 u34 u35 u36 u37 u38 u39 u40 u41 u42 u43 u44 u45 u46 u47 u48 u49 u50 u51 u52 u53 u54 u55 u56 u57 u58 u59 u60 u61 u62 u63 u64 u65 u66 u67 u68 u69 u70 u71 u72 u73 u74 u75 u76 u77 u78 u79 u80 u81 u82 u83 u84 u85 u86 u87 u88 u89 u90 u91 u92 u93 u94 u95 u96 u97 u98 u99 u100 u101 u102 u103 u104 u105 u106 u107 u108 u109 u110 u111 u112 u113 u114 u115 u116 u117 u118 u119 u120 u121 u122 u123 u124 u125 u126 u127 u128 u129 u130 u131 u132 u133 u134 u135 u136 u137 u138 u139 u140 u141 u142 u143 u144 u145 u146 u147 u148 u149 u150 u151 u152 u153 u154 u155 u156 u157 u158 u159 u160 u161 u162 u163 u164 u165 u166 u167 u168 u169 u170 u171 u172 u173 u174 u175 u176 u177 u178 u179 u180 u181 u182 u183 u184 u185 u186 u187 u188 u189 u190 u191 u192 u193 u194 u195 u196 u197 u198 u199 u200 u201 u202 u203 u204 u205 u206 u207 u208 u209 u210 u211 u212 u213 u214 u215 u216 u217 : Value} (hc : n ≤ c) (hn : n ≤ 1000) (hn6 : 6 ≤ n) (HBY : Hid (∀ i, l.getD i 0 = (byteAt l i : Int) ∧ byteAt l i < 256)) (HBX : Hid (∀ x ∈ l, 0 ≤ x ∧ x ≤ 255)) (HNL : Hid (l.length = n)) (HL : Hid (ReadsInt w .u8 (some ad) n l)) (hlen : 48 ≤ 8 * l.length) (hv4 : v4 < 2 ^ 4) (hv5 : v5 < 2 ^ 4) (hv7 : v7 < 2 ^ 3) (HV4 : Hid (v4 = num l 16 4)) (HV5 : Hid (v5 = num l 20 4)) (HNV : Hid (¬ v5 = 15)) (HN7 : Hid (¬ v7 = 7)) (hkl2 : k ≤ n - 4) {v : Nat} (X11 : Hid (Rh w N l wc 32 false)) (HG : Hid (GoodAt l 4 v k)) :
    Code.wp Tryd.prog (rhTail 16) (bodyPost Tryd.prog Tryd.f7 (fun e w' => Below N w w' ∧ ∃ (b0 : Bool) (i1 i2 i3 i4 i5 at_ st : Int),
      e = .returned (.tuple #[.agg #[.bool b0, .int .i64 i1, .int .i64 i2, .int .i64 i3, .int .i64 i4, .int .u64 i5], .int .i64 at_, .int .i64 st]) ∧ (st = 1 → ∀ f, ¬ HdrIs l f))) ⟨List.toArray (.slice (some ad) n c :: undef :: .pointer (some ⟨N, 0, none⟩) :: .int .i64 0 :: .int .i64 0 :: .pointer (some ⟨N + 1, 0, none⟩) :: .pointer (some ⟨N + 2, 0, none⟩) :: .int .i64 v4 :: .int .i64 v5 :: .int .i64 v7 :: .int .i64 v8 :: .int .i64 k :: undef :: u13 :: u14 :: u15 :: u16 :: u17 :: u18 :: u19 :: u20 :: u21 :: u22 :: u23 :: u24 :: u25 :: u26 :: u27 :: u28 :: u29 :: u30 :: u31 :: u32 :: u33 :: u34 :: u35 :: u36 :: u37 :: u38 :: u39 :: u40 :: u41 :: u42 :: u43 :: u44 :: u45 :: u46 :: u47 :: u48 :: u49 :: u50 :: u51 :: u52 :: u53 :: u54 :: u55 :: u56 :: u57 :: u58 :: u59 :: u60 :: u61 :: u62 :: u63 :: u64 :: u65 :: u66 :: u67 :: u68 :: u69 :: u70 :: u71 :: u72 :: u73 :: u74 :: u75 :: u76 :: u77 :: u78 :: u79 :: u80 :: u81 :: u82 :: u83 :: u84 :: u85 :: u86 :: u87 :: u88 :: u89 :: u90 :: u91 :: u92 :: u93 :: u94 :: u95 :: u96 :: u97 :: u98 :: u99 :: u100 :: u101 :: u102 :: u103 :: u104 :: u105 :: u106 :: u107 :: u108 :: u109 :: u110 :: u111 :: u112 :: u113 :: u114 :: u115 :: u116 :: u117 :: u118 :: u119 :: u120 :: u121 :: u122 :: u123 :: u124 :: u125 :: u126 :: u127 :: u128 :: u129 :: u130 :: u131 :: u132 :: u133 :: u134 :: u135 :: u136 :: u137 :: u138 :: u139 :: u140 :: u141 :: u142 :: u143 :: u144 :: u145 :: u146 :: u147 :: u148 :: u149 :: u150 :: u151 :: u152 :: u153 :: u154 :: u155 :: u156 :: u157 :: u158 :: u159 :: u160 :: u161 :: u162 :: u163 :: u164 :: u165 :: u166 :: u167 :: u168 :: u169 :: u170 :: u171 :: u172 :: u173 :: u174 :: u175 :: u176 :: u177 :: u178 :: u179 :: u180 :: u181 :: u182 :: u183 :: u184 :: u185 :: u186 :: u187 :: u188 :: u189 :: u190 :: u191 :: u192 :: u193 :: u194 :: u195 :: u196 :: u197 :: u198 :: u199 :: u200 :: u201 :: u202 :: u203 :: u204 :: u205 :: u206 :: u207 :: u208 :: u209 :: u210 :: u211 :: u212 :: u213 :: u214 :: u215 :: u216 :: u217 :: []), []⟩ wc := by
  conv => arg 2; whnf
  have q1 := (rh_cells X11.out).1
  have q3 := (rh_cells X11.out).2.2
  obtain ⟨k8, hk8⟩ : ∃ k8, 8 * k = k8 := ⟨_, rfl⟩
  have ek8 : (8 : Int) * (k : Int) = (k8 : Int) := by omega
  obtain ⟨a1, ha1⟩ : ∃ a1, 32 + k8 = a1 := ⟨_, rfl⟩
  have ea1 : (32 : Int) + (k8 : Int) = (a1 : Int) := by omega
  have ha1l : a1 ≤ 8 * l.length := by rw [HNL.out]; omega
  have HA1 := Lib.hid (show a1 = 32 + 8 * k by omega)
  have ha1b : a1 ≤ 8000 := by rw [HNL.out] at ha1l; omega
  go_upto_region 23 with fail
  obtain ⟨w12, hw12⟩ : ∃ w12, wc.setCell ⟨N + 2, 1, none⟩ (.int .i64 a1) = w12 := ⟨_, rfl⟩
  have hst := rh_at X11.out a1 (fun h => absurd h (by omega))
  rw [hw12] at hst ⊢
  have X12 := Lib.hid hst
  clear hst hw12 q1 q3 X11 hk8 ek8 ha1 ea1
  have hv4 : v4 < 16 := by omega
  go_wp2_with fail
  refine (sizeOf_call v4 hv4 _).mono ?_
  rintro e w13 ⟨rfl, q5, rfl⟩
  obtain ⟨b0, i1, i2, i3, i4, i5, hk⟩ := X12.out.hd
  have c1 : w12.cell? ⟨N + 1, 1, none⟩ = some (.int .i64 i1) := by rw [cell_of_row w12 (N + 1) 1 _ _ _ hk]; rfl
  have f1 : w12.frozen? ⟨N + 1, 1, none⟩ = false := by simp [World.frozen?, hk]
  go_upto_block 0 with fail
  have hst := rh_set1 (rh_below X12.out (below_drewN (Below.refl _ _) q5)) (szOf v4 : Nat)
  obtain ⟨w14, hw14⟩ : ∃ w14, (w12.drewN q5).setCell ⟨N + 1, 1, none⟩ (.int .i64 (szOf v4 : Nat)) = w14 := ⟨_, rfl⟩
  rw [hw14] at hst ⊢
  have X14 := Lib.hid hst
  clear hst hw14 c1 f1 hk X12
  go_cut [11] (fun y wx => y = .int .i64 k ∧ ∃ (a2 : Nat) (s2 : Bool), Rh w N l wx a2 s2 ∧ (a2 = a1 ∨ a2 = a1 + 8 ∨ a2 = a1 + 16) ∧ ∀ s a, bsAt l a1 v4 = some (s, a) → a = a2 ∧ s2 = false)
  case first =>
    by_cases h6 : v4 = 6
    case pos =>
      have b6 : ((v4 : Int) == 6) = true := by rw [h6]; rfl
      have H6 := Lib.hid h6
      clear h6
      go_wp2_with fail
      refine (rh_word X14.out HBY.out 8 (by decide) (by omega)).mono ?_
      rintro e wa ⟨vs, shs, rfl, hst, hvs, hg⟩
      have XA := Lib.hid hst
      have HG2 := Lib.hid hg
      clear hst hg
      obtain ⟨b0, i1, i2, i3, i4, i5, hk⟩ := XA.out.hd
      have c1 : wa.cell? ⟨N + 1, 1, none⟩ = some (.int .i64 i1) := by rw [cell_of_row wa (N + 1) 1 _ _ _ hk]; rfl
      have f1 : wa.frozen? ⟨N + 1, 1, none⟩ = false := by simp [World.frozen?, hk]
      clear hk
      go_wp2_with fail
      go_meet
      refine ⟨rfl, a1 + 8, shs, rh_set1 XA.out _, by omega, fun s a h => ?_⟩
      rw [H6.out] at h
      obtain ⟨h1, h2⟩ := bs6 h
      exact ⟨h1, (HG2.out h2).2⟩
    case neg =>
      have b6 : ((v4 : Int) == 6) = false := by simp; omega
      by_cases h7 : v4 = 7
      case pos =>
        have b7 : ((v4 : Int) == 7) = true := by rw [h7]; rfl
        have H7 := Lib.hid h7
        clear h7 h6
        go_wp2_with fail
        refine (rh_word X14.out HBY.out 16 (by decide) (by omega)).mono ?_
        rintro e wa ⟨vs, shs, rfl, hst, hvs, hg⟩
        have XA := Lib.hid hst
        have HG2 := Lib.hid hg
        clear hst hg
        obtain ⟨b0, i1, i2, i3, i4, i5, hk⟩ := XA.out.hd
        have c1 : wa.cell? ⟨N + 1, 1, none⟩ = some (.int .i64 i1) := by rw [cell_of_row wa (N + 1) 1 _ _ _ hk]; rfl
        have f1 : wa.frozen? ⟨N + 1, 1, none⟩ = false := by simp [World.frozen?, hk]
        clear hk
        go_wp2_with fail
        go_meet
        refine ⟨rfl, a1 + 16, shs, rh_set1 XA.out _, by omega, fun s a h => ?_⟩
        rw [H7.out] at h
        obtain ⟨h1, h2⟩ := bs7 h
        exact ⟨h1, (HG2.out h2).2⟩
      case neg =>
        have b7 : ((v4 : Int) == 7) = false := by simp; omega
        have H6 := Lib.hid h6
        have H7 := Lib.hid h7
        clear h6 h7
        go_wp2_with fail
        go_meet
        exact ⟨rfl, a1, false, X14.out, by omega, fun s a h => ⟨bsO H6.out H7.out h, rfl⟩⟩
  case rest =>
    obtain ⟨rfl, a2, s2, hst, ha2, hbs⟩ := hcut
    have X15 := Lib.hid hst
    have HBS := Lib.hid hbs
    clear hst hbs X14
    have hv5 : v5 < 16 := by omega
    go_upto_block 1 with fail
    go_cut [11] (fun y wx => y = .int .i64 k ∧ ∃ (a3 : Nat) (s3 : Bool), Rh w N l wx a3 s3 ∧ (a3 = a2 ∨ a3 = a2 + 8 ∨ a3 = a2 + 16) ∧ ∀ s a, srAt l a2 v5 = some (s, a) → a = a3 ∧ s3 = s2)
    case first =>
      by_cases h12 : v5 = 12
      case pos =>
        have g12 : ((v5 : Int) == 12) = true := by rw [h12]; rfl
        have HC := Lib.hid h12
        clear h12
        go_wp2_with fail
        refine (rh_word X15.out HBY.out 8 (by decide) (by omega)).mono ?_
        rintro e wa ⟨vs, shs, rfl, hst, hvs, hg⟩
        have XA := Lib.hid hst
        have HG2 := Lib.hid hg
        clear hst hg
        obtain ⟨b0, i1, i2, i3, i4, i5, hk⟩ := XA.out.hd
        have c2 : wa.cell? ⟨N + 1, 2, none⟩ = some (.int .i64 i2) := by rw [cell_of_row wa (N + 1) 2 _ _ _ hk]; rfl
        have f2 : wa.frozen? ⟨N + 1, 2, none⟩ = false := by simp [World.frozen?, hk]
        clear hk
        go_wp2_with fail
        go_meet
        refine ⟨rfl, a2 + 8, shs, rh_set2 XA.out _, by omega, fun s a h => ?_⟩
        rw [HC.out] at h
        obtain ⟨h1, h2⟩ := sr12 h
        exact ⟨h1, (HG2.out h2).2⟩
      case neg =>
        have g12 : ((v5 : Int) == 12) = false := by simp; omega
        by_cases h13 : v5 = 13
        case pos =>
          have g13 : ((v5 : Int) == 13) = true := by rw [h13]; rfl
          have HC := Lib.hid h13
          clear h12 h13
          go_wp2_with fail
          refine (rh_word X15.out HBY.out 16 (by decide) (by omega)).mono ?_
          rintro e wa ⟨vs, shs, rfl, hst, hvs, hg⟩
          have XA := Lib.hid hst
          have HG2 := Lib.hid hg
          clear hst hg
          obtain ⟨b0, i1, i2, i3, i4, i5, hk⟩ := XA.out.hd
          have c2 : wa.cell? ⟨N + 1, 2, none⟩ = some (.int .i64 i2) := by rw [cell_of_row wa (N + 1) 2 _ _ _ hk]; rfl
          have f2 : wa.frozen? ⟨N + 1, 2, none⟩ = false := by simp [World.frozen?, hk]
          clear hk
          go_wp2_with fail
          go_meet
          refine ⟨rfl, a2 + 16, shs, rh_set2 XA.out _, by omega, fun s a h => ?_⟩
          rw [HC.out] at h
          obtain ⟨h1, h2⟩ := sr13 h
          exact ⟨h1, (HG2.out h2).2⟩
        case neg =>
          have g13 : ((v5 : Int) == 13) = false := by simp; omega
          by_cases h14 : v5 = 14
          case pos =>
            have g14 : ((v5 : Int) == 14) = true := by rw [h14]; rfl
            have HC := Lib.hid h14
            clear h12 h13 h14
            go_wp2_with fail
            refine (rh_word X15.out HBY.out 16 (by decide) (by omega)).mono ?_
            rintro e wa ⟨vs, shs, rfl, hst, hvs, hg⟩
            have XA := Lib.hid hst
            have HG2 := Lib.hid hg
            clear hst hg
            obtain ⟨b0, i1, i2, i3, i4, i5, hk⟩ := XA.out.hd
            have c2 : wa.cell? ⟨N + 1, 2, none⟩ = some (.int .i64 i2) := by rw [cell_of_row wa (N + 1) 2 _ _ _ hk]; rfl
            have f2 : wa.frozen? ⟨N + 1, 2, none⟩ = false := by simp [World.frozen?, hk]
            clear hk
            go_wp2_with fail
            go_meet
            refine ⟨rfl, a2 + 16, shs, rh_set2 XA.out _, by omega, fun s a h => ?_⟩
            rw [HC.out] at h
            obtain ⟨h1, h2⟩ := sr14 h
            exact ⟨h1, (HG2.out h2).2⟩
          case neg =>
            have g14 : ((v5 : Int) == 14) = false := by simp; omega
            have h15 : ¬ v5 = 15 := HNV.out
            have hv12 : v5 < 12 := by omega
            have H12 := Lib.hid h12
            have H13 := Lib.hid h13
            have H14 := Lib.hid h14
            clear h12 h13 h14 h15
            go_wp2_with fail
            refine (rates_call _).mono ?_
            rintro e w16 ⟨x7, rfl, hO, hB⟩
            obtain ⟨A7, c7, rfl, hR7⟩ := own_reads hO
            have hst := rh_below X15.out hB
            obtain ⟨b0, i1, i2, i3, i4, i5, hk⟩ := hst.hd
            have c2 : w16.cell? ⟨N + 1, 2, none⟩ = some (.int .i64 i2) := by rw [cell_of_row w16 (N + 1) 2 _ _ _ hk]; rfl
            have f2 : w16.frozen? ⟨N + 1, 2, none⟩ = false := by simp [World.frozen?, hk]
            obtain ⟨ad7, rfl, cell7⟩ := hR7.2.2 (by omega)
            obtain ⟨r, hr⟩ : ∃ r, rateTab.getD v5 0 = r := ⟨_, rfl⟩
            have e7 : w16.cell? (ad7.add v5) = some (.int .i64 r) := by
              rw [cell7 v5 hv12, ← hr]
              have key : ∀ i : Fin 12, (rateTab.map fun x : Nat => (x : Int)).getD i.val 0 = ((rateTab.getD i.val 0 : Nat) : Int) := by decide
              rw [key ⟨v5, hv12⟩]
            have X16 := Lib.hid hst
            clear hst hO hB hR7 cell7 hr hk
            go_wp2_with fail
            go_meet
            exact ⟨rfl, a2, s2, rh_set2 X16.out _, by omega, fun s a h => ⟨srO H12.out H13.out H14.out h, rfl⟩⟩
    case rest =>
      obtain ⟨rfl, a3, s3, hst, ha3, hsr⟩ := hcut
      rename_i hKK
      have X16 := Lib.hid hst
      have hpre : ∀ f, HdrIs l f → s3 = false ∧ a3 / 8 < l.length ∧ l.getD (a3 / 8) 0 = up8 (f8 7) 0 (l.take (a3 / 8)) := fun f hf => by
        obtain ⟨_, at2, at3, h1, h2, h3, h4⟩ := hf.at4 (Or.inr HG.out)
        rw [← HA1.out, ← HV4.out] at h1
        obtain ⟨e1, e2⟩ := HBS.out _ _ h1
        rw [e1, ← HV5.out] at h2
        obtain ⟨e3, e4⟩ := hsr _ _ h2
        rw [e3] at h3 h4
        exact ⟨e4.trans e2, h3, h4⟩
      have HPRE := Lib.hid hpre
      have ha8 : a3 % 8 = 0 := by have := HA1.out; omega
      have ha3b : a3 ≤ 8032 := by omega
      refine hKK _ _ ?_
      exact rh_tail2 hc hn hn6 HBY HBX HNL HL hlen hv5 hv7 HN7 X16 HPRE (Lib.hid ha8) ha3b
set_option maxHeartbeats 32000000 in
set_option maxRecDepth 100000 in
theorem read_head (A : Option Addr) (n c : Nat) (l : List Int) (w : World) (hl : ReadsInt w .u8 A n l) (hc : n ≤ c) (hn : n ≤ 1000) (hn6 : 6 ≤ n) (hbytes : ∀ x ∈ l, 0 ≤ x ∧ x ≤ 255) :
    Calls Tryd.prog 7 #[.slice A n c] w fun e w' => Below w.heap.size w w' ∧ ∃ (b0 : Bool) (i1 i2 i3 i4 i5 at_ st : Int),
      e = .returned (.tuple #[.agg #[.bool b0, .int .i64 i1, .int .i64 i2, .int .i64 i3, .int .i64 i4, .int .u64 i5], .int .i64 at_, .int .i64 st]) ∧ (st = 1 → ∀ f, ¬ HdrIs l f) := by
  have HL := Lib.hid hl
  have HBY := Lib.hid (fun i => bytes_at hbytes i)
  have HBX := Lib.hid hbytes
  have hnl : l.length = n := hl.1
  have HNL := Lib.hid hnl
  clear hl hbytes hnl
  obtain ⟨ad, hA, _⟩ := HL.out.2.2 (by omega)
  subst hA
  obtain ⟨N, hN⟩ : ∃ N, w.heap.size = N := ⟨_, rfl⟩
  rw [hN]
  go_enter Tryd.func7, Tryd.ntmps7
  go_wp2_with fail
  obtain ⟨w1, hw1⟩ : ∃ w1, ((w.alloc (.cells #[.bool false, .int .i64 0, .int .i64 0, .int .i64 0, .int .i64 0, .int .u64 0] 29)).alloc (.cells #[.bool false, .int .i64 0, .int .i64 0, .int .i64 0, .int .i64 0, .int .u64 0] 29)).alloc (.cells #[.slice (some ad) n c, .int .i64 0, .bool false] 58) = w1 := ⟨_, rfl⟩
  rw [show N + 1 + 1 = N + 2 from rfl, hw1]
  have hst : Rh w N l w1 0 false := by
    have hsa : (w.alloc (.cells #[.bool false, .int .i64 0, .int .i64 0, .int .i64 0, .int .i64 0, .int .u64 0] 29)).heap.size = N + 1 := by rw [World.size_alloc, hN]
    have hsb : ((w.alloc (.cells #[.bool false, .int .i64 0, .int .i64 0, .int .i64 0, .int .i64 0, .int .u64 0] 29)).alloc (.cells #[.bool false, .int .i64 0, .int .i64 0, .int .i64 0, .int .i64 0, .int .u64 0] 29)).heap.size = N + 2 := by rw [World.size_alloc, hsa]
    refine ⟨hN, ⟨some ad, c, ?_, by omega, Kd.C_of_reads (h1 := fun _ => rfl) (readsInt_of.1 (by rw [HNL.out]; exact HL.out))⟩, ⟨false, 0, 0, 0, 0, 0, ?_⟩, ?_, ?_, by omega⟩
    · rw [← hw1, ← hsb, HNL.out]; exact heap_alloc_new _ _
    · rw [← hw1, Below.heap_alloc _ _ _ (by rw [hsb]; omega), ← hsa]; exact heap_alloc_new _ _
    · rw [← hw1, Below.heap_alloc _ _ _ (by rw [hsb]; omega), Below.heap_alloc _ _ _ (by rw [hsa]; omega), ← hN]; exact heap_alloc_new _ _
    · rw [← hw1]; exact ((((Below.refl _ _).alloc (by omega) _).alloc (by rw [hsa]; omega) _).alloc (by rw [hsb]; omega) _)
  have X1 := Lib.hid hst
  clear hst hw1 hN
  refine (rh_word X1.out HBY.out 15 (by decide) (by decide)).mono ?_
  rintro e w2 ⟨v1, sh1, rfl, hst, hv1, hg1⟩
  have X2 := Lib.hid hst
  have HG1 := Lib.hid hg1
  have q2 := (rh_cells X2.out).2.1
  clear hst hg1 X1
  by_cases hv : v1 = 32764
  case neg =>
    have e1 : ((v1 : Int) != 32764) = true := by simp; omega
    have hbad : ∀ f, ¬ HdrIs l f := fun f hf => by
      have h := hdr32 hf
      exact hv ((HG1.out (by omega)).1.trans h.2)
    have HBAD := Lib.hid hbad
    clear hv hbad
    obtain ⟨b0, i1, i2, i3, i4, i5, hk⟩ := X2.out.hd
    have c0 : w2.cell? ⟨N + 1, 0, none⟩ = some (.bool b0) := by rw [cell_of_row w2 (N + 1) 0 _ _ _ hk]; rfl
    have c1 : w2.cell? ⟨N + 1, 1, none⟩ = some (.int .i64 i1) := by rw [cell_of_row w2 (N + 1) 1 _ _ _ hk]; rfl
    have c2 : w2.cell? ⟨N + 1, 2, none⟩ = some (.int .i64 i2) := by rw [cell_of_row w2 (N + 1) 2 _ _ _ hk]; rfl
    have c3 : w2.cell? ⟨N + 1, 3, none⟩ = some (.int .i64 i3) := by rw [cell_of_row w2 (N + 1) 3 _ _ _ hk]; rfl
    have c4 : w2.cell? ⟨N + 1, 4, none⟩ = some (.int .i64 i4) := by rw [cell_of_row w2 (N + 1) 4 _ _ _ hk]; rfl
    have c5 : w2.cell? ⟨N + 1, 5, none⟩ = some (.int .u64 i5) := by rw [cell_of_row w2 (N + 1) 5 _ _ _ hk]; rfl
    have hr := X2.out.res
    have r0 : w2.cell? ⟨N, 0, none⟩ = some (.bool false) := by rw [cell_of_row w2 N 0 _ _ _ hr]; rfl
    have s0 : w2.frozen? ⟨N, 0, none⟩ = false := by simp [World.frozen?, hr]
    have r1 : w2.cell? ⟨N, 1, none⟩ = some (.int .i64 0) := by rw [cell_of_row w2 N 1 _ _ _ hr]; rfl
    have s1 : w2.frozen? ⟨N, 1, none⟩ = false := by simp [World.frozen?, hr]
    have r2 : w2.cell? ⟨N, 2, none⟩ = some (.int .i64 0) := by rw [cell_of_row w2 N 2 _ _ _ hr]; rfl
    have s2 : w2.frozen? ⟨N, 2, none⟩ = false := by simp [World.frozen?, hr]
    have r3 : w2.cell? ⟨N, 3, none⟩ = some (.int .i64 0) := by rw [cell_of_row w2 N 3 _ _ _ hr]; rfl
    have s3 : w2.frozen? ⟨N, 3, none⟩ = false := by simp [World.frozen?, hr]
    have r4 : w2.cell? ⟨N, 4, none⟩ = some (.int .i64 0) := by rw [cell_of_row w2 N 4 _ _ _ hr]; rfl
    have s4 : w2.frozen? ⟨N, 4, none⟩ = false := by simp [World.frozen?, hr]
    have r5 : w2.cell? ⟨N, 5, none⟩ = some (.int .u64 0) := by rw [cell_of_row w2 N 5 _ _ _ hr]; rfl
    have s5 : w2.frozen? ⟨N, 5, none⟩ = false := by simp [World.frozen?, hr]
    go_wp2_with fail
    obtain ⟨wz, hwz, hbz, t0, t1, t2, t3, t4, t5⟩ := rh_ret X2.out b0 i1 i2 i3 i4 i5
    rw [hwz]
    exact bodyPost_ret (v := .tuple #[.agg #[.bool b0, .int .i64 i1, .int .i64 i2, .int .i64 i3, .int .i64 i4, .int .u64 i5], .int .i64 0, .int .i64 1]) (by simp [results, Tryd.results7, go_sem, t0, t1, t2, t3, t4, t5]) rfl ⟨by rw [X2.out.hN] at hbz; exact hbz, b0, i1, i2, i3, i4, i5, 0, 1, rfl, fun _ => HBAD.out⟩
  case pos =>
    have e1 : ((v1 : Int) != 32764) = false := by simp; omega
    clear hv
    cases hsh : sh1
    case true =>
      have hbad : ∀ f, ¬ HdrIs l f := fun f hf => by
        have h := hdr32 hf
        have := (HG1.out (by omega)).2
        rw [hsh] at this; cases this
      have HBAD := Lib.hid hbad
      rw [hsh] at q2
      clear hbad hsh
      obtain ⟨b0, i1, i2, i3, i4, i5, hk⟩ := X2.out.hd
      have c0 : w2.cell? ⟨N + 1, 0, none⟩ = some (.bool b0) := by rw [cell_of_row w2 (N + 1) 0 _ _ _ hk]; rfl
      have c1 : w2.cell? ⟨N + 1, 1, none⟩ = some (.int .i64 i1) := by rw [cell_of_row w2 (N + 1) 1 _ _ _ hk]; rfl
      have c2 : w2.cell? ⟨N + 1, 2, none⟩ = some (.int .i64 i2) := by rw [cell_of_row w2 (N + 1) 2 _ _ _ hk]; rfl
      have c3 : w2.cell? ⟨N + 1, 3, none⟩ = some (.int .i64 i3) := by rw [cell_of_row w2 (N + 1) 3 _ _ _ hk]; rfl
      have c4 : w2.cell? ⟨N + 1, 4, none⟩ = some (.int .i64 i4) := by rw [cell_of_row w2 (N + 1) 4 _ _ _ hk]; rfl
      have c5 : w2.cell? ⟨N + 1, 5, none⟩ = some (.int .u64 i5) := by rw [cell_of_row w2 (N + 1) 5 _ _ _ hk]; rfl
      have hr := X2.out.res
      have r0 : w2.cell? ⟨N, 0, none⟩ = some (.bool false) := by rw [cell_of_row w2 N 0 _ _ _ hr]; rfl
      have s0 : w2.frozen? ⟨N, 0, none⟩ = false := by simp [World.frozen?, hr]
      have r1 : w2.cell? ⟨N, 1, none⟩ = some (.int .i64 0) := by rw [cell_of_row w2 N 1 _ _ _ hr]; rfl
      have s1 : w2.frozen? ⟨N, 1, none⟩ = false := by simp [World.frozen?, hr]
      have r2 : w2.cell? ⟨N, 2, none⟩ = some (.int .i64 0) := by rw [cell_of_row w2 N 2 _ _ _ hr]; rfl
      have s2 : w2.frozen? ⟨N, 2, none⟩ = false := by simp [World.frozen?, hr]
      have r3 : w2.cell? ⟨N, 3, none⟩ = some (.int .i64 0) := by rw [cell_of_row w2 N 3 _ _ _ hr]; rfl
      have s3 : w2.frozen? ⟨N, 3, none⟩ = false := by simp [World.frozen?, hr]
      have r4 : w2.cell? ⟨N, 4, none⟩ = some (.int .i64 0) := by rw [cell_of_row w2 N 4 _ _ _ hr]; rfl
      have s4 : w2.frozen? ⟨N, 4, none⟩ = false := by simp [World.frozen?, hr]
      have r5 : w2.cell? ⟨N, 5, none⟩ = some (.int .u64 0) := by rw [cell_of_row w2 N 5 _ _ _ hr]; rfl
      have s5 : w2.frozen? ⟨N, 5, none⟩ = false := by simp [World.frozen?, hr]
      go_wp2_with fail
      obtain ⟨wz, hwz, hbz, t0, t1, t2, t3, t4, t5⟩ := rh_ret X2.out b0 i1 i2 i3 i4 i5
      rw [hwz]
      exact bodyPost_ret (v := .tuple #[.agg #[.bool b0, .int .i64 i1, .int .i64 i2, .int .i64 i3, .int .i64 i4, .int .u64 i5], .int .i64 0, .int .i64 1]) (by simp [results, Tryd.results7, go_sem, t0, t1, t2, t3, t4, t5]) rfl ⟨by rw [X2.out.hN] at hbz; exact hbz, b0, i1, i2, i3, i4, i5, 0, 1, rfl, fun _ => HBAD.out⟩
    case false =>
      rw [hsh] at q2 X2
      clear hsh HG1
      have hlen : 48 ≤ 8 * l.length := by rw [HNL.out]; omega
      go_wp2_with fail
      refine (rh_word X2.out HBY.out 1 (by decide) (by decide)).mono ?_
      rintro e w3 ⟨v3, sh3, rfl, hst, hv3, hg⟩
      obtain ⟨hgn, rfl⟩ := hg (by omega)
      have X3 := Lib.hid (show Rh w N l w3 16 false from hst)
      have HV3 := Lib.hid (show v3 = num l 15 1 from hgn)
      clear hst hgn X2
      obtain ⟨b0, i1, i2, i3, i4, i5, hk⟩ := X3.out.hd
      have c0 : w3.cell? ⟨N + 1, 0, none⟩ = some (.bool b0) := by rw [cell_of_row w3 (N + 1) 0 _ _ _ hk]; rfl
      have f0 : w3.frozen? ⟨N + 1, 0, none⟩ = false := by simp [World.frozen?, hk]
      go_wp2_with fail
      refine (rh_word (rh_set0 X3.out _) HBY.out 4 (by decide) (by decide)).mono ?_
      rintro e w4 ⟨v4, sh4, rfl, hst, hv4, hg⟩
      obtain ⟨hgn, rfl⟩ := hg (by omega)
      have X4 := Lib.hid (show Rh w N l w4 20 false from hst)
      have HV4 := Lib.hid (show v4 = num l 16 4 from hgn)
      clear hst hgn X3
      clear hk c0 f0
      go_wp2_with fail
      refine (rh_word X4.out HBY.out 4 (by decide) (by decide)).mono ?_
      rintro e w5 ⟨v5, sh5, rfl, hst, hv5, hg⟩
      obtain ⟨hgn, rfl⟩ := hg (by omega)
      have X5 := Lib.hid (show Rh w N l w5 24 false from hst)
      have HV5 := Lib.hid (show v5 = num l 20 4 from hgn)
      clear hst hgn X4
      go_wp2_with fail
      refine (rh_word X5.out HBY.out 4 (by decide) (by decide)).mono ?_
      rintro e w6 ⟨v6, sh6, rfl, hst, hv6, hg⟩
      obtain ⟨hgn, rfl⟩ := hg (by omega)
      have X6 := Lib.hid (show Rh w N l w6 28 false from hst)
      have HV6 := Lib.hid (show v6 = num l 24 4 from hgn)
      clear hst hgn X5
      obtain ⟨b0, i1, i2, i3, i4, i5, hk⟩ := X6.out.hd
      have c3 : w6.cell? ⟨N + 1, 3, none⟩ = some (.int .i64 i3) := by rw [cell_of_row w6 (N + 1) 3 _ _ _ hk]; rfl
      have f3 : w6.frozen? ⟨N + 1, 3, none⟩ = false := by simp [World.frozen?, hk]
      go_wp2_with fail
      refine (rh_word (rh_set3 X6.out _) HBY.out 3 (by decide) (by decide)).mono ?_
      rintro e w7 ⟨v7, sh7, rfl, hst, hv7, hg⟩
      obtain ⟨hgn, rfl⟩ := hg (by omega)
      have X7 := Lib.hid (show Rh w N l w7 31 false from hst)
      have HV7 := Lib.hid (show v7 = num l 28 3 from hgn)
      clear hst hgn X6
      clear hk c3 f3
      go_wp2_with fail
      refine (rh_word X7.out HBY.out 1 (by decide) (by decide)).mono ?_
      rintro e w8 ⟨v8, sh8, rfl, hst, hv8, hg⟩
      obtain ⟨hgn, rfl⟩ := hg (by omega)
      have X8 := Lib.hid (show Rh w N l w8 32 false from hst)
      have HV8 := Lib.hid (show v8 = num l 31 1 from hgn)
      clear hst hgn X7
      have q8 := (rh_cells X8.out).2.1
      obtain ⟨b0, i1, i2, i3, i4, i5, hk⟩ := X8.out.hd
      have c0 : w8.cell? ⟨N + 1, 0, none⟩ = some (.bool b0) := by rw [cell_of_row w8 (N + 1) 0 _ _ _ hk]; rfl
      have c1 : w8.cell? ⟨N + 1, 1, none⟩ = some (.int .i64 i1) := by rw [cell_of_row w8 (N + 1) 1 _ _ _ hk]; rfl
      have c2 : w8.cell? ⟨N + 1, 2, none⟩ = some (.int .i64 i2) := by rw [cell_of_row w8 (N + 1) 2 _ _ _ hk]; rfl
      have c3 : w8.cell? ⟨N + 1, 3, none⟩ = some (.int .i64 i3) := by rw [cell_of_row w8 (N + 1) 3 _ _ _ hk]; rfl
      have c4 : w8.cell? ⟨N + 1, 4, none⟩ = some (.int .i64 i4) := by rw [cell_of_row w8 (N + 1) 4 _ _ _ hk]; rfl
      have c5 : w8.cell? ⟨N + 1, 5, none⟩ = some (.int .u64 i5) := by rw [cell_of_row w8 (N + 1) 5 _ _ _ hk]; rfl
      by_cases hq : v4 = 0
      case pos =>
        have g0 : ((v4 : Int) == 0) = true := by simp; omega
        clear hq
        have hr := X8.out.res
        have r0 : w8.cell? ⟨N, 0, none⟩ = some (.bool false) := by rw [cell_of_row w8 N 0 _ _ _ hr]; rfl
        have s0 : w8.frozen? ⟨N, 0, none⟩ = false := by simp [World.frozen?, hr]
        have r1 : w8.cell? ⟨N, 1, none⟩ = some (.int .i64 0) := by rw [cell_of_row w8 N 1 _ _ _ hr]; rfl
        have s1 : w8.frozen? ⟨N, 1, none⟩ = false := by simp [World.frozen?, hr]
        have r2 : w8.cell? ⟨N, 2, none⟩ = some (.int .i64 0) := by rw [cell_of_row w8 N 2 _ _ _ hr]; rfl
        have s2 : w8.frozen? ⟨N, 2, none⟩ = false := by simp [World.frozen?, hr]
        have r3 : w8.cell? ⟨N, 3, none⟩ = some (.int .i64 0) := by rw [cell_of_row w8 N 3 _ _ _ hr]; rfl
        have s3 : w8.frozen? ⟨N, 3, none⟩ = false := by simp [World.frozen?, hr]
        have r4 : w8.cell? ⟨N, 4, none⟩ = some (.int .i64 0) := by rw [cell_of_row w8 N 4 _ _ _ hr]; rfl
        have s4 : w8.frozen? ⟨N, 4, none⟩ = false := by simp [World.frozen?, hr]
        have r5 : w8.cell? ⟨N, 5, none⟩ = some (.int .u64 0) := by rw [cell_of_row w8 N 5 _ _ _ hr]; rfl
        have s5 : w8.frozen? ⟨N, 5, none⟩ = false := by simp [World.frozen?, hr]
        go_wp2_with fail
        obtain ⟨wz, hwz, hbz, t0, t1, t2, t3, t4, t5⟩ := rh_ret X8.out b0 i1 i2 i3 i4 i5
        rw [hwz]
        exact bodyPost_ret (v := .tuple #[.agg #[.bool b0, .int .i64 i1, .int .i64 i2, .int .i64 i3, .int .i64 i4, .int .u64 i5], .int .i64 0, .int .i64 2]) (by simp [results, Tryd.results7, go_sem, t0, t1, t2, t3, t4, t5]) rfl ⟨by rw [X8.out.hN] at hbz; exact hbz, b0, i1, i2, i3, i4, i5, 0, 2, rfl, fun h => absurd h (by decide)⟩
      case neg =>
        have g0 : ((v4 : Int) == 0) = false := by simp; omega
        clear hq
        by_cases hq : v5 = 15
        case pos =>
          have g1 : ((v5 : Int) == 15) = true := by simp; omega
          clear hq
          have hr := X8.out.res
          have r0 : w8.cell? ⟨N, 0, none⟩ = some (.bool false) := by rw [cell_of_row w8 N 0 _ _ _ hr]; rfl
          have s0 : w8.frozen? ⟨N, 0, none⟩ = false := by simp [World.frozen?, hr]
          have r1 : w8.cell? ⟨N, 1, none⟩ = some (.int .i64 0) := by rw [cell_of_row w8 N 1 _ _ _ hr]; rfl
          have s1 : w8.frozen? ⟨N, 1, none⟩ = false := by simp [World.frozen?, hr]
          have r2 : w8.cell? ⟨N, 2, none⟩ = some (.int .i64 0) := by rw [cell_of_row w8 N 2 _ _ _ hr]; rfl
          have s2 : w8.frozen? ⟨N, 2, none⟩ = false := by simp [World.frozen?, hr]
          have r3 : w8.cell? ⟨N, 3, none⟩ = some (.int .i64 0) := by rw [cell_of_row w8 N 3 _ _ _ hr]; rfl
          have s3 : w8.frozen? ⟨N, 3, none⟩ = false := by simp [World.frozen?, hr]
          have r4 : w8.cell? ⟨N, 4, none⟩ = some (.int .i64 0) := by rw [cell_of_row w8 N 4 _ _ _ hr]; rfl
          have s4 : w8.frozen? ⟨N, 4, none⟩ = false := by simp [World.frozen?, hr]
          have r5 : w8.cell? ⟨N, 5, none⟩ = some (.int .u64 0) := by rw [cell_of_row w8 N 5 _ _ _ hr]; rfl
          have s5 : w8.frozen? ⟨N, 5, none⟩ = false := by simp [World.frozen?, hr]
          go_wp2_with fail
          obtain ⟨wz, hwz, hbz, t0, t1, t2, t3, t4, t5⟩ := rh_ret X8.out b0 i1 i2 i3 i4 i5
          rw [hwz]
          exact bodyPost_ret (v := .tuple #[.agg #[.bool b0, .int .i64 i1, .int .i64 i2, .int .i64 i3, .int .i64 i4, .int .u64 i5], .int .i64 0, .int .i64 2]) (by simp [results, Tryd.results7, go_sem, t0, t1, t2, t3, t4, t5]) rfl ⟨by rw [X8.out.hN] at hbz; exact hbz, b0, i1, i2, i3, i4, i5, 0, 2, rfl, fun h => absurd h (by decide)⟩
        case neg =>
          have g1 : ((v5 : Int) == 15) = false := by simp; omega
          have HNV := Lib.hid hq
          clear hq
          by_cases hq : 10 < i3
          case pos =>
            have g2 : decide ((10 : Int) < i3) = true := by simp; omega
            clear hq
            have hr := X8.out.res
            have r0 : w8.cell? ⟨N, 0, none⟩ = some (.bool false) := by rw [cell_of_row w8 N 0 _ _ _ hr]; rfl
            have s0 : w8.frozen? ⟨N, 0, none⟩ = false := by simp [World.frozen?, hr]
            have r1 : w8.cell? ⟨N, 1, none⟩ = some (.int .i64 0) := by rw [cell_of_row w8 N 1 _ _ _ hr]; rfl
            have s1 : w8.frozen? ⟨N, 1, none⟩ = false := by simp [World.frozen?, hr]
            have r2 : w8.cell? ⟨N, 2, none⟩ = some (.int .i64 0) := by rw [cell_of_row w8 N 2 _ _ _ hr]; rfl
            have s2 : w8.frozen? ⟨N, 2, none⟩ = false := by simp [World.frozen?, hr]
            have r3 : w8.cell? ⟨N, 3, none⟩ = some (.int .i64 0) := by rw [cell_of_row w8 N 3 _ _ _ hr]; rfl
            have s3 : w8.frozen? ⟨N, 3, none⟩ = false := by simp [World.frozen?, hr]
            have r4 : w8.cell? ⟨N, 4, none⟩ = some (.int .i64 0) := by rw [cell_of_row w8 N 4 _ _ _ hr]; rfl
            have s4 : w8.frozen? ⟨N, 4, none⟩ = false := by simp [World.frozen?, hr]
            have r5 : w8.cell? ⟨N, 5, none⟩ = some (.int .u64 0) := by rw [cell_of_row w8 N 5 _ _ _ hr]; rfl
            have s5 : w8.frozen? ⟨N, 5, none⟩ = false := by simp [World.frozen?, hr]
            go_wp2_with fail
            obtain ⟨wz, hwz, hbz, t0, t1, t2, t3, t4, t5⟩ := rh_ret X8.out b0 i1 i2 i3 i4 i5
            rw [hwz]
            exact bodyPost_ret (v := .tuple #[.agg #[.bool b0, .int .i64 i1, .int .i64 i2, .int .i64 i3, .int .i64 i4, .int .u64 i5], .int .i64 0, .int .i64 2]) (by simp [results, Tryd.results7, go_sem, t0, t1, t2, t3, t4, t5]) rfl ⟨by rw [X8.out.hN] at hbz; exact hbz, b0, i1, i2, i3, i4, i5, 0, 2, rfl, fun h => absurd h (by decide)⟩
          case neg =>
            have g2 : decide ((10 : Int) < i3) = false := by simp; omega
            clear hq
            by_cases hq : v7 = 3
            case pos =>
              have g3 : ((v7 : Int) == 3) = true := by simp; omega
              clear hq
              have hr := X8.out.res
              have r0 : w8.cell? ⟨N, 0, none⟩ = some (.bool false) := by rw [cell_of_row w8 N 0 _ _ _ hr]; rfl
              have s0 : w8.frozen? ⟨N, 0, none⟩ = false := by simp [World.frozen?, hr]
              have r1 : w8.cell? ⟨N, 1, none⟩ = some (.int .i64 0) := by rw [cell_of_row w8 N 1 _ _ _ hr]; rfl
              have s1 : w8.frozen? ⟨N, 1, none⟩ = false := by simp [World.frozen?, hr]
              have r2 : w8.cell? ⟨N, 2, none⟩ = some (.int .i64 0) := by rw [cell_of_row w8 N 2 _ _ _ hr]; rfl
              have s2 : w8.frozen? ⟨N, 2, none⟩ = false := by simp [World.frozen?, hr]
              have r3 : w8.cell? ⟨N, 3, none⟩ = some (.int .i64 0) := by rw [cell_of_row w8 N 3 _ _ _ hr]; rfl
              have s3 : w8.frozen? ⟨N, 3, none⟩ = false := by simp [World.frozen?, hr]
              have r4 : w8.cell? ⟨N, 4, none⟩ = some (.int .i64 0) := by rw [cell_of_row w8 N 4 _ _ _ hr]; rfl
              have s4 : w8.frozen? ⟨N, 4, none⟩ = false := by simp [World.frozen?, hr]
              have r5 : w8.cell? ⟨N, 5, none⟩ = some (.int .u64 0) := by rw [cell_of_row w8 N 5 _ _ _ hr]; rfl
              have s5 : w8.frozen? ⟨N, 5, none⟩ = false := by simp [World.frozen?, hr]
              go_wp2_with fail
              obtain ⟨wz, hwz, hbz, t0, t1, t2, t3, t4, t5⟩ := rh_ret X8.out b0 i1 i2 i3 i4 i5
              rw [hwz]
              exact bodyPost_ret (v := .tuple #[.agg #[.bool b0, .int .i64 i1, .int .i64 i2, .int .i64 i3, .int .i64 i4, .int .u64 i5], .int .i64 0, .int .i64 2]) (by simp [results, Tryd.results7, go_sem, t0, t1, t2, t3, t4, t5]) rfl ⟨by rw [X8.out.hN] at hbz; exact hbz, b0, i1, i2, i3, i4, i5, 0, 2, rfl, fun h => absurd h (by decide)⟩
            case neg =>
              have g3 : ((v7 : Int) == 3) = false := by simp; omega
              have HN3 := Lib.hid hq
              clear hq
              by_cases hq : v7 = 7
              case pos =>
                have g4 : ((v7 : Int) == 7) = true := by simp; omega
                clear hq
                have hr := X8.out.res
                have r0 : w8.cell? ⟨N, 0, none⟩ = some (.bool false) := by rw [cell_of_row w8 N 0 _ _ _ hr]; rfl
                have s0 : w8.frozen? ⟨N, 0, none⟩ = false := by simp [World.frozen?, hr]
                have r1 : w8.cell? ⟨N, 1, none⟩ = some (.int .i64 0) := by rw [cell_of_row w8 N 1 _ _ _ hr]; rfl
                have s1 : w8.frozen? ⟨N, 1, none⟩ = false := by simp [World.frozen?, hr]
                have r2 : w8.cell? ⟨N, 2, none⟩ = some (.int .i64 0) := by rw [cell_of_row w8 N 2 _ _ _ hr]; rfl
                have s2 : w8.frozen? ⟨N, 2, none⟩ = false := by simp [World.frozen?, hr]
                have r3 : w8.cell? ⟨N, 3, none⟩ = some (.int .i64 0) := by rw [cell_of_row w8 N 3 _ _ _ hr]; rfl
                have s3 : w8.frozen? ⟨N, 3, none⟩ = false := by simp [World.frozen?, hr]
                have r4 : w8.cell? ⟨N, 4, none⟩ = some (.int .i64 0) := by rw [cell_of_row w8 N 4 _ _ _ hr]; rfl
                have s4 : w8.frozen? ⟨N, 4, none⟩ = false := by simp [World.frozen?, hr]
                have r5 : w8.cell? ⟨N, 5, none⟩ = some (.int .u64 0) := by rw [cell_of_row w8 N 5 _ _ _ hr]; rfl
                have s5 : w8.frozen? ⟨N, 5, none⟩ = false := by simp [World.frozen?, hr]
                go_wp2_with fail
                obtain ⟨wz, hwz, hbz, t0, t1, t2, t3, t4, t5⟩ := rh_ret X8.out b0 i1 i2 i3 i4 i5
                rw [hwz]
                exact bodyPost_ret (v := .tuple #[.agg #[.bool b0, .int .i64 i1, .int .i64 i2, .int .i64 i3, .int .i64 i4, .int .u64 i5], .int .i64 0, .int .i64 2]) (by simp [results, Tryd.results7, go_sem, t0, t1, t2, t3, t4, t5]) rfl ⟨by rw [X8.out.hN] at hbz; exact hbz, b0, i1, i2, i3, i4, i5, 0, 2, rfl, fun h => absurd h (by decide)⟩
              case neg =>
                have g4 : ((v7 : Int) == 7) = false := by simp; omega
                have HN7 := Lib.hid hq
                clear hq
                by_cases hq : v8 = 1
                case pos =>
                  have g5 : ((v8 : Int) == 1) = true := by simp; omega
                  clear hq
                  have hr := X8.out.res
                  have r0 : w8.cell? ⟨N, 0, none⟩ = some (.bool false) := by rw [cell_of_row w8 N 0 _ _ _ hr]; rfl
                  have s0 : w8.frozen? ⟨N, 0, none⟩ = false := by simp [World.frozen?, hr]
                  have r1 : w8.cell? ⟨N, 1, none⟩ = some (.int .i64 0) := by rw [cell_of_row w8 N 1 _ _ _ hr]; rfl
                  have s1 : w8.frozen? ⟨N, 1, none⟩ = false := by simp [World.frozen?, hr]
                  have r2 : w8.cell? ⟨N, 2, none⟩ = some (.int .i64 0) := by rw [cell_of_row w8 N 2 _ _ _ hr]; rfl
                  have s2 : w8.frozen? ⟨N, 2, none⟩ = false := by simp [World.frozen?, hr]
                  have r3 : w8.cell? ⟨N, 3, none⟩ = some (.int .i64 0) := by rw [cell_of_row w8 N 3 _ _ _ hr]; rfl
                  have s3 : w8.frozen? ⟨N, 3, none⟩ = false := by simp [World.frozen?, hr]
                  have r4 : w8.cell? ⟨N, 4, none⟩ = some (.int .i64 0) := by rw [cell_of_row w8 N 4 _ _ _ hr]; rfl
                  have s4 : w8.frozen? ⟨N, 4, none⟩ = false := by simp [World.frozen?, hr]
                  have r5 : w8.cell? ⟨N, 5, none⟩ = some (.int .u64 0) := by rw [cell_of_row w8 N 5 _ _ _ hr]; rfl
                  have s5 : w8.frozen? ⟨N, 5, none⟩ = false := by simp [World.frozen?, hr]
                  go_wp2_with fail
                  obtain ⟨wz, hwz, hbz, t0, t1, t2, t3, t4, t5⟩ := rh_ret X8.out b0 i1 i2 i3 i4 i5
                  rw [hwz]
                  exact bodyPost_ret (v := .tuple #[.agg #[.bool b0, .int .i64 i1, .int .i64 i2, .int .i64 i3, .int .i64 i4, .int .u64 i5], .int .i64 0, .int .i64 2]) (by simp [results, Tryd.results7, go_sem, t0, t1, t2, t3, t4, t5]) rfl ⟨by rw [X8.out.hN] at hbz; exact hbz, b0, i1, i2, i3, i4, i5, 0, 2, rfl, fun h => absurd h (by decide)⟩
                case neg =>
                  have g5 : ((v8 : Int) == 1) = false := by simp; omega
                  clear hq
                  go_wp2_with fail
                  clear c0 c1 c2 c3 c4 g0 g1 g2 g3 g4 g5 q8 q2 e1
                  have hrd4 := reads_drop (HL.out.below X8.out.bel) hn6
                  have hby4 : ∀ i, (l.drop 4).getD i 0 = (byteAt (l.drop 4) i : Int) ∧ byteAt (l.drop 4) i < 256 := fun i => by
                    rw [(drop_byte l i).1, (drop_byte l i).2]; exact HBY.out _
                  have hdl : (l.drop 4).length = n - 4 := by rw [List.length_drop, HNL.out]
                  have c5' := c5
                  have f5 : w8.frozen? ⟨N + 1, 5, none⟩ = false := by simp [World.frozen?, hk]
                  have HRD4 := Lib.hid hrd4
                  clear hrd4
                  by_cases hff : byteAt l 4 = 255
                  case pos =>
                    have hsp := spec_number_ff (l.drop 4) (by omega) (by rw [(drop_byte l 0).1, (HBY.out _).1, hff]; rfl)
                    have HSP := Lib.hid (show spec_Number.f 30 (l.drop 4) = some (((0 : Nat) : Int), ((0 : Nat) : Int)) from hsp)
                    have HFF := Lib.hid hff
                    clear hsp hff hby4 hdl hk
                    refine (number_call (some (ad.add 4)) (c - 4) (n - 4) (l.drop 4) 0 0 w8 HRD4.out (by omega) HSP.out).mono ?_
                    rintro e w9 ⟨rfl, q, rfl⟩
                    go_upto_region 16 with fail
                    have hst := rh_set5 (rh_below X8.out (below_drewN (Below.refl _ _) q)) 0
                    obtain ⟨w10, hw10⟩ : ∃ w10, (w8.drewN q).setCell ⟨N + 1, 5, none⟩ (.int .u64 0) = w10 := ⟨_, rfl⟩
                    rw [hw10] at hst ⊢
                    have X10 := Lib.hid hst
                    have e4 : w10.cell? ⟨ad.block, ad.off + 4, none⟩ = some (.int .u8 255) := by
                      show w10.cell? (ad.add 4) = _
                      obtain ⟨ad', e, hce⟩ := (HL.out.below hst.bel).2.2 (by omega)
                      obtain rfl := Option.some.inj e
                      rw [hce 4 (by omega), (HBY.out 4).1, HFF.out]; rfl
                    clear hst hw10 c5 c5' f5
                    obtain ⟨b0, i1, i2, i3, i4, i5, hk⟩ := X10.out.hd
                    have c0 : w10.cell? ⟨N + 1, 0, none⟩ = some (.bool b0) := by rw [cell_of_row w10 (N + 1) 0 _ _ _ hk]; rfl
                    have c1 : w10.cell? ⟨N + 1, 1, none⟩ = some (.int .i64 i1) := by rw [cell_of_row w10 (N + 1) 1 _ _ _ hk]; rfl
                    have c2 : w10.cell? ⟨N + 1, 2, none⟩ = some (.int .i64 i2) := by rw [cell_of_row w10 (N + 1) 2 _ _ _ hk]; rfl
                    have c3 : w10.cell? ⟨N + 1, 3, none⟩ = some (.int .i64 i3) := by rw [cell_of_row w10 (N + 1) 3 _ _ _ hk]; rfl
                    have c4 : w10.cell? ⟨N + 1, 4, none⟩ = some (.int .i64 i4) := by rw [cell_of_row w10 (N + 1) 4 _ _ _ hk]; rfl
                    have c5 : w10.cell? ⟨N + 1, 5, none⟩ = some (.int .u64 i5) := by rw [cell_of_row w10 (N + 1) 5 _ _ _ hk]; rfl
                    have hr := X10.out.res
                    have r0 : w10.cell? ⟨N, 0, none⟩ = some (.bool false) := by rw [cell_of_row w10 N 0 _ _ _ hr]; rfl
                    have s0 : w10.frozen? ⟨N, 0, none⟩ = false := by simp [World.frozen?, hr]
                    have r1 : w10.cell? ⟨N, 1, none⟩ = some (.int .i64 0) := by rw [cell_of_row w10 N 1 _ _ _ hr]; rfl
                    have s1 : w10.frozen? ⟨N, 1, none⟩ = false := by simp [World.frozen?, hr]
                    have r2 : w10.cell? ⟨N, 2, none⟩ = some (.int .i64 0) := by rw [cell_of_row w10 N 2 _ _ _ hr]; rfl
                    have s2 : w10.frozen? ⟨N, 2, none⟩ = false := by simp [World.frozen?, hr]
                    have r3 : w10.cell? ⟨N, 3, none⟩ = some (.int .i64 0) := by rw [cell_of_row w10 N 3 _ _ _ hr]; rfl
                    have s3 : w10.frozen? ⟨N, 3, none⟩ = false := by simp [World.frozen?, hr]
                    have r4 : w10.cell? ⟨N, 4, none⟩ = some (.int .i64 0) := by rw [cell_of_row w10 N 4 _ _ _ hr]; rfl
                    have s4 : w10.frozen? ⟨N, 4, none⟩ = false := by simp [World.frozen?, hr]
                    have r5 : w10.cell? ⟨N, 5, none⟩ = some (.int .u64 0) := by rw [cell_of_row w10 N 5 _ _ _ hr]; rfl
                    have s5 : w10.frozen? ⟨N, 5, none⟩ = false := by simp [World.frozen?, hr]
                    go_wp2_with fail
                    obtain ⟨wz, hwz, hbz, t0, t1, t2, t3, t4, t5⟩ := rh_ret X10.out b0 i1 i2 i3 i4 i5
                    rw [hwz]
                    exact bodyPost_ret (v := .tuple #[.agg #[.bool b0, .int .i64 i1, .int .i64 i2, .int .i64 i3, .int .i64 i4, .int .u64 i5], .int .i64 0, .int .i64 2]) (by simp [results, Tryd.results7, go_sem, t0, t1, t2, t3, t4, t5]) rfl ⟨by rw [X10.out.hN] at hbz; exact hbz, b0, i1, i2, i3, i4, i5, 0, 2, rfl, fun h => absurd h (by decide)⟩
                  case neg =>
                    obtain ⟨v, k, hsp, hres⟩ := spec_number (l.drop 4) hby4 (fun _ => by rw [(drop_byte l 0).2]; exact hff)
                    have HSP := Lib.hid hsp
                    obtain ⟨b4, hb4⟩ : ∃ b4, byteAt l 4 = b4 := ⟨_, rfl⟩
                    have hb4n : ((b4 : Int) == 255) = false := by simp; omega
                    have HFF := Lib.hid hff
                    have HB4 := Lib.hid hb4
                    have HK8 := Lib.hid hk
                    clear hsp hff hby4 hdl hk hb4
                    refine (number_call (some (ad.add 4)) (c - 4) (n - 4) (l.drop 4) v k w8 HRD4.out (by omega) HSP.out).mono ?_
                    rintro e w9 ⟨rfl, q, rfl⟩
                    go_upto_region 16 with fail
                    have hst := rh_set5 (rh_below X8.out (below_drewN (Below.refl _ _) q)) v
                    have hk10 : ((w8.drewN q).setCell ⟨N + 1, 5, none⟩ (.int .u64 v)).heap[N + 1]? = some (.cells #[.bool b0, .int .i64 i1, .int .i64 i2, .int .i64 i3, .int .i64 i4, .int .u64 v] 29 (0, 0)) := by
                      rw [blk_set (w := w8.drewN q) HK8.out 5]; rfl
                    obtain ⟨w10, hw10⟩ : ∃ w10, (w8.drewN q).setCell ⟨N + 1, 5, none⟩ (.int .u64 v) = w10 := ⟨_, rfl⟩
                    rw [hw10] at hst hk10 ⊢
                    have X10 := Lib.hid hst
                    have e4 : w10.cell? ⟨ad.block, ad.off + 4, none⟩ = some (.int .u8 b4) := by
                      show w10.cell? (ad.add 4) = _
                      obtain ⟨ad', e, hce⟩ := (HL.out.below hst.bel).2.2 (by omega)
                      obtain rfl := Option.some.inj e
                      rw [hce 4 (by omega), (HBY.out 4).1, HB4.out]
                    clear hst hw10 c5 c5' f5
                    rcases hres with ⟨rfl, hno⟩ | ⟨hk0, hkl, hvb, hor⟩
                    case inl =>
                      have hbad : ∀ f, ¬ HdrIs l f := fun f hf => by
                        obtain ⟨n', _, _, hu, _⟩ := hf.ex
                        rcases hu with ⟨_, h255, _⟩ | hg
                        · exact HFF.out h255
                        · exact hno _ _ (good_drop (by omega) hg)
                      have HBAD := Lib.hid hbad
                      clear hno hbad hk10
                      obtain ⟨b0, i1, i2, i3, i4, i5, hk⟩ := X10.out.hd
                      have c0 : w10.cell? ⟨N + 1, 0, none⟩ = some (.bool b0) := by rw [cell_of_row w10 (N + 1) 0 _ _ _ hk]; rfl
                      have c1 : w10.cell? ⟨N + 1, 1, none⟩ = some (.int .i64 i1) := by rw [cell_of_row w10 (N + 1) 1 _ _ _ hk]; rfl
                      have c2 : w10.cell? ⟨N + 1, 2, none⟩ = some (.int .i64 i2) := by rw [cell_of_row w10 (N + 1) 2 _ _ _ hk]; rfl
                      have c3 : w10.cell? ⟨N + 1, 3, none⟩ = some (.int .i64 i3) := by rw [cell_of_row w10 (N + 1) 3 _ _ _ hk]; rfl
                      have c4 : w10.cell? ⟨N + 1, 4, none⟩ = some (.int .i64 i4) := by rw [cell_of_row w10 (N + 1) 4 _ _ _ hk]; rfl
                      have c5 : w10.cell? ⟨N + 1, 5, none⟩ = some (.int .u64 i5) := by rw [cell_of_row w10 (N + 1) 5 _ _ _ hk]; rfl
                      have hr := X10.out.res
                      have r0 : w10.cell? ⟨N, 0, none⟩ = some (.bool false) := by rw [cell_of_row w10 N 0 _ _ _ hr]; rfl
                      have s0 : w10.frozen? ⟨N, 0, none⟩ = false := by simp [World.frozen?, hr]
                      have r1 : w10.cell? ⟨N, 1, none⟩ = some (.int .i64 0) := by rw [cell_of_row w10 N 1 _ _ _ hr]; rfl
                      have s1 : w10.frozen? ⟨N, 1, none⟩ = false := by simp [World.frozen?, hr]
                      have r2 : w10.cell? ⟨N, 2, none⟩ = some (.int .i64 0) := by rw [cell_of_row w10 N 2 _ _ _ hr]; rfl
                      have s2 : w10.frozen? ⟨N, 2, none⟩ = false := by simp [World.frozen?, hr]
                      have r3 : w10.cell? ⟨N, 3, none⟩ = some (.int .i64 0) := by rw [cell_of_row w10 N 3 _ _ _ hr]; rfl
                      have s3 : w10.frozen? ⟨N, 3, none⟩ = false := by simp [World.frozen?, hr]
                      have r4 : w10.cell? ⟨N, 4, none⟩ = some (.int .i64 0) := by rw [cell_of_row w10 N 4 _ _ _ hr]; rfl
                      have s4 : w10.frozen? ⟨N, 4, none⟩ = false := by simp [World.frozen?, hr]
                      have r5 : w10.cell? ⟨N, 5, none⟩ = some (.int .u64 0) := by rw [cell_of_row w10 N 5 _ _ _ hr]; rfl
                      have s5 : w10.frozen? ⟨N, 5, none⟩ = false := by simp [World.frozen?, hr]
                      go_wp2_with fail
                      obtain ⟨wz, hwz, hbz, t0, t1, t2, t3, t4, t5⟩ := rh_ret X10.out b0 i1 i2 i3 i4 i5
                      rw [hwz]
                      exact bodyPost_ret (v := .tuple #[.agg #[.bool b0, .int .i64 i1, .int .i64 i2, .int .i64 i3, .int .i64 i4, .int .u64 i5], .int .i64 0, .int .i64 1]) (by simp [results, Tryd.results7, go_sem, t0, t1, t2, t3, t4, t5]) rfl ⟨by rw [X10.out.hN] at hbz; exact hbz, b0, i1, i2, i3, i4, i5, 0, 1, rfl, fun _ => HBAD.out⟩
                    case inr =>
                      have HOR := Lib.hid hor
                      have HK10 := Lib.hid hk10
                      have hk0b : ((k : Int) == 0) = false := by simp; omega
                      have hkl2 : k ≤ n - 4 := by rw [List.length_drop, HNL.out] at hkl; exact hkl
                      clear hor hk10 hkl
                      go_upto_region 20 with fail
                      obtain ⟨s1, hs1⟩ : ∃ s, strOfNums (coded v) = s := ⟨_, rfl⟩
                      obtain ⟨s2, hs2⟩ : ∃ s, strOfNums ((l.drop 4).take k) = s := ⟨_, rfl⟩
                      obtain ⟨kk, hkk⟩ : ∃ kk, 4 + k = kk := ⟨_, rfl⟩
                      have hcv : ∀ wx, Below w.heap.size w wx → (convert 25 9 (.slice (some ⟨ad.block, ad.off + 4, none⟩) k (c - 4))).run Tryd.prog wx = .ok (.string s2) wx := fun wx hb => by
                        have h := string_of_reads (P := Tryd.prog) (src := 25) (dst := 9) (e := 5) (c := c - 4) Tryd.underlying25 Tryd.underlying5 Tryd.underlying9 (reads_take (reads_drop (HL.out.below hb) hn6) hkl2)
                        rw [hs2] at h; exact h
                      have ewr : IntKind.i64.wrap ((4 : Int) + (k : Int)) = (kk : Int) := by rw [IntKind.wrap_i64]; omega
                      have ekk : kk - 4 = k := by omega
                      have hkc : kk ≤ c := by omega
                      have hk4 : 4 ≤ kk := by omega
                      have hi1 : (4 : Int) ≤ (kk : Int) := by omega
                      have hi2 : (kk : Int) ≤ (c : Int) := by omega
                      have hi3 : (0 : Int) ≤ (kk : Int) := by omega
                      have hi4 : ((4 : Int)).toNat = 4 := rfl
                      have hc4 : (c = 4) = False := by simp; omega
                      have hcvA := hcv w10.drew X10.out.bel.drew
                      have HCV := Lib.hid hcv
                      have HS1 := Lib.hid hs1
                      have HS2 := Lib.hid hs2
                      have HVB := Lib.hid hvb
                      have HKK := Lib.hid hkk
                      clear hcv hs1 hs2 hkk
                      have d0 : w10.cell? ⟨N + 1, 0, none⟩ = some (.bool b0) := by rw [cell_of_row w10 (N + 1) 0 _ _ _ HK10.out]; rfl
                      have d5 : w10.cell? ⟨N + 1, 5, none⟩ = some (.int .u64 v) := by rw [cell_of_row w10 (N + 1) 5 _ _ _ HK10.out]; rfl
                      have hcodd : Calls Tryd.prog 11 #[.int .u64 v] w10.drew fun e w' => ∃ x, e = .returned x ∧ (w'.cell? ⟨N + 1, 0, none⟩ = some (.bool b0) ∧ w'.cell? ⟨N + 1, 5, none⟩ = some (.int .u64 v) ∧ (convert 25 9 (.slice (some ⟨ad.block, ad.off + 4, none⟩) k (c - 4))).run Tryd.prog w' = .ok (.string s2) w') ∧
                          (convert 25 9 x).run Tryd.prog w' = .ok (.string s1) w' ∧ Rh w N l w' 32 false :=
                        (coded_call v w10.drew HVB.out).mono fun e w' ⟨x, he, ho, hb⟩ => by
                          have k1 := own_string (P := Tryd.prog) (src := 25) (dst := 9) (e := 5) Tryd.underlying25 Tryd.underlying5 Tryd.underlying9 ho
                          rw [HS1.out] at k1
                          exact ⟨x, he, ⟨pw_cell_below hb d0, pw_cell_below hb d5, HCV.out w' (below_then X10.out.bel.drew X10.out.bel.drew.size hb)⟩, k1, rh_below (rh_below X10.out ((Below.refl _ _).drew)) hb⟩
                      have HCD := Lib.hid hcodd
                      clear hcodd
                      go_cut [114] (fun y wx => ∃ bb : Bool, y = .bool bb ∧ Rh w N l wx 32 false ∧ (bb = false → GoodAt l 4 v k))
                      case first =>
                        obtain ⟨eq, heq⟩ : ∃ eq : Bool, (s1.toList == s2.toList) = eq := ⟨_, rfl⟩
                        obtain ⟨bv, hbv⟩ : ∃ bv : Bool, decide ((2147483648 : Int) ≤ (v : Int)) = bv := ⟨_, rfl⟩
                        have hgf : eq = true → GoodAt l 4 v k := fun hnf => by
                          rw [hnf] at heq
                          have hs : s1.toList = s2.toList := by simpa using heq
                          have hlen : (coded v).length = k := by
                            have h := hs
                            rw [← HS1.out, ← HS2.out, Go.Lib.strOfNums_toList, Go.Lib.strOfNums_toList] at h
                            have h2 := congrArg List.length h
                            rw [Go.Lib.bytesOf_length, Go.Lib.bytesOf_length, List.length_take, List.length_drop, HNL.out] at h2
                            omega
                          rcases HOR.out with h | ⟨L, m1, mx, hC, hkL, hvm⟩
                          · exact good_undrop (by omega) h
                          · exact absurd (hlen.trans hkL) (over_len hC hvm)
                        have HGF := Lib.hid hgf
                        clear hgf
                        refine wp_region_held_drew (S := fun w' => w'.cell? ⟨N + 1, 0, none⟩ = some (.bool b0) ∧ w'.cell? ⟨N + 1, 5, none⟩ = some (.int .u64 v) ∧ (convert 25 9 (.slice (some ⟨ad.block, ad.off + 4, none⟩) k (c - 4))).run Tryd.prog w' = .ok (.string s2) w') (by kernel_rfl) ⟨by simpa using d0, by simpa using d5, hcvA⟩ (fun HS => ?_)
                        refine wpAnyH_take (i := 0) (oi := { dst := some 95, op := Op.fieldAddr 29 (Operand.tmp 5) 5, type := 0, pos := "frame.go:78", after := #[], guard := none }) (v := ?v1) rfl (by kernel_rfl) (by kernel_rfl) (by kernel_rfl) (fun _ _ _ h => h) (Or.inl ⟨by rfl, ?y1⟩) HS ?r1
                        case y1 =>
                          intro w' hSw
                          (try dsimp only at hSw)
                          obtain ⟨k4, k5, k6⟩ := hSw
                          go_simp
                          all_goals (with_reducible rfl)
                        simp only [Act.put, List.setIfInBounds_toArray, List.set_cons_zero, List.set_cons_succ]
                        refine wpAnyH_take (i := 1) (oi := { dst := some 96, op := Op.load 24 (Operand.tmp 95), type := 24, pos := "frame.go:78", after := #[{ on := 0, ground := Ground.data }], guard := none }) (v := ?v2) rfl (by kernel_rfl) (by kernel_rfl) (by kernel_rfl) (fun _ _ _ h => h) (Or.inl ⟨by rfl, ?y2⟩) HS ?r2
                        case y2 =>
                          intro w' hSw
                          (try dsimp only at hSw)
                          obtain ⟨k4, k5, k6⟩ := hSw
                          go_simp
                          all_goals (with_reducible rfl)
                        simp only [Act.put, List.setIfInBounds_toArray, List.set_cons_zero, List.set_cons_succ]
                        refine wpAnyH_take (i := 4) (oi := { dst := some 99, op := Op.move (Operand.tmp 0), type := 25, pos := "frame.go:78", after := #[], guard := none }) (v := ?v3) rfl (by kernel_rfl) (by kernel_rfl) (by kernel_rfl) (fun _ _ _ h => h) (Or.inl ⟨by rfl, ?y3⟩) HS ?r3
                        case y3 =>
                          intro w' hSw
                          (try dsimp only at hSw)
                          obtain ⟨k4, k5, k6⟩ := hSw
                          go_simp
                          all_goals (with_reducible rfl)
                        simp only [Act.put, List.setIfInBounds_toArray, List.set_cons_zero, List.set_cons_succ]
                        refine wpAnyH_take (i := 5) (oi := { dst := some 100, op := Op.move (Operand.tmp 11), type := 3, pos := "frame.go:78", after := #[], guard := none }) (v := ?v4) rfl (by kernel_rfl) (by kernel_rfl) (by kernel_rfl) (fun _ _ _ h => h) (Or.inl ⟨by rfl, ?y4⟩) HS ?r4
                        case y4 =>
                          intro w' hSw
                          (try dsimp only at hSw)
                          obtain ⟨k4, k5, k6⟩ := hSw
                          go_simp
                          all_goals (with_reducible rfl)
                        simp only [Act.put, List.setIfInBounds_toArray, List.set_cons_zero, List.set_cons_succ]
                        refine wpAnyH_take (i := 6) (oi := { dst := some 101, op := Op.binOp BinOp.add 3 (Operand.const (Value.int IntKind.i64 4)) (Operand.tmp 100) 3, type := 3, pos := "frame.go:78", after := #[{ on := 5, ground := Ground.data }], guard := none }) (v := ?v5) rfl (by kernel_rfl) (by kernel_rfl) (by kernel_rfl) (fun _ _ _ h => h) (Or.inl ⟨by rfl, ?y5⟩) HS ?r5
                        case y5 =>
                          intro w' hSw
                          (try dsimp only at hSw)
                          obtain ⟨k4, k5, k6⟩ := hSw
                          go_simp
                          all_goals (with_reducible rfl)
                        simp only [Act.put, List.setIfInBounds_toArray, List.set_cons_zero, List.set_cons_succ]
                        refine wpAnyH_take (i := 7) (oi := { dst := some 102, op := Op.slice 25 (Operand.tmp 99) (some (Operand.const (Value.int IntKind.i64 4))) (some (Operand.tmp 101)) none, type := 25, pos := "frame.go:78", after := #[{ on := 4, ground := Ground.data }, { on := 6, ground := Ground.data }], guard := none }) (v := ?v6) rfl (by kernel_rfl) (by kernel_rfl) (by kernel_rfl) (fun _ _ _ h => h) (Or.inl ⟨by rfl, ?y6⟩) HS ?r6
                        case y6 =>
                          intro w' hSw
                          (try dsimp only at hSw)
                          obtain ⟨k4, k5, k6⟩ := hSw
                          go_simp
                          all_goals (with_reducible rfl)
                        simp only [Act.put, List.setIfInBounds_toArray, List.set_cons_zero, List.set_cons_succ]
                        refine wpAnyH_take (i := 8) (oi := { dst := some 103, op := Op.convert 25 9 (Operand.tmp 102), type := 9, pos := "frame.go:78", after := #[{ on := 7, ground := Ground.data }], guard := none }) (v := ?v7) rfl (by kernel_rfl) (by kernel_rfl) (by kernel_rfl) (fun _ _ _ h => h) (Or.inl ⟨by rfl, ?y7⟩) HS ?r7
                        case y7 =>
                          intro w' hSw
                          (try dsimp only at hSw)
                          obtain ⟨k4, k5, k6⟩ := hSw
                          go_simp
                          all_goals (with_reducible rfl)
                        simp only [Act.put, List.setIfInBounds_toArray, List.set_cons_zero, List.set_cons_succ]
                        refine wpAnyH_ready (rs := [2]) (by kernel_rfl) (by simp) ?_
                        refine AllReadyH.cons (o := { dst := some 97, op := Op.call { callee := Callee.value (Operand.func 11), args := #[Operand.tmp 96], argTypes := #[24] }, type := 25, pos := "frame.go:78", after := #[{ on := 1, ground := Ground.data }], guard := none }) rfl (fun K hK => ?_) AllReadyH.nil
                        go_simp
                        refine HCD.out.mono ?_
                        rintro e w3 ⟨x8, rfl, k0, k1, k3⟩
                        go_wp2_with fail
                        refine hK.out _ _ k0 (fun HS3 => ?_)
                        clear hK K
                        (try simp only [Act.put, List.setIfInBounds_toArray, List.set_cons_zero, List.set_cons_succ])
                        refine wpAnyH_ready (rs := [3]) (by kernel_rfl) (by simp) ?_
                        refine AllReadyH.cons (o := { dst := some 98, op := Op.convert 25 9 (Operand.tmp 97), type := 9, pos := "frame.go:78", after := #[{ on := 2, ground := Ground.data }], guard := none }) rfl (fun K hK => ?_) AllReadyH.nil
                        go_simp
                        refine hK.out _ _ HS3 (fun _ => ?_)
                        clear hK K HS
                        (try simp only [Act.put, List.setIfInBounds_toArray, List.set_cons_zero, List.set_cons_succ])
                        have HS := HS3
                        refine wpAnyH_take (i := 9) (oi := { dst := some 104, op := Op.binOp BinOp.neq 9 (Operand.tmp 98) (Operand.tmp 103) 9, type := 4, pos := "frame.go:78", after := #[{ on := 3, ground := Ground.data }, { on := 8, ground := Ground.data }], guard := none }) (v := ?v8) rfl (by kernel_rfl) (by kernel_rfl) (by kernel_rfl) (fun _ _ _ h => h) (Or.inl ⟨by rfl, ?y8⟩) HS ?r8
                        case y8 =>
                          intro w' hSw
                          (try dsimp only at hSw)
                          obtain ⟨k4, k5, k6⟩ := hSw
                          go_simp
                          all_goals (with_reducible rfl)
                        simp only [Act.put, List.setIfInBounds_toArray, List.set_cons_zero, List.set_cons_succ]
                        refine wpAnyH_take (i := 10) (oi := { dst := some 105, op := Op.move (Operand.tmp 104), type := 4, pos := "frame.go:78", after := #[{ on := 9, ground := Ground.data }, { on := 2, ground := Ground.chain }], guard := none }) (v := ?v9) rfl (by kernel_rfl) (by kernel_rfl) (by kernel_rfl) (fun _ _ _ h => h) (Or.inl ⟨by rfl, ?y9⟩) HS ?r9
                        case y9 =>
                          intro w' hSw
                          (try dsimp only at hSw)
                          obtain ⟨k4, k5, k6⟩ := hSw
                          go_simp
                          all_goals (with_reducible rfl)
                        simp only [Act.put, List.setIfInBounds_toArray, List.set_cons_zero, List.set_cons_succ]
                        cases eq
                        case false =>
                          refine wpAnyH_take (i := 11) (oi := { dst := some 106, op := Op.fieldAddr 29 (Operand.tmp 5) 0, type := 0, pos := "frame.go:78", after := #[{ on := 10, ground := Ground.guard }], guard := some (10, false) }) (v := undef) rfl (by kernel_rfl) (by kernel_rfl) (by kernel_rfl) (fun _ _ _ h => h) (Or.inr ⟨by rfl, rfl⟩) HS ?_
                          simp only [Act.put, List.setIfInBounds_toArray, List.set_cons_zero, List.set_cons_succ]
                          refine wpAnyH_take (i := 12) (oi := { dst := some 107, op := Op.load 4 (Operand.tmp 106), type := 4, pos := "frame.go:78", after := #[{ on := 11, ground := Ground.data }, { on := 10, ground := Ground.guard }], guard := some (10, false) }) (v := undef) rfl (by kernel_rfl) (by kernel_rfl) (by kernel_rfl) (fun _ _ _ h => h) (Or.inr ⟨by rfl, rfl⟩) HS ?_
                          simp only [Act.put, List.setIfInBounds_toArray, List.set_cons_zero, List.set_cons_succ]
                          refine wpAnyH_take (i := 13) (oi := { dst := some 108, op := Op.unOp UnOp.not 4 (Operand.tmp 107), type := 4, pos := "frame.go:78", after := #[{ on := 12, ground := Ground.data }, { on := 10, ground := Ground.guard }], guard := some (10, false) }) (v := undef) rfl (by kernel_rfl) (by kernel_rfl) (by kernel_rfl) (fun _ _ _ h => h) (Or.inr ⟨by rfl, rfl⟩) HS ?_
                          simp only [Act.put, List.setIfInBounds_toArray, List.set_cons_zero, List.set_cons_succ]
                          refine wpAnyH_take (i := 14) (oi := { dst := some 109, op := Op.move (Operand.tmp 108), type := 4, pos := "frame.go:78", after := #[{ on := 13, ground := Ground.data }, { on := 10, ground := Ground.chain }, { on := 10, ground := Ground.guard }], guard := some (10, false) }) (v := undef) rfl (by kernel_rfl) (by kernel_rfl) (by kernel_rfl) (fun _ _ _ h => h) (Or.inr ⟨by rfl, rfl⟩) HS ?_
                          simp only [Act.put, List.setIfInBounds_toArray, List.set_cons_zero, List.set_cons_succ]
                          refine wpAnyH_take (i := 15) (oi := { dst := some 110, op := Op.fieldAddr 29 (Operand.tmp 5) 5, type := 0, pos := "frame.go:78", after := #[{ on := 14, ground := Ground.guard }], guard := some (14, true) }) (v := undef) rfl (by kernel_rfl) (by kernel_rfl) (by kernel_rfl) (fun _ _ _ h => h) (Or.inr ⟨by rfl, rfl⟩) HS ?_
                          simp only [Act.put, List.setIfInBounds_toArray, List.set_cons_zero, List.set_cons_succ]
                          refine wpAnyH_take (i := 16) (oi := { dst := some 111, op := Op.load 24 (Operand.tmp 110), type := 24, pos := "frame.go:78", after := #[{ on := 15, ground := Ground.data }, { on := 14, ground := Ground.guard }], guard := some (14, true) }) (v := undef) rfl (by kernel_rfl) (by kernel_rfl) (by kernel_rfl) (fun _ _ _ h => h) (Or.inr ⟨by rfl, rfl⟩) HS ?_
                          simp only [Act.put, List.setIfInBounds_toArray, List.set_cons_zero, List.set_cons_succ]
                          refine wpAnyH_take (i := 17) (oi := { dst := some 112, op := Op.binOp BinOp.geq 24 (Operand.tmp 111) (Operand.const (Value.int IntKind.u64 2147483648)) 24, type := 4, pos := "frame.go:78", after := #[{ on := 16, ground := Ground.data }, { on := 14, ground := Ground.guard }], guard := some (14, true) }) (v := undef) rfl (by kernel_rfl) (by kernel_rfl) (by kernel_rfl) (fun _ _ _ h => h) (Or.inr ⟨by rfl, rfl⟩) HS ?_
                          simp only [Act.put, List.setIfInBounds_toArray, List.set_cons_zero, List.set_cons_succ]
                          refine wpAnyH_take (i := 18) (oi := { dst := some 113, op := Op.pick (Operand.tmp 109) (Operand.tmp 112) (Operand.const (Value.bool false)), type := 4, pos := "frame.go:78", after := #[{ on := 14, ground := Ground.data }, { on := 17, ground := Ground.data }, { on := 10, ground := Ground.guard }], guard := some (10, false) }) (v := undef) rfl (by kernel_rfl) (by kernel_rfl) (by kernel_rfl) (fun _ _ _ h => h) (Or.inr ⟨by rfl, rfl⟩) HS ?_
                          simp only [Act.put, List.setIfInBounds_toArray, List.set_cons_zero, List.set_cons_succ]
                          refine wpAnyH_take (i := 19) (oi := { dst := some 114, op := Op.pick (Operand.tmp 105) (Operand.const (Value.bool true)) (Operand.tmp 113), type := 4, pos := "frame.go:78", after := #[{ on := 10, ground := Ground.data }, { on := 18, ground := Ground.data }], guard := none }) (v := ?v10) rfl (by kernel_rfl) (by kernel_rfl) (by kernel_rfl) (fun _ _ _ h => h) (Or.inl ⟨by rfl, ?y10⟩) HS ?r10
                          case y10 =>
                            intro w' hSw
                            (try dsimp only at hSw)
                            obtain ⟨k4, k5, k6⟩ := hSw
                            go_simp
                            all_goals (with_reducible rfl)
                          simp only [Act.put, List.setIfInBounds_toArray, List.set_cons_zero, List.set_cons_succ]
                          refine wpAnyH_done (by kernel_rfl) ?_ _
                          go_wp2_with fail
                          go_meet
                          exact ⟨true, rfl, k3, fun h => absurd h (by decide)⟩
                        case true =>
                          refine wpAnyH_take (i := 11) (oi := { dst := some 106, op := Op.fieldAddr 29 (Operand.tmp 5) 0, type := 0, pos := "frame.go:78", after := #[{ on := 10, ground := Ground.guard }], guard := some (10, false) }) (v := ?v11) rfl (by kernel_rfl) (by kernel_rfl) (by kernel_rfl) (fun _ _ _ h => h) (Or.inl ⟨by rfl, ?y11⟩) HS ?r11
                          case y11 =>
                            intro w' hSw
                            (try dsimp only at hSw)
                            obtain ⟨k4, k5, k6⟩ := hSw
                            go_simp
                            all_goals (with_reducible rfl)
                          simp only [Act.put, List.setIfInBounds_toArray, List.set_cons_zero, List.set_cons_succ]
                          refine wpAnyH_take (i := 12) (oi := { dst := some 107, op := Op.load 4 (Operand.tmp 106), type := 4, pos := "frame.go:78", after := #[{ on := 11, ground := Ground.data }, { on := 10, ground := Ground.guard }], guard := some (10, false) }) (v := ?v12) rfl (by kernel_rfl) (by kernel_rfl) (by kernel_rfl) (fun _ _ _ h => h) (Or.inl ⟨by rfl, ?y12⟩) HS ?r12
                          case y12 =>
                            intro w' hSw
                            (try dsimp only at hSw)
                            obtain ⟨k4, k5, k6⟩ := hSw
                            go_simp
                            all_goals (with_reducible rfl)
                          simp only [Act.put, List.setIfInBounds_toArray, List.set_cons_zero, List.set_cons_succ]
                          refine wpAnyH_take (i := 13) (oi := { dst := some 108, op := Op.unOp UnOp.not 4 (Operand.tmp 107), type := 4, pos := "frame.go:78", after := #[{ on := 12, ground := Ground.data }, { on := 10, ground := Ground.guard }], guard := some (10, false) }) (v := ?v13) rfl (by kernel_rfl) (by kernel_rfl) (by kernel_rfl) (fun _ _ _ h => h) (Or.inl ⟨by rfl, ?y13⟩) HS ?r13
                          case y13 =>
                            intro w' hSw
                            (try dsimp only at hSw)
                            obtain ⟨k4, k5, k6⟩ := hSw
                            go_simp
                            all_goals (with_reducible rfl)
                          simp only [Act.put, List.setIfInBounds_toArray, List.set_cons_zero, List.set_cons_succ]
                          cases b0
                          case true =>
                            refine wpAnyH_take (i := 14) (oi := { dst := some 109, op := Op.move (Operand.tmp 108), type := 4, pos := "frame.go:78", after := #[{ on := 13, ground := Ground.data }, { on := 10, ground := Ground.chain }, { on := 10, ground := Ground.guard }], guard := some (10, false) }) (v := ?v14) rfl (by kernel_rfl) (by kernel_rfl) (by kernel_rfl) (fun _ _ _ h => h) (Or.inl ⟨by rfl, ?y14⟩) HS ?r14
                            case y14 =>
                              intro w' hSw
                              (try dsimp only at hSw)
                              obtain ⟨k4, k5, k6⟩ := hSw
                              go_simp
                              all_goals (with_reducible rfl)
                            simp only [Act.put, List.setIfInBounds_toArray, List.set_cons_zero, List.set_cons_succ]
                            refine wpAnyH_take (i := 15) (oi := { dst := some 110, op := Op.fieldAddr 29 (Operand.tmp 5) 5, type := 0, pos := "frame.go:78", after := #[{ on := 14, ground := Ground.guard }], guard := some (14, true) }) (v := undef) rfl (by kernel_rfl) (by kernel_rfl) (by kernel_rfl) (fun _ _ _ h => h) (Or.inr ⟨by rfl, rfl⟩) HS ?_
                            simp only [Act.put, List.setIfInBounds_toArray, List.set_cons_zero, List.set_cons_succ]
                            refine wpAnyH_take (i := 16) (oi := { dst := some 111, op := Op.load 24 (Operand.tmp 110), type := 24, pos := "frame.go:78", after := #[{ on := 15, ground := Ground.data }, { on := 14, ground := Ground.guard }], guard := some (14, true) }) (v := undef) rfl (by kernel_rfl) (by kernel_rfl) (by kernel_rfl) (fun _ _ _ h => h) (Or.inr ⟨by rfl, rfl⟩) HS ?_
                            simp only [Act.put, List.setIfInBounds_toArray, List.set_cons_zero, List.set_cons_succ]
                            refine wpAnyH_take (i := 17) (oi := { dst := some 112, op := Op.binOp BinOp.geq 24 (Operand.tmp 111) (Operand.const (Value.int IntKind.u64 2147483648)) 24, type := 4, pos := "frame.go:78", after := #[{ on := 16, ground := Ground.data }, { on := 14, ground := Ground.guard }], guard := some (14, true) }) (v := undef) rfl (by kernel_rfl) (by kernel_rfl) (by kernel_rfl) (fun _ _ _ h => h) (Or.inr ⟨by rfl, rfl⟩) HS ?_
                            simp only [Act.put, List.setIfInBounds_toArray, List.set_cons_zero, List.set_cons_succ]
                            refine wpAnyH_take (i := 18) (oi := { dst := some 113, op := Op.pick (Operand.tmp 109) (Operand.tmp 112) (Operand.const (Value.bool false)), type := 4, pos := "frame.go:78", after := #[{ on := 14, ground := Ground.data }, { on := 17, ground := Ground.data }, { on := 10, ground := Ground.guard }], guard := some (10, false) }) (v := ?v15) rfl (by kernel_rfl) (by kernel_rfl) (by kernel_rfl) (fun _ _ _ h => h) (Or.inl ⟨by rfl, ?y15⟩) HS ?r15
                            case y15 =>
                              intro w' hSw
                              (try dsimp only at hSw)
                              obtain ⟨k4, k5, k6⟩ := hSw
                              go_simp
                              all_goals (with_reducible rfl)
                            simp only [Act.put, List.setIfInBounds_toArray, List.set_cons_zero, List.set_cons_succ]
                            refine wpAnyH_take (i := 19) (oi := { dst := some 114, op := Op.pick (Operand.tmp 105) (Operand.const (Value.bool true)) (Operand.tmp 113), type := 4, pos := "frame.go:78", after := #[{ on := 10, ground := Ground.data }, { on := 18, ground := Ground.data }], guard := none }) (v := ?v16) rfl (by kernel_rfl) (by kernel_rfl) (by kernel_rfl) (fun _ _ _ h => h) (Or.inl ⟨by rfl, ?y16⟩) HS ?r16
                            case y16 =>
                              intro w' hSw
                              (try dsimp only at hSw)
                              obtain ⟨k4, k5, k6⟩ := hSw
                              go_simp
                              all_goals (with_reducible rfl)
                            simp only [Act.put, List.setIfInBounds_toArray, List.set_cons_zero, List.set_cons_succ]
                            refine wpAnyH_done (by kernel_rfl) ?_ _
                            go_wp2_with fail
                            go_meet
                            exact ⟨_, rfl, k3, fun _ => HGF.out (by trivial)⟩
                          case false =>
                            refine wpAnyH_take (i := 14) (oi := { dst := some 109, op := Op.move (Operand.tmp 108), type := 4, pos := "frame.go:78", after := #[{ on := 13, ground := Ground.data }, { on := 10, ground := Ground.chain }, { on := 10, ground := Ground.guard }], guard := some (10, false) }) (v := ?v17) rfl (by kernel_rfl) (by kernel_rfl) (by kernel_rfl) (fun _ _ _ h => h) (Or.inl ⟨by rfl, ?y17⟩) HS ?r17
                            case y17 =>
                              intro w' hSw
                              (try dsimp only at hSw)
                              obtain ⟨k4, k5, k6⟩ := hSw
                              go_simp
                              all_goals (with_reducible rfl)
                            simp only [Act.put, List.setIfInBounds_toArray, List.set_cons_zero, List.set_cons_succ]
                            refine wpAnyH_take (i := 15) (oi := { dst := some 110, op := Op.fieldAddr 29 (Operand.tmp 5) 5, type := 0, pos := "frame.go:78", after := #[{ on := 14, ground := Ground.guard }], guard := some (14, true) }) (v := ?v18) rfl (by kernel_rfl) (by kernel_rfl) (by kernel_rfl) (fun _ _ _ h => h) (Or.inl ⟨by rfl, ?y18⟩) HS ?r18
                            case y18 =>
                              intro w' hSw
                              (try dsimp only at hSw)
                              obtain ⟨k4, k5, k6⟩ := hSw
                              go_simp
                              all_goals (with_reducible rfl)
                            simp only [Act.put, List.setIfInBounds_toArray, List.set_cons_zero, List.set_cons_succ]
                            refine wpAnyH_take (i := 16) (oi := { dst := some 111, op := Op.load 24 (Operand.tmp 110), type := 24, pos := "frame.go:78", after := #[{ on := 15, ground := Ground.data }, { on := 14, ground := Ground.guard }], guard := some (14, true) }) (v := ?v19) rfl (by kernel_rfl) (by kernel_rfl) (by kernel_rfl) (fun _ _ _ h => h) (Or.inl ⟨by rfl, ?y19⟩) HS ?r19
                            case y19 =>
                              intro w' hSw
                              (try dsimp only at hSw)
                              obtain ⟨k4, k5, k6⟩ := hSw
                              go_simp
                              all_goals (with_reducible rfl)
                            simp only [Act.put, List.setIfInBounds_toArray, List.set_cons_zero, List.set_cons_succ]
                            refine wpAnyH_take (i := 17) (oi := { dst := some 112, op := Op.binOp BinOp.geq 24 (Operand.tmp 111) (Operand.const (Value.int IntKind.u64 2147483648)) 24, type := 4, pos := "frame.go:78", after := #[{ on := 16, ground := Ground.data }, { on := 14, ground := Ground.guard }], guard := some (14, true) }) (v := ?v20) rfl (by kernel_rfl) (by kernel_rfl) (by kernel_rfl) (fun _ _ _ h => h) (Or.inl ⟨by rfl, ?y20⟩) HS ?r20
                            case y20 =>
                              intro w' hSw
                              (try dsimp only at hSw)
                              obtain ⟨k4, k5, k6⟩ := hSw
                              go_simp
                              all_goals (with_reducible rfl)
                            simp only [Act.put, List.setIfInBounds_toArray, List.set_cons_zero, List.set_cons_succ]
                            refine wpAnyH_take (i := 18) (oi := { dst := some 113, op := Op.pick (Operand.tmp 109) (Operand.tmp 112) (Operand.const (Value.bool false)), type := 4, pos := "frame.go:78", after := #[{ on := 14, ground := Ground.data }, { on := 17, ground := Ground.data }, { on := 10, ground := Ground.guard }], guard := some (10, false) }) (v := ?v21) rfl (by kernel_rfl) (by kernel_rfl) (by kernel_rfl) (fun _ _ _ h => h) (Or.inl ⟨by rfl, ?y21⟩) HS ?r21
                            case y21 =>
                              intro w' hSw
                              (try dsimp only at hSw)
                              obtain ⟨k4, k5, k6⟩ := hSw
                              go_simp
                              all_goals (with_reducible rfl)
                            simp only [Act.put, List.setIfInBounds_toArray, List.set_cons_zero, List.set_cons_succ]
                            refine wpAnyH_take (i := 19) (oi := { dst := some 114, op := Op.pick (Operand.tmp 105) (Operand.const (Value.bool true)) (Operand.tmp 113), type := 4, pos := "frame.go:78", after := #[{ on := 10, ground := Ground.data }, { on := 18, ground := Ground.data }], guard := none }) (v := ?v22) rfl (by kernel_rfl) (by kernel_rfl) (by kernel_rfl) (fun _ _ _ h => h) (Or.inl ⟨by rfl, ?y22⟩) HS ?r22
                            case y22 =>
                              intro w' hSw
                              (try dsimp only at hSw)
                              obtain ⟨k4, k5, k6⟩ := hSw
                              go_simp
                              all_goals (with_reducible rfl)
                            simp only [Act.put, List.setIfInBounds_toArray, List.set_cons_zero, List.set_cons_succ]
                            refine wpAnyH_done (by kernel_rfl) ?_ _
                            go_wp2_with fail
                            go_meet
                            exact ⟨_, rfl, k3, fun _ => HGF.out (by trivial)⟩
                      case rest =>
                        obtain ⟨bb, rfl, hst, hgd⟩ := hcut
                        have X11 := Lib.hid hst
                        clear hst d0 d5 HCD HCV hcvA X10 HK10
                        rename_i Ka hKa Kb hKb
                        cases bb
                        case true =>
                          clear hgd
                          obtain ⟨b0, i1, i2, i3, i4, i5, hk⟩ := X11.out.hd
                          have c0 : wc.cell? ⟨N + 1, 0, none⟩ = some (.bool b0) := by rw [cell_of_row wc (N + 1) 0 _ _ _ hk]; rfl
                          have c1 : wc.cell? ⟨N + 1, 1, none⟩ = some (.int .i64 i1) := by rw [cell_of_row wc (N + 1) 1 _ _ _ hk]; rfl
                          have c2 : wc.cell? ⟨N + 1, 2, none⟩ = some (.int .i64 i2) := by rw [cell_of_row wc (N + 1) 2 _ _ _ hk]; rfl
                          have c3 : wc.cell? ⟨N + 1, 3, none⟩ = some (.int .i64 i3) := by rw [cell_of_row wc (N + 1) 3 _ _ _ hk]; rfl
                          have c4 : wc.cell? ⟨N + 1, 4, none⟩ = some (.int .i64 i4) := by rw [cell_of_row wc (N + 1) 4 _ _ _ hk]; rfl
                          have c5 : wc.cell? ⟨N + 1, 5, none⟩ = some (.int .u64 i5) := by rw [cell_of_row wc (N + 1) 5 _ _ _ hk]; rfl
                          have hr := X11.out.res
                          have r0 : wc.cell? ⟨N, 0, none⟩ = some (.bool false) := by rw [cell_of_row wc N 0 _ _ _ hr]; rfl
                          have s0 : wc.frozen? ⟨N, 0, none⟩ = false := by simp [World.frozen?, hr]
                          have r1 : wc.cell? ⟨N, 1, none⟩ = some (.int .i64 0) := by rw [cell_of_row wc N 1 _ _ _ hr]; rfl
                          have s1 : wc.frozen? ⟨N, 1, none⟩ = false := by simp [World.frozen?, hr]
                          have r2 : wc.cell? ⟨N, 2, none⟩ = some (.int .i64 0) := by rw [cell_of_row wc N 2 _ _ _ hr]; rfl
                          have s2 : wc.frozen? ⟨N, 2, none⟩ = false := by simp [World.frozen?, hr]
                          have r3 : wc.cell? ⟨N, 3, none⟩ = some (.int .i64 0) := by rw [cell_of_row wc N 3 _ _ _ hr]; rfl
                          have s3 : wc.frozen? ⟨N, 3, none⟩ = false := by simp [World.frozen?, hr]
                          have r4 : wc.cell? ⟨N, 4, none⟩ = some (.int .i64 0) := by rw [cell_of_row wc N 4 _ _ _ hr]; rfl
                          have s4 : wc.frozen? ⟨N, 4, none⟩ = false := by simp [World.frozen?, hr]
                          have r5 : wc.cell? ⟨N, 5, none⟩ = some (.int .u64 0) := by rw [cell_of_row wc N 5 _ _ _ hr]; rfl
                          have s5 : wc.frozen? ⟨N, 5, none⟩ = false := by simp [World.frozen?, hr]
                          go_wp2_with fail
                          obtain ⟨wz, hwz, hbz, t0, t1, t2, t3, t4, t5⟩ := rh_ret X11.out b0 i1 i2 i3 i4 i5
                          rw [hwz]
                          exact bodyPost_ret (v := .tuple #[.agg #[.bool b0, .int .i64 i1, .int .i64 i2, .int .i64 i3, .int .i64 i4, .int .u64 i5], .int .i64 0, .int .i64 2]) (by simp [results, Tryd.results7, go_sem, t0, t1, t2, t3, t4, t5]) rfl ⟨by rw [X11.out.hN] at hbz; exact hbz, b0, i1, i2, i3, i4, i5, 0, 2, rfl, fun h => absurd h (by decide)⟩
                        case false =>
                          have HG := Lib.hid (hgd rfl)
                          refine hKb _ _ ?_
                          first | go_values | go_skip | go_guarded | go_step
                          refine wp_skip ?_
                          refine hKa _ _ ?_
                          exact rh_tail1 hc hn hn6 HBY HBX HNL HL hlen hv4 hv5 hv7 HV4 HV5 HNV HN7 hkl2 X11 HG
end Go.Proofs.YtcdfbcanebjmfaaDoor.Walk
