/- What laws.encodable leaves in memory: the subframes' cells, plain. -/
import Derived.Test.YtmcllndnjdemaaaGreatDoorRa
namespace Go.Proofs.YtmcllndnjdemaaaGreatDoor.Walk
set_option linter.unusedVariables false
set_option linter.unusedSimpArgs false
open Go Go.RowKit Go.Proofs.YtmcllndnjdemaaaGreatDoorW.PrintWords Go.Proofs.YtmcllndnjdemaaaGreatDoorW.PrintLast Go.Proofs.YtmcllndnjdemaaaGreatDoorW.PrintMore Go.Proofs.YtmcllndnjdemaaaGreatDoor.Num Go.Proofs.YtmcllndnjdemaaaGreatDoor.Crc Go.Proofs.YtmcllndnjdemaaaGreatDoor.PFnEncode
def SubCells (w : World) (ss : List Value) (j : Nat) (s : Sb) : Prop := ∃ gx cx gq cq, ss[j * 9]? = some (.int .i64 s.K) ∧ ss[j * 9 + 1]? = some (.int .i64 s.o) ∧ ss[j * 9 + 2]? = some (.int .i64 0) ∧
 ss[j * 9 + 3]? = some (.slice (some ⟨gx, 0, none⟩) s.xs.length cx) ∧ ss[j * 9 + 4]? = some (.slice none 0 0) ∧ ss[j * 9 + 5]? = some (.int .i64 0) ∧ ss[j * 9 + 6]? = some (.int .i64 0) ∧ ss[j * 9 + 7]? = some (.int .i64 0) ∧
 ss[j * 9 + 8]? = some (.slice (some ⟨gq, 0, none⟩) 1 cq) ∧ Row32 w gx s.xs ∧ ∃ cs, w.heap[gq]? = some (.cells cs 3 (0, 0)) ∧ cs[0]? = some (.int .i64 12)
theorem SubCells.touch {w w' : World} {ss : List Value} {j : Nat} {s : Sb} (h : SubCells w ss j s) {U : List Nat} (t : Touch U w w') (hU : ∀ k ∈ U, ∃ cs ty fz, w.heap[k]? = some (.cells cs ty fz) ∧ ty ≠ 3 ∧ ty ≠ 21) : SubCells w' ss j s := by
 obtain ⟨gx, cx, gq, cq, h0, h1, h2, h3, h4, h5, h6, h7, h8, ⟨cx2, h9, h9b⟩, cs, h10, h11⟩ := h
 refine ⟨gx, cx, gq, cq, h0, h1, h2, h3, h4, h5, h6, h7, h8, ⟨cx2, t.heap h9 (fun hm => ?_), h9b⟩, cs, t.heap h10 (fun hm => ?_), h11⟩
 ·obtain ⟨_, _, _, k1, k2, k3⟩ := hU _ hm
  exact blk_ne h9 k1 (fun e => k3 e.symm) rfl
 ·obtain ⟨_, _, _, k1, k2, k3⟩ := hU _ hm
  exact blk_ne h10 k1 (fun e => k2 e.symm) rfl
theorem SubCells.below {w w' : World} {ss : List Value} {j : Nat} {s : Sb} (h : SubCells w ss j s) (b : Below w.heap.size w w') : SubCells w' ss j s := h.touch (Touch.of_below (S := []) b) (by simp)
theorem SubCells.app {w : World} {ss ts : List Value} {j : Nat} {s : Sb} (h : SubCells w ss j s) : SubCells w (ss ++ ts) j s := by
 obtain ⟨gx, cx, gq, cq, h0, h1, h2, h3, h4, h5, h6, h7, h8, h9⟩ := h
 have key : ∀ {i : Nat} {v : Value}, ss[i]? = some v → (ss ++ ts)[i]? = some v := fun {i v} h => by
  rw [List.getElem?_append_left (List.getElem?_eq_some_iff.1 h).1]; exact h
 exact ⟨gx, cx, gq, cq, key h0, key h1, key h2, key h3, key h4, key h5, key h6, key h7, key h8, h9⟩
def SubsAre (w : World) (ss : List Value) (fs : List Sb) (j : Nat) : Prop := ∀ k, k < j → SubCells w ss k (fs.getD k ⟨0, 0, []⟩)
theorem SubsAre.touch {w w' : World} {ss : List Value} {fs : List Sb} {j : Nat} (h : SubsAre w ss fs j) {U : List Nat} (t : Touch U w w') (hU : ∀ k ∈ U, ∃ cs ty fz, w.heap[k]? = some (.cells cs ty fz) ∧ ty ≠ 3 ∧ ty ≠ 21) : SubsAre w' ss fs j := fun k hk => (h k hk).touch t hU
theorem SubsAre.snoc {w : World} {ss ts : List Value} {fs : List Sb} {j : Nat} {s : Sb} (h : SubsAre w ss fs j) (hf : fs.length = j) (hs : SubCells w (ss ++ ts) j s) : SubsAre w (ss ++ ts) (fs ++ [s]) (j + 1) := fun k hk => by
 by_cases hl : k < j
 ·have e : (fs ++ [s]).getD k ⟨0, 0, []⟩ = fs.getD k ⟨0, 0, []⟩ := by rw [List.getD_eq_getElem?_getD, List.getD_eq_getElem?_getD, List.getElem?_append_left (by omega)]
  rw [e]; exact (h k hl).app
 ·obtain rfl : k = j := by omega
  have e : (fs ++ [s]).getD k ⟨0, 0, []⟩ = s := by rw [List.getD_eq_getElem?_getD, List.getElem?_append_right (by omega), hf, Nat.sub_self]; rfl
  rw [e]; exact hs
theorem subCells_new {w : World} {ss : List Value} {j K o gx cx gq cq : Nat} {xs : List Int} {cs : Array Value} (hl : ss.length = j * 9) (hr : Row32 w gx xs) (hq : w.heap[gq]? = some (.cells cs 3 (0, 0))) (h0 : cs[0]? = some (.int .i64 12)) :
  SubCells w (ss ++ [.int .i64 K, .int .i64 o, .int .i64 0, .slice (some ⟨gx, 0, none⟩) xs.length cx, .slice none 0 0, .int .i64 0, .int .i64 0, .int .i64 0, .slice (some ⟨gq, 0, none⟩) 1 cq]) j ⟨K, o, xs⟩ := by
 refine ⟨gx, cx, gq, cq, ?_, ?_, ?_, ?_, ?_, ?_, ?_, ?_, ?_, hr, cs, hq, h0⟩
 ·rw [List.getElem?_append_right (by omega), hl, show j * 9 - j * 9 = 0 by omega]; rfl
 ·rw [List.getElem?_append_right (by omega), hl, show j * 9 + 1 - j * 9 = 1 by omega]; rfl
 ·rw [List.getElem?_append_right (by omega), hl, show j * 9 + 2 - j * 9 = 2 by omega]; rfl
 ·rw [List.getElem?_append_right (by omega), hl, show j * 9 + 3 - j * 9 = 3 by omega]; rfl
 ·rw [List.getElem?_append_right (by omega), hl, show j * 9 + 4 - j * 9 = 4 by omega]; rfl
 ·rw [List.getElem?_append_right (by omega), hl, show j * 9 + 5 - j * 9 = 5 by omega]; rfl
 ·rw [List.getElem?_append_right (by omega), hl, show j * 9 + 6 - j * 9 = 6 by omega]; rfl
 ·rw [List.getElem?_append_right (by omega), hl, show j * 9 + 7 - j * 9 = 7 by omega]; rfl
 ·rw [List.getElem?_append_right (by omega), hl, show j * 9 + 8 - j * 9 = 8 by omega]; rfl
theorem nums_at {k : IntKind} {xs : List Int} {i : Nat} (hi : i < xs.length) : (nums k xs)[i]? = some (.int k (xs.getD i 0)) := by
 unfold nums
 rw [List.getElem?_map, List.getElem?_eq_getElem hi, List.getD_eq_getElem?_getD, List.getElem?_eq_getElem hi]; rfl
theorem own_cell {w : World} {B n size : Nat} {e : TypeId} {g c : Nat} {xs : List Value} (h : w.ownsRow B e size (.slice (some ⟨g, 0, none⟩) n c) n xs) {i : Nat} {v : Value} (hi : xs[i]? = some v) : w.cell? ⟨g, i, none⟩ = some v := by
 obtain ⟨hl, ⟨h1, _⟩ | ⟨g', cap, cur, h1, _, h2, _, _, _, h3⟩⟩ := h
 ·cases h1
 ·injection h1 with h1 _ _
  injection h1 with h1
  injection h1 with h1 _ _
  subst h1
  rw [cell_of_row w g i _ _ _ h2]
  rw [← h3] at hi
  have h4 := List.getElem?_eq_some_iff.1 hi
  obtain ⟨h5, h6⟩ := h4
  rw [List.getElem_take] at h6
  rw [← Array.getElem?_toList, List.getElem?_eq_getElem (by rw [List.length_take] at h5; omega), h6]
theorem row32_of {w : World} {B n g c : Nat} {xs : List Int} (h : w.ownsRow B 21 1 (.slice (some ⟨g, 0, none⟩) n c) n (nums .i32 xs)) : Row32 w g xs := by
 obtain ⟨hl, ⟨h1, _⟩ | ⟨g', cap, cur, h1, _, h2, _, _, _, h3⟩⟩ := h
 ·cases h1
 ·injection h1 with h1 _ _
  injection h1 with h1
  injection h1 with h1 _ _
  subst h1
  refine ⟨cur, h2, fun i hi => ?_⟩
  have hi2 : (nums .i32 xs)[i]? = some (.int .i32 (xs.getD i 0)) := by
   unfold nums
   rw [List.getElem?_map, List.getElem?_eq_getElem hi, List.getD_eq_getElem?_getD, List.getElem?_eq_getElem hi]; rfl
  rw [← h3] at hi2
  obtain ⟨h5, h6⟩ := List.getElem?_eq_some_iff.1 hi2
  rw [List.getElem_take] at h6
  rw [← Array.getElem?_toList, List.getElem?_eq_getElem (by rw [List.length_take] at h5; omega), h6]
theorem SubCells.imp {w : World} {B n g c : Nat} {ss : List Value} {j : Nat} {s : Sb} (h : SubCells w ss j s) (ho : w.ownsRow B 59 9 (.slice (some ⟨g, 0, none⟩) n c) n ss) : ImpSub w g j s := by
 obtain ⟨gx, cx, gq, cq, h0, h1, h2, h3, h4, h5, h6, h7, h8, h9, cs, h10, h11⟩ := h
 exact ⟨gx, cx, gq, cq, own_cell ho h0, own_cell ho h1, own_cell ho h2, own_cell ho h3, own_cell ho h4, own_cell ho h5, own_cell ho h6, own_cell ho h7, own_cell ho h8, h9, by rw [cell_of_row w gq 0 _ _ _ h10]; exact h11⟩
end Go.Proofs.YtmcllndnjdemaaaGreatDoor.Walk
namespace Go.Proofs.YtmcllndnjdemaaaGreatDoor.Walk
set_option linter.unusedVariables false
set_option linter.unusedSimpArgs false
open Go Go.RowKit Go.Proofs.YtmcllndnjdemaaaGreatDoorW.PrintWords Go.Proofs.YtmcllndnjdemaaaGreatDoorW.PrintLast Go.Proofs.YtmcllndnjdemaaaGreatDoorW.PrintMore Go.Proofs.YtmcllndnjdemaaaGreatDoor.Num Go.Proofs.YtmcllndnjdemaaaGreatDoor.Crc Go.Proofs.YtmcllndnjdemaaaGreatDoor.PFnEncode
abbrev F0 : Fr := ⟨false, 0, []⟩
def FrsAre (w : World) (B : Nat) (ls : List Value) (fe : List Fr) (rt asg bp k : Nat) : Prop := ∀ i, i < k → ∃ (nm : Nat) (sv : Value) (ss : List Value), ls[i * 7]? = some (.bool (fe.getD i F0).vr) ∧ ls[i * 7 + 1]? = some (.int .i64 (fe.getD i F0).sz) ∧ ls[i * 7 + 2]? = some (.int .i64 rt) ∧ ls[i * 7 + 3]? = some (.int .i64 asg) ∧
 ls[i * 7 + 4]? = some (.int .i64 bp) ∧ ls[i * 7 + 5]? = some (.int .u64 nm) ∧ ls[i * 7 + 6]? = some sv ∧ w.ownsRow B 59 9 sv (fe.getD i F0).subs.length ss ∧ SubsAre w ss (fe.getD i F0).subs (fe.getD i F0).subs.length
theorem FrsAre.touch {w w' : World} {B : Nat} {ls : List Value} {fe : List Fr} {rt asg bp k : Nat} (h : FrsAre w B ls fe rt asg bp k) {U : List Nat} (t : Touch U w w') (hU : ∀ k ∈ U, ∃ cs ty fz, w.heap[k]? = some (.cells cs ty fz) ∧ ty ≠ 3 ∧ ty ≠ 21 ∧ ty ≠ 59) : FrsAre w' B ls fe rt asg bp k := fun i hi => by
 obtain ⟨nm, sv, ss, h0, h1, h2, h3, h4, h5, h6, h7, h8⟩ := h i hi
 refine ⟨nm, sv, ss, h0, h1, h2, h3, h4, h5, h6, own_touch h7 t (fun q hq hm => ?_), h8.touch t (fun q hq => ?_)⟩
 ·obtain ⟨cs, ty, fz, k1, _, _, k2⟩ := hU q hm
  obtain ⟨_, cs', k3⟩ := own_ty h7 q (by rw [hq]; simp)
  exact blk_ne k3 k1 (fun e => k2 e.symm) rfl
 ·obtain ⟨cs, ty, fz, k1, k2, k3, _⟩ := hU q hq
  exact ⟨cs, ty, fz, k1, k2, k3⟩
theorem FrsAre.snoc {w : World} {B : Nat} {ls : List Value} {fe : List Fr} {rt asg bp k nm : Nat} {f : Fr} {sv : Value} {ss : List Value} (h : FrsAre w B ls fe rt asg bp k) (hl : ls.length = k * 7) (hf : fe.length = k) (ho : w.ownsRow B 59 9 sv f.subs.length ss) (hs : SubsAre w ss f.subs f.subs.length) :
  FrsAre w B (ls ++ [.bool f.vr, .int .i64 f.sz, .int .i64 rt, .int .i64 asg, .int .i64 bp, .int .u64 nm, sv]) (fe ++ [f]) rt asg bp (k + 1) := fun i hi => by
 by_cases hlt : i < k
 ·obtain ⟨nm', sv', ss', h0, h1, h2, h3, h4, h5, h6, h7⟩ := h i hlt
  have e : (fe ++ [f]).getD i F0 = fe.getD i F0 := by rw [List.getD_eq_getElem?_getD, List.getD_eq_getElem?_getD, List.getElem?_append_left (by omega)]
  rw [e]
  refine ⟨nm', sv', ss', ?_, ?_, ?_, ?_, ?_, ?_, ?_, h7⟩ <;> (rw [List.getElem?_append_left (by omega)]; assumption)
 ·obtain rfl : i = k := by omega
  have e : (fe ++ [f]).getD i F0 = f := by rw [List.getD_eq_getElem?_getD, List.getElem?_append_right (by omega), hf, Nat.sub_self]; rfl
  rw [e]
  refine ⟨nm, sv, ss, ?_, ?_, ?_, ?_, ?_, ?_, ?_, ho, hs⟩
  ·rw [List.getElem?_append_right (by omega), hl, show i * 7 - i * 7 = 0 by omega]; rfl
  ·rw [List.getElem?_append_right (by omega), hl, show i * 7 + 1 - i * 7 = 1 by omega]; rfl
  ·rw [List.getElem?_append_right (by omega), hl, show i * 7 + 2 - i * 7 = 2 by omega]; rfl
  ·rw [List.getElem?_append_right (by omega), hl, show i * 7 + 3 - i * 7 = 3 by omega]; rfl
  ·rw [List.getElem?_append_right (by omega), hl, show i * 7 + 4 - i * 7 = 4 by omega]; rfl
  ·rw [List.getElem?_append_right (by omega), hl, show i * 7 + 5 - i * 7 = 5 by omega]; rfl
  ·rw [List.getElem?_append_right (by omega), hl, show i * 7 + 6 - i * 7 = 6 by omega]; rfl
theorem FrsAre.imp {w : World} {B B2 gl m cl : Nat} {ls : List Value} {fe : List Fr} {rt asg bp : Nat} (h : FrsAre w B ls fe rt asg bp m) (ho : w.ownsRow B2 36 7 (.slice (some ⟨gl, 0, none⟩) m cl) m ls) (hl : fe.length = m) (hp : ∀ f ∈ fe, 0 < f.subs.length) (i : Nat) (hi : i < fe.length) :
  ImpFr w gl i fe[i] rt asg bp := by
 obtain ⟨nm, sv, ss, h0, h1, h2, h3, h4, h5, h6, h7, h8⟩ := h i (by omega)
 have e : fe.getD i F0 = fe[i] := by rw [List.getD_eq_getElem?_getD, List.getElem?_eq_getElem hi]; rfl
 rw [e] at h0 h1 h7 h8
 obtain ⟨gb, cb, rfl, _, _⟩ := h7.form (hp _ (List.getElem_mem hi))
 refine ⟨gb, cb, nm, own_cell ho h0, own_cell ho h1, own_cell ho h2, own_cell ho h3, own_cell ho h4, own_cell ho h5, own_cell ho h6, fun j hj => ?_⟩
 have k := (h8 j hj).imp h7
 rw [List.getD_eq_getElem?_getD, List.getElem?_eq_getElem hj] at k
 exact k
theorem rows_cells {w : World} {B g n c : Nat} {vs : List Value} {fs : List Fr} (ho : w.ownsRow B 38 1 (.slice (some ⟨g, 0, none⟩) n c) n vs) (hr : AllRows w B vs fs n) (k : Nat) (hk : k < n) {nch sz : Nat} (hn : (fs.getD k F0).subs.length = nch) (hn0 : 0 < nch) (hs0 : 0 < sz)
  (hsz : ∀ s ∈ (fs.getD k F0).subs, s.xs.length = sz) : ∃ gk ck, w.cell? ⟨g, k, none⟩ = some (.slice (some ⟨gk, 0, none⟩) nch ck) ∧ ∀ q, q < nch → ∃ gx cx, w.cell? ⟨gk, q, none⟩ = some (.slice (some ⟨gx, 0, none⟩) sz cx) ∧
   ∀ j, j < sz → w.cell? ⟨gx, j, none⟩ = some (.int .i64 (((fs.getD k F0).subs.getD q ⟨0, 0, []⟩).xs.getD j 0)) := by
 obtain ⟨u, h1, us, h2, h3⟩ := hr k hk
 change w.ownsRow B 44 1 u (fs.getD k F0).subs.length us at h2
 change ∀ c, c < (fs.getD k F0).subs.length → ∃ u, us[c]? = some u ∧ w.ownsRow B 3 1 u ((fs.getD k F0).subs.getD c ⟨0, 0, []⟩).xs.length (nums .i64 ((fs.getD k F0).subs.getD c ⟨0, 0, []⟩).xs) at h3
 obtain ⟨S, hS⟩ : ∃ S, (fs.getD k F0).subs = S := ⟨_, rfl⟩
 rw [hS] at hn hsz h2 h3 ⊢
 rw [hn] at h2 h3
 obtain ⟨gk, ck, rfl, _, _⟩ := h2.form hn0
 refine ⟨gk, ck, own_cell ho h1, fun q hq => ?_⟩
 obtain ⟨x, h4, h5⟩ := h3 q hq
 have hlen : (S.getD q ⟨0, 0, []⟩).xs.length = sz := by
  rw [List.getD_eq_getElem?_getD, List.getElem?_eq_getElem (by omega)]; exact hsz _ (List.getElem_mem _)
 rw [hlen] at h5
 obtain ⟨gx, cx, rfl, _, _⟩ := h5.form hs0
 exact ⟨gx, cx, own_cell h2 h4, fun j hj => own_cell h5 (nums_at (by omega))⟩
end Go.Proofs.YtmcllndnjdemaaaGreatDoor.Walk
