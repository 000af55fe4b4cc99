/- (*spec.writer).channel, of the way 'verbatim'. -/
import Derived.Test.YtmcllndnjdemaaaGreatDoorFi
import Derived.Test.YtmcllndnjdemaaaGreatDoorWh
namespace Go.Proofs.YtmcllndnjdemaaaGreatDoor.Walk
set_option linter.unusedVariables false
set_option linter.unusedSimpArgs false
open Go Go.RowKit Go.Proofs.YtmcllndnjdemaaaGreatDoorW.PrintWords Go.Proofs.YtmcllndnjdemaaaGreatDoorW.PrintLast Go.Proofs.YtmcllndnjdemaaaGreatDoorW.PrintMore Go.Proofs.YtmcllndnjdemaaaGreatDoor.Num Go.Proofs.YtmcllndnjdemaaaGreatDoor.Crc Go.Proofs.YtmcllndnjdemaaaGreatDoor.PFnEncode
def Pins (K : List (Nat × Obj)) (w : World) : Prop := ∀ q ∈ K, w.heap[q.1]? = some q.2
theorem Wk.pins {K : List (Nat × Obj)} {B gw n : Nat} {w : World} (h : Wk K B gw n w) : Pins K w := fun q hq => h.pinned hq
set_option maxHeartbeats 16000000 in
set_option maxRecDepth 100000 in
theorem channel_1 {K : List (Nat × Obj)} {B gw n0 bits n c : Nat} {A : Option Addr} {xs : List Int} {w0 w : World} (hW : Wk K B gw n0 w) (hB : Below B w0 w) (hB0 : B ≤ w0.heap.size) (hS : ∀ W, Below B w0 W → Pins K W → ReadsInt W .i64 A n xs) (hx : ∀ x ∈ xs, -1099511627776 ≤ x ∧ x ≤ 1099511627776) (hbits : bits ≤ 25) (hn : n ≤ 1000) (hlim : n0 ≤ 1000000) :
  Calls Tryz.prog 28 #[.pointer (some ⟨gw, 0, none⟩), .slice A n c, .int .i64 bits, .agg #[.int .i64 1, .int .i64 0, .int .i64 0, .slice none 0 0, .int .i64 0, .int .i64 0, .int .i64 0, .int .i64 0, .bool false, .int .i64 0]] w fun e w' => e = .returned (.tuple #[]) ∧ Wk K B gw (n0 + 8 + bits * n) w' ∧ Below B w0 w' := by
 have HS := Lib.hid hS
 have HX := Lib.hid hx
 have HB := Lib.hid (And.intro hW (And.intro hB hB0))
 clear hS hx hW hB hB0
 obtain ⟨M, hM⟩ : ∃ M, w.heap.size = M := ⟨_, rfl⟩
 go_enter Tryz.func28, Tryz.ntmps28
 go_wp2_with fail
 obtain ⟨w1, hw1⟩ : ∃ w1, w.alloc (.cells #[.int .i64 1, .int .i64 0, .int .i64 0, .slice none 0 0, .int .i64 0, .int .i64 0, .int .i64 0, .int .i64 0, .bool false, .int .i64 0] 51) = w1 := ⟨_, rfl⟩
 have hb1 : Below w.heap.size w w1 := by rw [← hw1]; exact below_alloc (Below.refl _ _) _
 have hm1 : w1.heap[M]? = some (.cells #[.int .i64 1, .int .i64 0, .int .i64 0, .slice none 0 0, .int .i64 0, .int .i64 0, .int .i64 0, .int .i64 0, .bool false, .int .i64 0] 51 (0, 0)) := by rw [← hw1, ← hM]; exact heap_alloc_new _ _
 have hk1 := HB.out.1.pin (Touch.of_below hb1) (Nat.le_of_eq hM) hm1
 have hB1 : Below B w0 w1 := below_then HB.out.2.1 (Nat.le_trans HB.out.2.2 HB.out.2.1.size) hb1
 rw [hw1]
 have X1 := Lib.hid (And.intro hk1 hB1)
 clear hw1 hb1 hm1 hk1 hB1 hM
 refine (wk_word _ B gw 1 n0 0 w0 w1 X1.out.1 X1.out.2 (by decide) (by decide) (by decide) (by omega)).mono ?_
 rintro e w2 ⟨rfl, hk, hb⟩
 have X2 := Lib.hid (And.intro hk hb)
 have hm := hk.pinned (q := (M, .cells #[.int .i64 1, .int .i64 0, .int .i64 0, .slice none 0 0, .int .i64 0, .int .i64 0, .int .i64 0, .int .i64 0, .bool false, .int .i64 0] 51 (0, 0))) (by simp)
 dsimp only at hm
 have c0 : w2.cell? ⟨M, 0, none⟩ = some (.int .i64 1) := by rw [cell_of_row w2 M 0 _ _ _ hm]; rfl
 have c1 : w2.cell? ⟨M, 1, none⟩ = some (.int .i64 0) := by rw [cell_of_row w2 M 1 _ _ _ hm]; rfl
 have c2 : w2.cell? ⟨M, 2, none⟩ = some (.int .i64 0) := by rw [cell_of_row w2 M 2 _ _ _ hm]; rfl
 have e0 : (w2.alloc (.cells #[.int .i64 0, .int .i64 1, .int .i64 8, .int .i64 31] 3)).cell? ⟨M, 0, none⟩ = some (.int .i64 1) := cell_al c0
 clear hk hb hm X1
 go_wp2_with fail
 have X2b := Lib.hid (And.intro (X2.out.1.move (U := []) ((Touch.refl _ _).alloc (.cells #[.int .i64 0, .int .i64 1, .int .i64 8, .int .i64 31] 3)) (by simp) (by simp)) (X2.out.2.alloc (Nat.le_trans HB.out.2.2 X2.out.2.size) (.cells #[.int .i64 0, .int .i64 1, .int .i64 8, .int .i64 31] 3)))
 clear e0 c0 c1 c2 X2
 refine (wk_word _ B gw 6 _ 1 w0 _ X2b.out.1 X2b.out.2 (by omega) (by omega) (by omega) (by omega)).mono ?_
 rintro e w3 ⟨rfl, hk, hb⟩
 have X3 := Lib.hid (And.intro hk hb)
 have hm := hk.pinned (q := (M, .cells #[.int .i64 1, .int .i64 0, .int .i64 0, .slice none 0 0, .int .i64 0, .int .i64 0, .int .i64 0, .int .i64 0, .bool false, .int .i64 0] 51 (0, 0))) (by simp)
 dsimp only at hm
 have c2 : w3.cell? ⟨M, 2, none⟩ = some (.int .i64 0) := by rw [cell_of_row w3 M 2 _ _ _ hm]; rfl
 clear hk hb hm X2b
 go_wp2_with fail
 refine (wk_word _ B gw 1 _ 0 w0 _ X3.out.1 X3.out.2 (by omega) (by omega) (by omega) (by omega)).mono ?_
 rintro e w4 ⟨rfl, hk, hb⟩
 have X4 := Lib.hid (And.intro hk hb)
 have hm := hk.pinned (q := (M, .cells #[.int .i64 1, .int .i64 0, .int .i64 0, .slice none 0 0, .int .i64 0, .int .i64 0, .int .i64 0, .int .i64 0, .bool false, .int .i64 0] 51 (0, 0))) (by simp)
 dsimp only at hm
 have c0 : w4.cell? ⟨M, 0, none⟩ = some (.int .i64 1) := by rw [cell_of_row w4 M 0 _ _ _ hm]; rfl
 have c2 : w4.cell? ⟨M, 2, none⟩ = some (.int .i64 0) := by rw [cell_of_row w4 M 2 _ _ _ hm]; rfl
 clear hk hb hm X3 c2
 have c2 : w4.cell? ⟨M, 2, none⟩ = some (.int .i64 0) := by rw [cell_of_row w4 M 2 _ _ _ (X4.out.1.pinned (q := (M, .cells #[.int .i64 1, .int .i64 0, .int .i64 0, .slice none 0 0, .int .i64 0, .int .i64 0, .int .i64 0, .int .i64 0, .bool false, .int .i64 0] 51 (0, 0))) (by simp))]; rfl
 go_wp2_with fail
 go_loopw [75] (fun iv wx => ∃ i : Nat, iv = .int .i64 i ∧ i ≤ n ∧ Wk ((M, .cells #[.int .i64 1, .int .i64 0, .int .i64 0, .slice none 0 0, .int .i64 0, .int .i64 0, .int .i64 0, .int .i64 0, .bool false, .int .i64 0] 51 (0, 0)) :: K) B gw (n0 + 8 + bits * i) wx ∧ Below B w0 wx) (fun iv _ => n - (intOf iv).toNat)
 case atStart => exact ⟨0, rfl, by omega, X4.out.1, X4.out.2⟩
 case round =>
  obtain ⟨i, rfl, hi, hk, hb⟩ := hrel
  have X := Lib.hid (And.intro hk hb)
  have hm := hk.pinned (q := (M, .cells #[.int .i64 1, .int .i64 0, .int .i64 0, .slice none 0 0, .int .i64 0, .int .i64 0, .int .i64 0, .int .i64 0, .bool false, .int .i64 0] 51 (0, 0))) (by simp)
  dsimp only at hm
  have d2 : wr.cell? ⟨M, 2, none⟩ = some (.int .i64 0) := by rw [cell_of_row wr M 2 _ _ _ hm]; rfl
  have hR := HS.out wr hb (fun q hq => hk.pins q (List.mem_cons_of_mem _ hq))
  have hlen := hR.1
  by_cases hlt : i < n
  ·obtain ⟨ad, rfl, hcell⟩ := hR.2.2 (by omega)
   have e1 := hcell i hlt
   obtain ⟨x, hx⟩ : ∃ x, xs.getD i 0 = x := ⟨_, rfl⟩
   have hxb := HX.out x (by rw [← hx, List.getD_eq_getElem?_getD, List.getElem?_eq_getElem (by omega)]; exact List.getElem_mem _)
   have hx1 := hxb.1
   have hx2 := hxb.2
   rw [hx] at e1
   obtain ⟨m, hm2⟩ : ∃ m, bits * i = m := ⟨_, rfl⟩
   have hmb : m ≤ 25000 := by rw [← hm2]; exact Nat.le_trans (Nat.mul_le_mul hbits (show i ≤ 1000 by omega)) (by decide)
   have HM := Lib.hid hm2
   rw [hm2] at X
   clear hk hb hm hR hcell hx hxb hm2 hlen
   go_wp2_with fail
   refine (wk_word _ B gw bits _ x w0 _ X.out.1 X.out.2 (by omega) (by omega) (by omega) (by omega)).mono ?_
   rintro e w5 ⟨rfl, hk, hb⟩
   go_wp2_with fail
   go_roundw
   case rel => exact ⟨i + 1, by go_num, by omega, by rw [Nat.mul_succ, HM.out, ← Nat.add_assoc]; exact hk, hb⟩
   case measure => simp [intOf]; omega
  ·obtain rfl : i = n := by omega
   clear hk hb hm hR hlen
   go_wp2_with fail
   exact bodyPost_ret (v := .tuple #[]) (by simp [results, Tryz.results28, go_sem]) rfl ⟨rfl, X.out.1.unpin, X.out.2⟩
end Go.Proofs.YtmcllndnjdemaaaGreatDoor.Walk
