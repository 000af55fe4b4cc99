/- Sinks: what a writer's interface value is to its caller: the bytes so far. bitio.Writer over any sink. -/
import Derived.Test.YtmcllndnjdemaaaGreatDoorBase
import Derived.Lib.OthersKept
import Derived.Outline
import Derived.IntWalk
import Derived.StillTailTactics
import Derived.Test.YtmcllndnjdemaaaGreatDoorWAll
import Derived.Below
import Derived.WalkKit
import Derived.Deep.RegionWith
namespace Go.Proofs.YtmcllndnjdemaaaGreatDoor.Walk
set_option linter.unusedVariables false
set_option linter.unusedSimpArgs false
open Go Go.RowKit Go.Proofs.YtmcllndnjdemaaaGreatDoorW.PrintWords Go.Proofs.YtmcllndnjdemaaaGreatDoor.Num
def IsU8 (o : Obj) : Prop := ∃ c fz, o = .cells c 5 fz
structure Kp (B : Nat) (S : List Nat) (w w' : World) : Prop where
 bel : Below B w w'
 keep : ∀ k o, w.heap[k]? = some o → k ∉ S → ¬ IsU8 o → w'.heap[k]? = some o
theorem Kp.refl (B : Nat) (S : List Nat) (w : World) : Kp B S w w := ⟨Below.refl _ _, fun _ _ h _ _ => h⟩
theorem Kp.trans {B : Nat} {S : List Nat} {a b c : World} (h : Kp B S a b) (k : Kp B S b c) : Kp B S a c :=
 ⟨h.bel.trans k.bel, fun i o hi hn hu => k.keep i o (h.keep i o hi hn hu) hn hu⟩
theorem Kp.mono {B : Nat} {S T : List Nat} {w w' : World} (h : Kp B S w w') (hs : ∀ k ∈ S, k ∈ T) : Kp B T w w' :=
 ⟨h.bel, fun i o hi hn hu => h.keep i o hi (fun hm => hn (hs i hm)) hu⟩
theorem Kp.of_touch {B : Nat} {S : List Nat} {w w' : World} (h : Touch S w w') (hS : ∀ k ∈ S, B ≤ k) (hB : B ≤ w.heap.size) : Kp B S w w' :=
 ⟨⟨h.os, h.tape, h.output, h.size, fun k hk => h.block k (by omega) (fun hm => by have := hS k hm; omega)⟩, fun i o hi hn _ => h.heap hi hn⟩
theorem Kp.alloc {B : Nat} {S : List Nat} {a w : World} (h : Kp B S a w) (hB : B ≤ a.heap.size) (o : Obj) : Kp B S a (w.alloc o) :=
 h.trans (Kp.of_touch ((Touch.refl [] w).alloc o) (by simp) (Nat.le_trans hB h.bel.size) |>.mono (by simp))
theorem Kp.drewN {B : Nat} {S : List Nat} {a w : World} (h : Kp B S a w) (n : Nat) : Kp B S a (w.drewN n) := ⟨below_drewN h.bel n, h.keep⟩
theorem Kp.drew {B : Nat} {S : List Nat} {a w : World} (h : Kp B S a w) : Kp B S a w.drew := ⟨h.bel.drew, h.keep⟩
structure Snk (ty fn g B : Nat) (S : List Nat) (St : World → List Int → Prop) : Prop where
 nilA : ∀ w : World, (nilAhead 413 ty (.pointer (some ⟨g, 0, none⟩)) "Write").run Tryz.prog w = .ok (some false) w
 meth : ∀ w : World, (method 413 ty (.pointer (some ⟨g, 0, none⟩)) "Write").run Tryz.prog w = .ok (fn, .pointer (some ⟨g, 0, none⟩)) w
 call : ∀ (args : Array Value) (w : World), Sem.run Tryz.prog (callFunc fn args) w = .ok (Next.enter fn args) w
 lt : ∀ w bs, St w bs → ∀ k ∈ S, k < w.heap.size ∧ B ≤ k ∧ ∀ o, w.heap[k]? = some o → ¬ IsU8 o
 move : ∀ (U : List Nat) (w w' : World) (bs : List Int), St w bs → Touch U w w' → (∀ k ∈ U, k ∉ S ∧ ∀ o, w.heap[k]? = some o → ¬ IsU8 o) → St w' bs
 write : ∀ (w : World) (bs p : List Int) (a : Addr) (n c : Nat), St w bs → B ≤ w.heap.size → ReadsInt w .u8 (some a) n p → 0 < n → a.block ∉ S → (∀ x ∈ p, 0 ≤ x ∧ x ≤ 255) → bs.length + n ≤ 70368744177664 →
  Calls Tryz.prog fn #[.pointer (some ⟨g, 0, none⟩), .slice (some a) n c] w fun e w' => e = .returned (.tuple #[.int .i64 n, .nilIface]) ∧ St w' (bs ++ p) ∧ Kp B S w w'
variable {ty fn g B : Nat} {S : List Nat} {St : World → List Int → Prop}
theorem Snk.alloc (R : Snk ty fn g B S St) {w : World} {bs : List Int} (h : St w bs) (o : Obj) : St (w.alloc o) bs :=
 R.move [] w _ bs h ((Touch.refl [] w).alloc o) (by simp)
theorem Snk.set (R : Snk ty fn g B S St) {w : World} {bs : List Int} (h : St w bs) {k : Nat} (hk : k ∉ S) {o : Obj} (ho : w.heap[k]? = some o) (hu : ¬ IsU8 o) (i : Nat) (u : Value) : St (w.setCell ⟨k, i, none⟩ u) bs :=
 R.move [k] w _ bs h ((Touch.refl [k] w).setCell (p := ⟨k, i, none⟩) (.inl (by simp)) u) (fun q hq => by
  obtain rfl : q = k := by simpa using hq
  exact ⟨hk, fun o' ho' => by rw [ho] at ho'; cases ho'; exact hu⟩)
structure Wr (R : Snk ty fn g B S St) (pre : List Int) (gw : Nat) (s : WS) (w : World) : Prop where
 ok : s.Ok
 st : St w (pre ++ s.out)
 blk : w.heap[gw]? = some (.cells #[.iface ty (.pointer (some ⟨g, 0, none⟩)), .int .u8 s.c, .int .u8 s.nb] 168 (0, 0))
 base : B ≤ gw
 ns : gw ∉ S
 by_ : ∀ x ∈ s.out, 0 ≤ x ∧ x ≤ 255
theorem notU8 {cs : Array Value} {T : TypeId} {fz : Nat × Nat} (h : T ≠ 5) : ¬ IsU8 (.cells cs T fz) := by
 rintro ⟨c, fz', e⟩
 injection e with _ h2 _
 exact h h2
theorem Wr.move {R : Snk ty fn g B S St} {pre : List Int} {gw : Nat} {s : WS} {w w' : World} (h : Wr R pre gw s w) {U : List Nat} (t : Touch U w w') (hU : ∀ k ∈ U, k ∉ S ∧ k ≠ gw ∧ ∀ o, w.heap[k]? = some o → ¬ IsU8 o) : Wr R pre gw s w' :=
 ⟨h.ok, R.move U w w' _ h.st t (fun k hk => ⟨(hU k hk).1, (hU k hk).2.2⟩), t.heap h.blk (fun hm => (hU gw hm).2.1 rfl), h.base, h.ns, h.by_⟩
set_option maxHeartbeats 4000000 in
set_option maxRecDepth 100000 in
theorem wr_bits (R : Snk ty fn g B S St) (pre : List Int) (gw v n : Nat) (s : WS) (w : World) (h : Wr R pre gw s w) (hB : B ≤ w.heap.size) (hv : v < 18446744073709551616) (hn : n ≤ 64) (hlim : pre.length + s.out.length ≤ 70368744170000) :
  Calls Tryz.prog 64 #[.pointer (some ⟨gw, 0, none⟩), .int .u64 v, .int .u8 n] w fun e w' =>
   e = .returned .nilIface ∧ Wr R pre gw (s.puts v n) w' ∧ Kp B (gw :: S) w w' := by
 have h1 := R.nilA
 have h2 := R.meth
 have h4 := R.call
 have HH := Lib.hid h
 obtain ⟨F, hF⟩ : ∃ F, s.puts v n = F := ⟨_, rfl⟩
 rw [hF]
 have HF := Lib.hid hF
 clear h hF
 go_enter Tryz.func64, Tryz.ntmps64
 go_wp2_with fail
 go_loopw [2] (fun nv wr => ∃ (m : Nat) (u : WS), nv = .int .u8 m ∧ m ≤ n ∧ u.puts v m = F ∧ Wr R pre gw u wr ∧ Kp B (gw :: S) w wr ∧ u.out.length + m ≤ s.out.length + n) (fun nv _ => (intOf nv).toNat)
 case atStart => exact ⟨n, s, rfl, Nat.le_refl _, HF.out, HH.out, Kp.refl _ _ _, Nat.le_refl _⟩
 case round =>
  obtain ⟨m, u, rfl, hm, hp, hbw, hbe, hl⟩ := hrel
  rcases m with _ | k
  ·have X := Lib.hid (And.intro hp (And.intro hbw hbe))
   clear hp hbw hbe
   go_wp2_with fail
   go_ret
   exact ⟨rfl, by rw [← X.out.1]; exact X.out.2.1, X.out.2.2⟩
  ·obtain ⟨q, hq⟩ : ∃ q, v / 2 ^ k = q := ⟨_, rfl⟩
   have hqv : q < 18446744073709551616 := by rw [← hq]; exact Nat.lt_of_le_of_lt (Nat.div_le_self _ _) hv
   have hqi : (v : Int) / 2 ^ k = (q : Int) := by rw [← hq]; simp
   have hbit := bit_of_u64 q hqv
   obtain ⟨t, ht⟩ : ∃ t, q % 2 = t := ⟨_, rfl⟩
   have ht2 : t < 2 := by omega
   rw [ht] at hbit
   obtain ⟨c, hc⟩ : ∃ c, u.c = c := ⟨_, rfl⟩
   obtain ⟨nb, hnb⟩ : ∃ nb, u.nb = nb := ⟨_, rfl⟩
   have hc128 : c < 128 := by rw [← hc]; exact hbw.ok.c_lt
   have hnb8 : nb < 8 := by rw [← hnb]; exact hbw.ok.nb
   have hor := or_bit_u8 c t hc128 ht2
   obtain ⟨x, hx⟩ : ∃ x, 2 * c + t = x := ⟨_, rfl⟩
   rw [hx] at hor
   have hx256 : x < 256 := by omega
   have HX := Lib.hid hx
   have hblk := hbw.blk
   rw [hc, hnb] at hblk
   have c0 : wr.cell? ⟨gw, 0, none⟩ = some (.iface ty (.pointer (some ⟨g, 0, none⟩))) := by rw [cell_of_row wr gw 0 _ _ _ hblk]; rfl
   have c1 : wr.cell? ⟨gw, 1, none⟩ = some (.int .u8 c) := by rw [cell_of_row wr gw 1 _ _ _ hblk]; rfl
   have f1 : wr.frozen? ⟨gw, 1, none⟩ = false := by simp [World.frozen?, hblk]
   have f2 : wr.frozen? ⟨gw, 2, none⟩ = false := by simp [World.frozen?, hblk]
   have HP := Lib.hid hp
   have HBW := Lib.hid hbw
   have HBE := Lib.hid hbe
   have HT := Lib.hid (show v / 2 ^ k % 2 = t by rw [hq, ht])
   have HC := Lib.hid hc
   have HNB := Lib.hid hnb
   have HBLK := Lib.hid hblk
   by_cases h7 : nb = 7
   ·have c2 : wr.cell? ⟨gw, 2, none⟩ = some (.int .u8 7) := by rw [cell_of_row wr gw 2 _ _ _ hblk, h7]; rfl
    have H7 := Lib.hid h7
    clear hp hbw hbe hq ht hc hnb hblk h7 hx
    go_wp2_with fail
    obtain ⟨W0, hW0⟩ : ∃ W0, (((wr.setCell ⟨gw, 1, none⟩ (.int .u8 x)).setCell ⟨gw, 2, none⟩ (.int .u8 8)).setCell ⟨gw, 1, none⟩ (.int .u8 0)).setCell ⟨gw, 2, none⟩ (.int .u8 0) = W0 := ⟨_, rfl⟩
    have g1 := blk_set (w := wr) HBLK.out 1 (.int .u8 x)
    have g2 := blk_set g1 2 (.int .u8 8)
    have g3 := blk_set g2 1 (.int .u8 0)
    have g4 := blk_set g3 2 (.int .u8 0)
    have t0 := ((((Touch.refl [gw] wr).setCell (p := ⟨gw, 1, none⟩) (.inl (by simp)) (.int .u8 x)).setCell (p := ⟨gw, 2, none⟩) (.inl (by simp)) (.int .u8 8)).setCell (p := ⟨gw, 1, none⟩) (.inl (by simp)) (.int .u8 0)).setCell (p := ⟨gw, 2, none⟩) (.inl (by simp)) (.int .u8 0)
    have hsz : wr.heap.size = W0.heap.size := by rw [← hW0]; simp [World.setCell]
    rw [hW0] at g4 t0
    rw [hW0, hsz]
    have hg4 : W0.heap[gw]? = some (.cells #[.iface ty (.pointer (some ⟨g, 0, none⟩)), .int .u8 (0 : Nat), .int .u8 (0 : Nat)] 168 (0, 0)) := by rw [g4]; rfl
    have hst0 : St W0 (pre ++ u.out) := R.move [gw] wr W0 _ HBW.out.st t0 (fun k hk => by
     obtain rfl : k = gw := by simpa using hk
     exact ⟨HBW.out.ns, fun o ho => by rw [HBLK.out] at ho; cases ho; exact notU8 (by decide)⟩)
    have hk0 : Kp B (gw :: S) wr W0 := (Kp.of_touch t0 (fun k hk => by
     obtain rfl : k = gw := by simpa using hk
     exact HBW.out.base) (Nat.le_trans hB HBE.out.bel.size)).mono (fun k hk => by
     obtain rfl : k = gw := by simpa using hk
     exact List.mem_cons_self)
    clear g1 g2 g3 g4 hW0 hsz c0 c1 c2 f1 f2 t0
    have hB0 : B ≤ W0.heap.size := Nat.le_trans (Nat.le_trans hB HBE.out.bel.size) hk0.bel.size
    have hgw : gw < W0.heap.size := (Array.getElem?_eq_some_iff.1 hg4).1
    obtain ⟨W1, hW1⟩ : ∃ W1, W0.alloc (.cells #[.int .u8 x] 5) = W1 := ⟨_, rfl⟩
    have hs1 : W1.cell? ⟨W0.heap.size, 0, none⟩ = some (.int .u8 x) := by rw [← hW1]; exact World.cell?_alloc_at _ _ _ _ rfl
    have hst1 : St W1 (pre ++ u.out) := by rw [← hW1]; exact R.alloc hst0 _
    have hk1 : Kp B (gw :: S) wr W1 := by rw [← hW1]; exact hk0.alloc (Nat.le_trans hB HBE.out.bel.size) _
    have hg1 : W1.heap[gw]? = some (.cells #[.iface ty (.pointer (some ⟨g, 0, none⟩)), .int .u8 (0 : Nat), .int .u8 (0 : Nat)] 168 (0, 0)) := by rw [← hW1]; exact (Below.heap_alloc _ _ _ hgw).trans hg4
    have hrd : ReadsInt W1 .u8 (some ⟨W0.heap.size, 0, none⟩) 1 [(x : Int)] := ⟨rfl, by omega, fun _ => ⟨_, rfl, fun i hi => by
     obtain rfl : i = 0 := by omega
     exact hs1⟩⟩
    have hns : W0.heap.size ∉ S := fun hm => by have := (R.lt W0 _ hst0 _ hm).1; omega
    have hlu : (pre ++ u.out).length + 1 ≤ 70368744177664 := by rw [List.length_append]; omega
    have hwr := R.write W1 (pre ++ u.out) [(x : Int)] ⟨W0.heap.size, 0, none⟩ 1 1 hst1 (Nat.le_trans hB (Nat.le_trans HBE.out.bel.size hk1.bel.size)) hrd (by decide) hns (fun y hy => by
     obtain rfl : y = (x : Int) := by simpa using hy
     omega) hlu
    rw [hW1]
    have HWR := Lib.hid hwr
    have HG1 := Lib.hid hg1
    have HK1 := Lib.hid hk1
    clear hwr hg1 hk1 hst1 hst0 hk0 hW1 hs1 hrd hlu hg4 hns
    refine HWR.out.mono ?_
    rintro e w2 ⟨rfl, hst2, hk2⟩
    have hblk2 := hk2.keep gw _ HG1.out HBW.out.ns (notU8 (by decide))
    have X := Lib.hid (And.intro hst2 (And.intro (HBE.out.trans (HK1.out.trans (hk2.mono (fun k hk => List.mem_cons_of_mem _ hk)))) hblk2))
    clear hst2 hk2 hblk2 HWR HG1 HK1
    go_wp2_with fail
    go_roundw
    case rel =>
     have e1 : (u.put t).out = u.out ++ [(x : Int)] := by simp [WS.put, HNB.out, H7.out, HC.out, ← HX.out]
     refine ⟨k, u.put t, rfl, by omega, ?_, ⟨HBW.out.ok.put ht2, ?_, ?_, HBW.out.base, HBW.out.ns, ?_⟩, X.out.2.1, ?_⟩
     ·rw [← HP.out, ← HT.out]; rfl
     ·rw [e1, ← List.append_assoc]; exact X.out.1
     ·rw [X.out.2.2]; simp [WS.put, HNB.out, H7.out]
     ·exact WS.put_bytes_ok HBW.out.ok HBW.out.by_ ht2
     ·rw [e1, List.length_append, List.length_singleton]; omega
    case measure => simp [intOf]
   ·have c2 : wr.cell? ⟨gw, 2, none⟩ = some (.int .u8 nb) := by rw [cell_of_row wr gw 2 _ _ _ hblk]; rfl
    have hb8 : ((nb : Int) + 1 == 8) = false := by simp; omega
    have H7 := Lib.hid h7
    clear hp hbw hbe hq ht hc hnb hblk h7 hx
    go_wp2_with fail
    go_roundw
    case rel =>
     have e1 : (u.put t).out = u.out := by simp [WS.put, HNB.out, H7.out]
     have t0 := ((Touch.refl [gw] wr).setCell (p := ⟨gw, 1, none⟩) (.inl (by simp)) (.int .u8 x)).setCell (p := ⟨gw, 2, none⟩) (.inl (by simp)) (.int .u8 ((nb : Int) + 1))
     refine ⟨k, u.put t, rfl, by omega, ?_, ⟨HBW.out.ok.put ht2, ?_, ?_, HBW.out.base, HBW.out.ns, ?_⟩, ?_, ?_⟩
     ·rw [← HP.out, ← HT.out]; rfl
     ·rw [e1]
      exact R.move [gw] wr _ _ HBW.out.st t0 (fun k hk => by
       obtain rfl : k = gw := by simpa using hk
       exact ⟨HBW.out.ns, fun o ho => by rw [HBLK.out] at ho; cases ho; exact notU8 (by decide)⟩)
     ·rw [blk_set (blk_set (w := wr) HBLK.out 1 (.int .u8 x)) 2 (.int .u8 ((nb : Int) + 1))]
      simp [WS.put, HNB.out, H7.out, HC.out, ← HX.out]
     ·exact WS.put_bytes_ok HBW.out.ok HBW.out.by_ ht2
     ·exact HBE.out.trans ((Kp.of_touch t0 (fun k hk => by
       obtain rfl : k = gw := by simpa using hk
       exact HBW.out.base) (Nat.le_trans hB HBE.out.bel.size)).mono (fun k hk => by
       obtain rfl : k = gw := by simpa using hk
       exact List.mem_cons_self))
     ·rw [e1]; omega
    case measure => simp [intOf]
end Go.Proofs.YtmcllndnjdemaaaGreatDoor.Walk
namespace Go.Proofs.YtmcllndnjdemaaaGreatDoor.Walk
set_option linter.unusedVariables false
set_option linter.unusedSimpArgs false
open Go Go.RowKit Go.Proofs.YtmcllndnjdemaaaGreatDoorW.PrintWords Go.Proofs.YtmcllndnjdemaaaGreatDoor.Num
variable {ty fn g B : Nat} {S : List Nat} {St : World → List Int → Prop}
def Wb (R : Snk ty fn g B S St) (pre : List Int) (gw : Nat) (bs : List Nat) (w : World) : Prop := ∃ s, Wr R pre gw s w ∧ s.bits = bs
theorem Wb.move {R : Snk ty fn g B S St} {pre : List Int} {gw : Nat} {bs : List Nat} {w w' : World} (h : Wb R pre gw bs w) {U : List Nat} (t : Touch U w w') (hU : ∀ k ∈ U, k ∉ S ∧ k ≠ gw ∧ ∀ o, w.heap[k]? = some o → ¬ IsU8 o) : Wb R pre gw bs w' := by
 obtain ⟨s, h1, h2⟩ := h
 exact ⟨s, h1.move t hU, h2⟩
theorem Wb.base {R : Snk ty fn g B S St} {pre : List Int} {gw : Nat} {bs : List Nat} {w : World} (h : Wb R pre gw bs w) : B ≤ gw ∧ gw < w.heap.size := by
 obtain ⟨s, h1, h2⟩ := h
 exact ⟨h1.base, (Array.getElem?_eq_some_iff.1 h1.blk).1⟩
theorem wb_bits {R : Snk ty fn g B S St} {pre : List Int} {gw : Nat} {bs : List Nat} {w : World} (h : Wb R pre gw bs w) (hB : B ≤ w.heap.size) (v n : Nat) (hv : v < 18446744073709551616) (hn : n ≤ 64) (hp : pre.length ≤ 30000000000000) (hl : bs.length ≤ 300000000000000) :
  Calls Tryz.prog 64 #[.pointer (some ⟨gw, 0, none⟩), .int .u64 v, .int .u8 n] w fun e w' => e = .returned .nilIface ∧ Wb R pre gw (bs ++ bts v n) w' ∧ Kp B (gw :: S) w w' := by
 obtain ⟨s, h1, h2⟩ := h
 have hlen := s.bits_len
 rw [h2] at hlen
 refine (wr_bits R pre gw v n s w h1 hB hv hn (by omega)).mono fun e w' ⟨he, hw, hk⟩ => ⟨he, ⟨_, hw, ?_⟩, hk⟩
 rw [WS.puts_bits, h2]
set_option maxHeartbeats 1000000 in
set_option maxRecDepth 100000 in
theorem wb_byte {R : Snk ty fn g B S St} {pre : List Int} {gw : Nat} {bs : List Nat} {w : World} (h : Wb R pre gw bs w) (hB : B ≤ w.heap.size) (x : Nat) (hx : x < 256) (hp : pre.length ≤ 30000000000000) (hl : bs.length ≤ 300000000000000) :
  Calls Tryz.prog 62 #[.pointer (some ⟨gw, 0, none⟩), .int .u8 x] w fun e w' => e = .returned .nilIface ∧ Wb R pre gw (bs ++ bts x 8) w' ∧ Kp B (gw :: S) w w' := by
 have H := Lib.hid (wb_bits h hB x 8 (by omega) (by omega) hp hl)
 clear h
 go_enter Tryz.func62, Tryz.ntmps62
 go_wp2_with fail
 refine H.out.mono ?_
 rintro e w1 ⟨rfl, hb, hbe⟩
 have X := Lib.hid (And.intro hb hbe)
 clear hb hbe
 go_wp2_with fail
 go_ret
 exact ⟨rfl, X.out⟩
set_option maxHeartbeats 1000000 in
set_option maxRecDepth 100000 in
theorem wb_bool {R : Snk ty fn g B S St} {pre : List Int} {gw : Nat} {bs : List Nat} {w : World} (h : Wb R pre gw bs w) (hB : B ≤ w.heap.size) (b : Bool) (hp : pre.length ≤ 30000000000000) (hl : bs.length ≤ 300000000000000) :
  Calls Tryz.prog 74 #[.pointer (some ⟨gw, 0, none⟩), .bool b] w fun e w' => e = .returned .nilIface ∧ Wb R pre gw (bs ++ bts b.toNat 1) w' ∧ Kp B (gw :: S) w w' := by
 have H1 := Lib.hid (wb_bits h hB 1 1 (by omega) (by omega) hp hl)
 have H0 := Lib.hid (wb_bits h hB 0 1 (by omega) (by omega) hp hl)
 clear h
 cases b
 ·go_enter Tryz.func74, Tryz.ntmps74
  go_wp2_with fail
  refine H0.out.mono ?_
  rintro e w1 ⟨rfl, hb, hbe⟩
  have X := Lib.hid (And.intro hb hbe)
  clear hb hbe
  go_wp2_with fail
  go_ret
  exact ⟨rfl, X.out⟩
 ·go_enter Tryz.func74, Tryz.ntmps74
  go_wp2_with fail
  refine H1.out.mono ?_
  rintro e w1 ⟨rfl, hb, hbe⟩
  have X := Lib.hid (And.intro hb hbe)
  clear hb hbe
  go_wp2_with fail
  go_ret
  exact ⟨rfl, X.out⟩
def Al (R : Snk ty fn g B S St) (pre : List Int) (gw : Nat) (out : List Int) (w : World) : Prop := Wr R pre gw ⟨out, 0, 0⟩ w
theorem al_of {R : Snk ty fn g B S St} {pre : List Int} {gw : Nat} {s : WS} {w : World} (h : Wr R pre gw s w) (h0 : s.nb = 0) : Al R pre gw s.out w := by
 obtain ⟨out, c, nb⟩ := s
 simp only at h0; subst h0
 have hc := h.ok.c
 simp only [Nat.pow_zero] at hc
 obtain rfl : c = 0 := by omega
 exact h
set_option maxHeartbeats 1000000 in
set_option maxRecDepth 100000 in
theorem wb_align {R : Snk ty fn g B S St} {pre : List Int} {gw : Nat} {bs : List Nat} {w : World} (h : Wb R pre gw bs w) (hB : B ≤ w.heap.size) (hp : pre.length ≤ 30000000000000) (hl : bs.length ≤ 300000000000000) :
  Calls Tryz.prog 36 #[.pointer (some ⟨gw, 0, none⟩)] w fun e w' =>
   (∃ sk : Nat, e = .returned (.tuple #[.int .u8 sk, .nilIface])) ∧ (∃ out, Al R pre gw out w' ∧ bytesBits out = bs ++ List.replicate (padOf bs.length) 0 ∧ ∀ x ∈ out, 0 ≤ x ∧ x ≤ 255) ∧ Kp B (gw :: S) w w' := by
 obtain ⟨s, h1, h2⟩ := h
 have hlen := s.bits_len
 rw [h2] at hlen
 obtain ⟨nb, hnb⟩ : ∃ nb, s.nb = nb := ⟨_, rfl⟩
 have hnb8 := h1.ok.nb
 have hblk := h1.blk
 rw [hnb] at hnb8 hblk
 have c2 : w.cell? ⟨gw, 2, none⟩ = some (.int .u8 nb) := by rw [cell_of_row w gw 2 _ _ _ hblk]; rfl
 obtain ⟨hf1, hf2, hf3⟩ := s.flush_bits h1.ok
 rw [h2] at hf1
 have hfb : bytesBits s.flush.out = bs ++ List.replicate (padOf bs.length) 0 := by
  have h3 : s.flush.bits = bytesBits s.flush.out := by unfold WS.bits; rw [hf2, bts, List.append_nil]
  rw [← h3, hf1]
 have HFB := Lib.hid hfb
 have HF2 := Lib.hid hf2
 by_cases h0 : nb = 0
 ·have hfl : s.flush = s := by unfold WS.flush; rw [if_pos (by rw [hnb, h0])]
  have HFL := Lib.hid hfl
  subst h0
  have HH := Lib.hid h1
  have HNB := Lib.hid hnb
  clear h1 hblk hnb hf1 hf2 hf3 hfb hfl
  go_enter Tryz.func36, Tryz.ntmps36
  go_wp2_with fail
  go_ret2
  refine ⟨⟨0, rfl⟩, ⟨s.out, al_of HH.out HNB.out, ?_, HH.out.by_⟩, Kp.refl _ _ _⟩
  have := HFB.out
  rw [HFL.out] at this; exact this
 ·obtain ⟨d, hd⟩ : ∃ d, 8 - nb = d := ⟨_, rfl⟩
  have hfl : s.flush = s.puts 0 d := by unfold WS.flush; rw [if_neg (by rw [hnb]; exact h0), hnb, hd]
  have HFL := Lib.hid hfl
  have H := Lib.hid (wr_bits R pre gw 0 d s w h1 hB (by omega) (by omega) (by omega))
  have hsub : (8 : Int) - (nb : Int) = (d : Int) := by omega
  have hd8 : d ≤ 8 := by omega
  have hgt : 0 < nb := by omega
  clear h1 hblk hnb h0 hd hf1 hf2 hf3 hfb hfl
  go_enter Tryz.func36, Tryz.ntmps36
  go_wp2_with fail
  refine H.out.mono ?_
  rw [← HFL.out]
  rintro e w1 ⟨rfl, hb, hbe⟩
  have X := Lib.hid (And.intro hb hbe)
  clear hb hbe
  go_wp2_with fail
  go_ret2
  exact ⟨⟨d, rfl⟩, ⟨s.flush.out, al_of X.out.1 HF2.out, HFB.out, X.out.1.by_⟩, X.out.2⟩
theorem bts_one : ∀ q, bts 1 (q + 1) = List.replicate q 0 ++ [1]
 | 0 => rfl
 | q + 1 => by
  rw [bts, bts_one q, Nat.div_eq_of_lt (Nat.one_lt_two_pow (by omega)), List.replicate_succ]; rfl
set_option maxHeartbeats 1000000 in
set_option maxRecDepth 100000 in
theorem wb_unary {R : Snk ty fn g B S St} {pre : List Int} {gw : Nat} {bs : List Nat} {w : World} (h : Wb R pre gw bs w) (hB : B ≤ w.heap.size) (x : Nat) (hx : x ≤ 1000000000) (hp : pre.length ≤ 30000000000000) (hl : bs.length ≤ 200000000000000) :
  Calls Tryz.prog 107 #[.pointer (some ⟨gw, 0, none⟩), .int .u64 x] w fun e w' => e = .returned .nilIface ∧ Wb R pre gw (bs ++ (List.replicate x 0 ++ [1])) w' ∧ Kp B (gw :: S) w w' := by
 have HH := Lib.hid h
 clear h
 go_enter Tryz.func107, Tryz.ntmps107
 go_wp2_with fail
 go_loopw [1] (fun nv wr => ∃ m : Nat, nv = .int .u64 m ∧ m ≤ x ∧ Wb R pre gw (bs ++ List.replicate (x - m) 0) wr ∧ Kp B (gw :: S) w wr) (fun nv _ => (intOf nv).toNat)
 case atStart => exact ⟨x, rfl, Nat.le_refl _, by rw [Nat.sub_self, List.replicate_zero, List.append_nil]; exact HH.out, Kp.refl _ _ _⟩
 case round =>
  obtain ⟨m, rfl, hm, hbw, hbe⟩ := hrel
  have HBW := Lib.hid hbw
  have HBE := Lib.hid hbe
  have hlen : (bs ++ List.replicate (x - m) 0).length ≤ 300000000000000 := by rw [List.length_append, List.length_replicate]; omega
  clear hbw hbe
  by_cases h8 : 8 < m
  ·obtain ⟨k, rfl⟩ : ∃ k, m = k + 8 := ⟨m - 8, by omega⟩
   go_wp2_with fail
   refine (wb_byte HBW.out (Nat.le_trans hB HBE.out.bel.size) 0 (by decide) hp hlen).mono ?_
   rintro e w1 ⟨rfl, hb, hbe⟩
   have X := Lib.hid (And.intro hb (HBE.out.trans hbe))
   clear hb hbe
   go_wp2_with fail
   go_roundw
   case rel =>
    refine ⟨k, by go_num, by omega, ?_, X.out.2⟩
    have h1 := X.out.1
    rw [bts_zero, List.append_assoc, List.replicate_append_replicate, show x - (k + 8) + 8 = x - k by omega] at h1
    exact h1
   case measure => simp [intOf]; omega
  ·have hw1 : ((m : Int) + 1) % 256 = ((m + 1 : Nat) : Int) := by omega
   go_wp2_with fail
   refine (wb_bits HBW.out (Nat.le_trans hB HBE.out.bel.size) 1 (m + 1) (by decide) (by omega) hp hlen).mono ?_
   rintro e w1 ⟨rfl, hb, hbe⟩
   have X := Lib.hid (And.intro hb (HBE.out.trans hbe))
   clear hb hbe
   go_wp2_with fail
   go_ret
   refine ⟨rfl, ?_, X.out.2⟩
   have h1 := X.out.1
   rw [bts_one, List.append_assoc, ← List.append_assoc (List.replicate (x - m) 0), List.replicate_append_replicate, show x - m + m = x by omega] at h1
   exact h1
theorem newWb {R : Snk ty fn g B S St} {pre : List Int} {w : World} (h : St w pre) (hB : B ≤ w.heap.size) : Calls Tryz.prog 32 #[.iface ty (.pointer (some ⟨g, 0, none⟩))] w fun e w' =>
  ∃ gw, e = .returned (.pointer (some ⟨gw, 0, none⟩)) ∧ Wb R pre gw [] w' ∧ Touch [] w w' ∧ w.heap.size ≤ gw := by
 have H : Calls Tryz.prog 32 #[.iface ty (.pointer (some ⟨g, 0, none⟩))] w fun e w' => e = .returned (.pointer (some ⟨w.heap.size, 0, none⟩)) ∧ w' = w.alloc (.cells #[.iface ty (.pointer (some ⟨g, 0, none⟩)), .int .u8 0, .int .u8 0] 168) := by
  clear h
  go_enter Tryz.func32, Tryz.ntmps32
  go_wp2_with fail
  go_ret
  exact ⟨rfl, rfl⟩
 refine H.mono ?_
 rintro e w' ⟨rfl, rfl⟩
 refine ⟨_, rfl, ⟨⟨[], 0, 0⟩, ⟨⟨by decide, by decide⟩, ?_, heap_alloc_new w _, hB, fun hm => ?_, by simp⟩, rfl⟩, (Touch.refl [] w).alloc _, Nat.le_refl _⟩
 ·rw [List.append_nil]; exact R.alloc h _
 ·have := (R.lt w _ h _ hm).1; omega
end Go.Proofs.YtmcllndnjdemaaaGreatDoor.Walk
namespace Go.Proofs.YtmcllndnjdemaaaGreatDoor.Walk
set_option linter.unusedVariables false
set_option linter.unusedSimpArgs false
open Go Go.RowKit Go.Proofs.YtmcllndnjdemaaaGreatDoorW.PrintWords Go.Proofs.YtmcllndnjdemaaaGreatDoor.Num
variable {ty fn g B : Nat} {S : List Nat} {St : World → List Int → Prop}
set_option maxHeartbeats 1000000 in
set_option maxRecDepth 100000 in
theorem al_write (R : Snk ty fn g B S St) (gw : Nat) (w : World) (bs p : List Int) (a : Addr) (n c : Nat) (h : Al R [] gw bs w) (hB : B ≤ w.heap.size) (hr : ReadsInt w .u8 (some a) n p) (hn : 0 < n) (ha : a.block ∉ gw :: S) (hby : ∀ x ∈ p, 0 ≤ x ∧ x ≤ 255) (hl : bs.length + n ≤ 70368744177664) :
  Calls Tryz.prog 33 #[.pointer (some ⟨gw, 0, none⟩), .slice (some a) n c] w fun e w' => e = .returned (.tuple #[.int .i64 n, .nilIface]) ∧ Al R [] gw (bs ++ p) w' ∧ Kp B (gw :: S) w w' := by
 have h1 := R.nilA
 have h2 := R.meth
 have h4 := R.call
 have hblk := h.blk
 have c0 : w.cell? ⟨gw, 0, none⟩ = some (.iface ty (.pointer (some ⟨g, 0, none⟩))) := by rw [cell_of_row w gw 0 _ _ _ hblk]; rfl
 have c2 : w.cell? ⟨gw, 2, none⟩ = some (.int .u8 0) := by rw [cell_of_row w gw 2 _ _ _ hblk]; rfl
 have H := Lib.hid (R.write w bs p a n c h.st hB hr hn (fun e => ha (List.mem_cons_of_mem _ e)) hby hl)
 have HH := Lib.hid h
 have HBY := Lib.hid hby
 clear h hblk hr ha hby
 go_enter Tryz.func33, Tryz.ntmps33
 go_wp2_with fail
 refine H.out.mono ?_
 rintro e w1 ⟨rfl, hb, hk⟩
 have X : Al R [] gw (bs ++ p) w1 := by
  refine ⟨⟨(by decide : (0:Nat) < 8), (by decide : (0:Nat) < 2 ^ 0)⟩, hb, hk.keep gw _ HH.out.blk HH.out.ns (notU8 (by decide)), HH.out.base, HH.out.ns, fun x hx => ?_⟩
  rcases List.mem_append.1 hx with hx | hx
  ·exact HH.out.by_ x hx
  ·exact HBY.out x hx
 have X := Lib.hid (And.intro X (hk.mono (fun k hk => List.mem_cons_of_mem gw hk)))
 clear hb hk
 go_wp2_with fail
 go_ret2
 exact ⟨rfl, X.out⟩
theorem al_snk (R : Snk ty fn g B S St) (gw : Nat) : Snk 117 33 gw B (gw :: S) (fun w bs => Al R [] gw bs w) where
 nilA := fun w => by kernel_rfl
 meth := fun w => by kernel_rfl
 call := fun args w => by kernel_rfl
 lt := fun w bs h k hk => by
  rcases List.mem_cons.1 hk with e | hk
  ·rw [e]
   exact ⟨(Array.getElem?_eq_some_iff.1 h.blk).1, h.base, fun o ho => by rw [h.blk] at ho; cases ho; exact notU8 (by decide)⟩
  ·exact R.lt w _ h.st k hk
 move := fun U w w' bs h t hU => Wr.move h t (fun q hq => ⟨fun e => (hU q hq).1 (List.mem_cons_of_mem _ e), fun e => (hU q hq).1 (by rw [e]; exact List.mem_cons_self), (hU q hq).2⟩)
 write := fun w bs p a n c h hB hr hn ha hby hl => al_write R gw w bs p a n c h hB hr hn ha hby hl
end Go.Proofs.YtmcllndnjdemaaaGreatDoor.Walk
namespace Go.Proofs.YtmcllndnjdemaaaGreatDoor.Walk
set_option linter.unusedVariables false
set_option linter.unusedSimpArgs false
open Go Go.RowKit Go.Proofs.YtmcllndnjdemaaaGreatDoorW.PrintWords Go.Proofs.YtmcllndnjdemaaaGreatDoor.Num
variable {ty fn g B : Nat} {S : List Nat} {St : World → List Int → Prop}
theorem sizeU8b : (Tryz.prog.info? 5).map (·.size) = some 1 := by kernel_rfl
theorem oneAll (gb : Nat) : ∀ W : World, (Instr.sliceAt 256 (.pointer (some ⟨gb, 0, none⟩)) none none none).run Tryz.prog W = .ok (.slice (some ⟨gb, 0, none⟩) 1 1) W := by
 intro W
 obtain ⟨i0, hi, hz⟩ := Option.map_eq_some_iff.1 sizeU8b
 have hu : Tryz.prog.underlying 256 = some (.array 1 5) := Tryz.underlying256
 simp [Instr.sliceAt, Instr.sureAddr, run_underlying hu, Instr.sliceBounds, run_sliceBound, sizeOf, typeInfo, hi, hz, Addr.add]
set_option maxHeartbeats 1000000 in
set_option maxRecDepth 100000 in
theorem snk_byte (R : Snk ty fn g B S St) (x : Nat) (xs : List Int) (w : World) (h : St w xs) (hB : B ≤ w.heap.size) (hx : x < 256) (hlim : xs.length ≤ 70000000000000) :
  Calls Tryz.prog 103 #[.iface ty (.pointer (some ⟨g, 0, none⟩)), .int .u8 x] w fun e w' =>
   e = .returned .nilIface ∧ St w' (xs ++ [(x : Int)]) ∧ Kp B S w w' := by
 have hmf : ∀ (fn : Fn) (first cap : Array Value) (w : World), (Instr.makeFunc fn first cap).run Tryz.prog w = .ok (.func fn first cap) w := fun _ _ _ _ => rfl
 have h1 := R.nilA
 have h2 := R.meth
 have h4 := R.call
 have h3 := oneAll w.heap.size
 have hS : w.heap.size ∉ S := fun hm => by have := (R.lt w _ h _ hm).1; omega
 have HH := Lib.hid h
 have HS := Lib.hid hS
 clear h hS
 go_enter Tryz.func103, Tryz.ntmps103
 go_wp2_with fail
 have hb1 : St (w.alloc (.cells #[.int .u8 x] 256)).drew xs := R.move [] w _ xs HH.out (((Touch.refl [] w).alloc _).drew) (by simp)
 have hs1 : (w.alloc (.cells #[.int .u8 x] 256)).cell? ⟨w.heap.size, 0, none⟩ = some (.int .u8 x) := World.cell?_alloc_at _ _ _ _ rfl
 have hB2 : Kp B S w (w.alloc (.cells #[.int .u8 x] 256)).drew := ((Kp.refl B S w).alloc hB _).drew
 obtain ⟨g1, hg⟩ : ∃ g1, w.heap.size = g1 := ⟨_, rfl⟩
 obtain ⟨w1, hw1⟩ : ∃ w1, w.alloc (.cells #[.int .u8 x] 256) = w1 := ⟨_, rfl⟩
 rw [hw1] at hb1 hs1 hB2
 rw [hw1]
 rw [hg] at hs1 h3 HS
 rw [hg]
 have hwr := R.write w1.drew xs [(x : Int)] ⟨g1, 0, none⟩ 1 1 hb1 (Nat.le_trans hB hB2.bel.size) ⟨rfl, by decide, fun _ => ⟨_, rfl, fun i hi => by
   obtain rfl : i = 0 := by omega
   exact hs1⟩⟩ (by decide) HS.out (by simp; omega) (by omega)
 have HW := Lib.hid hwr
 have HB2 := Lib.hid hB2
 clear hb1 hs1 hw1 hwr hB2
 go_region_with (first | (refine HW.out.mono ?_; rintro e w2 ⟨rfl, hb2, hbe⟩))
 all_goals
  have X := Lib.hid (And.intro hb2 (HB2.out.trans hbe))
  clear hb2 hbe
  go_wp2_with fail
  go_ret
  exact ⟨rfl, X.out⟩
end Go.Proofs.YtmcllndnjdemaaaGreatDoor.Walk
