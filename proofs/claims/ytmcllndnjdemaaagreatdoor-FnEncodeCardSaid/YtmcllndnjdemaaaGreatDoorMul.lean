/- bytes.Buffer as a sink; io.MultiWriter of sums and the buffer as a sink. Printed by wip/mulw.py. -/
import Derived.Test.YtmcllndnjdemaaaGreatDoorSnkAll
import Derived.Test.YtmcllndnjdemaaaGreatDoorCrcAll
import Derived.Test.YtmcllndnjdemaaaGreatDoorSubAll
import Derived.Test.YtmcllndnjdemaaaGreatDoorShelf
namespace Go.Proofs.YtmcllndnjdemaaaGreatDoor.Walk
set_option linter.unusedVariables false
set_option linter.unusedSimpArgs false
open Go Go.RowKit Go.Proofs.YtmcllndnjdemaaaGreatDoorW.PrintWords Go.Proofs.YtmcllndnjdemaaaGreatDoorW.PrintLast Go.Proofs.YtmcllndnjdemaaaGreatDoorW.PrintMore Go.Proofs.YtmcllndnjdemaaaGreatDoor.Num Go.Proofs.YtmcllndnjdemaaaGreatDoor.Crc
abbrev Buf (B b : Nat) (w : World) (xs : List Int) : Prop := Lib.IsBuffer 63 5 B b (nums .u8 xs) w
theorem nums_one (xs : List Int) : ∀ v ∈ nums .u8 xs, v.oneCell' = true := by
 intro v hv
 obtain ⟨x, _, rfl⟩ := List.mem_map.1 hv
 rfl
theorem Buf.move {B b : Nat} {xs : List Int} {w w' : World} (h : Buf B b w xs) {U : List Nat} (t : Touch U w w') (hU : ∀ k ∈ U, k ≠ b ∧ ∀ o, w.heap[k]? = some o → ¬ IsU8 o) : Buf B b w' xs := by
 obtain ⟨hB, v, lr, hbk, hown, hne⟩ := h
 refine ⟨hB, v, lr, t.heap hbk (fun hm => (hU b hm).1 rfl), ?_, hne⟩
 refine own_touch hown t (fun k hk hm => ?_)
 rcases hown.2 with ⟨h1, _⟩ | ⟨g', cap, cur, h1, _, h2, _⟩
 ·rw [h1] at hk; cases hk
 ·rw [h1] at hk
  obtain rfl : g' = k := by simpa [Value.ownBlock] using hk
  exact (hU g' hm).2 _ h2 ⟨_, _, rfl⟩
theorem Buf.fact {B b : Nat} {xs : List Int} {w : World} (h : Buf B b w xs) : b < w.heap.size ∧ B ≤ b ∧ ∀ o, w.heap[b]? = some o → ¬ IsU8 o := by
 obtain ⟨hB, v, lr, hbk, _⟩ := id h
 exact ⟨h.lt, hB, fun o ho => by rw [hbk] at ho; cases ho; exact notU8 (by decide)⟩
theorem buf_write (B b : Nat) (w : World) (bs p : List Int) (a : Addr) (n c : Nat) (h : Buf B b w bs) (hB : B ≤ w.heap.size) (hr : ReadsInt w .u8 (some a) n p) (hn : 0 < n) (ha : a.block ∉ [b]) (hl : bs.length + n ≤ 140737488355328) :
  Calls Tryz.prog 155 #[.pointer (some ⟨b, 0, none⟩), .slice (some a) n c] w fun e w' => e = .returned (.tuple #[.int .i64 n, .nilIface]) ∧ Buf B b w' (bs ++ p) ∧ Kp B [b] w w' := by
 obtain ⟨ad, e, hc⟩ := hr.2.2 hn
 obtain rfl := Option.some.inj e
 refine (Tryz.Buffer_Write_any B b (nums .u8 bs) (nums .u8 p) a n c w h hB (nums_one bs) (by simp [nums, hr.1]) (fun e => ha (by simp [e])) (fun j v hj => ?_) (nums_one p) (by rw [nums_len]; exact hl)).mono ?_
 ·have hj2 : j < p.length := by
   have := (List.getElem?_eq_some_iff.1 hj).1
   simpa [nums] using this
  rw [hc j (by rw [← hr.1]; exact hj2)]
  simp [nums, hj2] at hj
  rw [← hj, List.getD_eq_getElem?_getD, List.getElem?_eq_getElem hj2]; rfl
 ·rintro e w' ⟨he, hb, hbe, hk⟩
  refine ⟨he, ?_, hbe, fun k o ho hn hu => hk k o ho (fun e => hn (by injection e with e; simp [e])) (fun c fz e => hu ⟨c, fz, e⟩)⟩
  have e : nums .u8 bs ++ nums .u8 p = nums .u8 (bs ++ p) := by simp [nums]
  rw [e] at hb; exact hb
theorem buf_snk (B b : Nat) : Snk 69 155 b B [b] (Buf B b) where
 nilA := fun w => by kernel_rfl
 meth := fun w => by kernel_rfl
 call := fun args w => by kernel_rfl
 lt := fun w bs h k hk => by
  obtain rfl : k = b := by simpa using hk
  exact h.fact
 move := fun U w w' bs h t hU => h.move t (fun k hk => ⟨fun e => (hU k hk).1 (by simp [e]), (hU k hk).2⟩)
 write := fun w bs p a n c h hB hr hn ha _ hl => buf_write B b w bs p a n c h hB hr hn ha (by omega)
theorem blk_ne {w : World} {i j : Nat} {cs cs' : Array Value} {T T' : TypeId} {f f' : Nat × Nat} (hi : w.heap[i]? = some (.cells cs T f)) (hj : w.heap[j]? = some (.cells cs' T' f')) (hT : T ≠ T') : i ≠ j := by
 rintro rfl
 rw [hi] at hj
 injection hj with hj
 injection hj with _ h2 _
 exact hT h2
theorem reads_touch {w w' : World} {k : IntKind} {a : Addr} {n : Nat} {p : List Int} (h : ReadsInt w k (some a) n p) {U : List Nat} (t : Touch U w w') (hU : a.block ∉ U) : ReadsInt w' k (some a) n p := by
 obtain ⟨h1, h2, h3⟩ := h
 refine ⟨h1, h2, fun h0 => ?_⟩
 obtain ⟨ad, e, hc⟩ := h3 h0
 obtain rfl := Option.some.inj e
 exact ⟨a, rfl, fun i hi => t.cell (hc i hi) (by unfold Addr.add; split <;> exact hU)⟩
structure Mw2 (B gm gr d16 t16 b : Nat) (pre : List Int) (w : World) (bs : List Int) : Prop where
 mw : ∃ c, w.heap[gm]? = some (.cells #[.slice (some ⟨gr, 0, none⟩) 2 c] 197 (0, 0))
 row : ∃ cs, w.heap[gr]? = some (.cells cs 110 (0, 0)) ∧ cs[0]? = some (.iface 233 (.pointer (some ⟨d16, 0, none⟩))) ∧ cs[1]? = some (.iface 69 (.pointer (some ⟨b, 0, none⟩)))
 dg16 : Dig16 d16 t16 w (bs)
 buf : Buf B b w (pre ++ bs)
 base : B ≤ gm ∧ B ≤ gr ∧ B ≤ d16 ∧ B ≤ t16
 lim : pre.length ≤ 70368744177664
theorem Mw2.facts {B gm gr d16 t16 b : Nat} {pre : List Int} {w : World} {bs : List Int} (h : Mw2 B gm gr d16 t16 b pre w bs) : ∀ k ∈ [d16, t16, gm, gr, b], k < w.heap.size ∧ B ≤ k ∧ ∀ o, w.heap[k]? = some o → ¬ IsU8 o := by
 obtain ⟨⟨c, h1⟩, ⟨cs, h2, _⟩, hd16, hb, hbase, hlim⟩ := h
 have hbf := hb.fact
 intro k hk
 simp only [List.mem_cons, List.not_mem_nil, or_false] at hk
 rcases hk with rfl | rfl | rfl | rfl | rfl
 ·exact ⟨(Array.getElem?_eq_some_iff.1 hd16.1).1, by simp only [hbase], fun o ho => by rw [hd16.1] at ho; cases ho; exact notU8 (by decide)⟩
 ·exact ⟨(Array.getElem?_eq_some_iff.1 hd16.2).1, by simp only [hbase], fun o ho => by rw [hd16.2] at ho; cases ho; exact notU8 (by decide)⟩
 ·exact ⟨(Array.getElem?_eq_some_iff.1 h1).1, hbase.1, fun o ho => by rw [h1] at ho; cases ho; exact notU8 (by decide)⟩
 ·exact ⟨(Array.getElem?_eq_some_iff.1 h2).1, hbase.2.1, fun o ho => by rw [h2] at ho; cases ho; exact notU8 (by decide)⟩
 ·exact hbf
theorem Mw2.move {B gm gr d16 t16 b : Nat} {pre : List Int} {w w' : World} {bs : List Int} (h : Mw2 B gm gr d16 t16 b pre w bs) {U : List Nat} (t : Touch U w w') (hU : ∀ k ∈ U, k ∉ [d16, t16, gm, gr, b] ∧ ∀ o, w.heap[k]? = some o → ¬ IsU8 o) : Mw2 B gm gr d16 t16 b pre w' bs := by
 obtain ⟨⟨c, h1⟩, ⟨cs, h2, h3⟩, hd16, hb, hbase, hlim⟩ := h
 have hn : ∀ q ∈ [d16, t16, gm, gr, b], q ∉ U := fun q hq hm => (hU q hm).1 hq
 exact ⟨⟨c, t.heap h1 (hn gm (by simp))⟩, ⟨cs, t.heap h2 (hn gr (by simp)), h3⟩, ⟨t.heap hd16.1 (hn d16 (by simp)), t.heap hd16.2 (hn t16 (by simp))⟩, hb.move t (fun k hk => ⟨fun e => (hU k hk).1 (by simp [e]), (hU k hk).2⟩), hbase, hlim⟩
set_option maxHeartbeats 4000000 in
set_option maxRecDepth 100000 in
theorem mw2_snk (B gm gr d16 t16 b : Nat) (pre : List Int) : Snk 194 173 gm B [d16, t16, gm, gr, b] (Mw2 B gm gr d16 t16 b pre) where
 nilA := fun w => by kernel_rfl
 meth := fun w => by kernel_rfl
 call := fun args w => by kernel_rfl
 lt := fun w bs h k hk => h.facts k hk
 move := fun U w w' bs h t hU => h.move t hU
 write := by
  intro w bs p a n c h hB hr hn ha hby hl
  obtain ⟨⟨cm, h1⟩, ⟨cs, h2, e0, e1⟩, hd16, hbuf, hbase, hlim⟩ := id h
  have hf := h.facts
  have hne16 : d16 ≠ t16 := fun e => by have h3 := hd16.1; have h4 := hd16.2; rw [e, h4] at h3; injection h3 with h3; injection h3 with _ h3 _; exact absurd h3 (by decide)
  have R16 := dig16_snk d16 t16 hne16
  have n16 := R16.nilA
  have m16 := R16.meth
  have k16 := R16.call
  have RB := buf_snk B b
  have nb := RB.nilA
  have mb := RB.meth
  have kb := RB.call
  have c0 : w.cell? ⟨gm, 0, none⟩ = some (.slice (some ⟨gr, 0, none⟩) 2 cm) := by rw [cell_of_row w gm 0 _ _ _ h1]; rfl
  have r0 : w.cell? ⟨gr, 0, none⟩ = some (.iface 233 (.pointer (some ⟨d16, 0, none⟩))) := by rw [cell_of_row w gr 0 _ _ _ h2, e0]
  have r1 : w.cell? ⟨gr, 1, none⟩ = some (.iface 69 (.pointer (some ⟨b, 0, none⟩))) := by rw [cell_of_row w gr 1 _ _ _ h2, e1]
  have HBY := Lib.hid hby
  have HBASE := Lib.hid hbase
  have HF := Lib.hid hf
  have HE := Lib.hid (And.intro e0 e1)
  have P0 := Lib.hid (And.intro h1 (And.intro h2 (And.intro hbuf (And.intro hr hd16))))
  clear h h1 h2 hr hby hf hbuf hbase e0 e1  hd16
  go_enter Tryz.func173, Tryz.ntmps173
  go_wp2_with fail
  refine wp_loop_rounds 3 ?_
  rw [rounds_succ]
  go_wp2_with fail
  refine (R16.write w bs p a n c P0.out.2.2.2.2 HBY.out P0.out.2.2.2.1).mono ?_
  rintro e w1 ⟨rfl, t0, hd⟩
  obtain ⟨h1, h2, hbuf, hr, hds⟩ := id P0.out
  have n1 : gm ∉ [d16] := by simp only [List.mem_singleton]; exact blk_ne h1 (hds).1 (by decide)
  have n2 : gr ∉ [d16] := by simp only [List.mem_singleton]; exact blk_ne h2 (hds).1 (by decide)
  have h1' := t0.heap h1 n1
  have h2' := t0.heap h2 n2
  have hbuf' := hbuf.move t0 (fun k hk => by
   obtain rfl : k = d16 := by simpa using hk
   exact ⟨fun e => (by obtain ⟨_, v, lr, hbk, _⟩ := hbuf; exact blk_ne hbk (hds).1 (by decide) e.symm), fun o ho => by rw [(hds).1] at ho; cases ho; exact notU8 (by decide)⟩)
  have hr' := reads_touch hr t0 (fun e => ha (by simp at e; simp [e]))
  have c0 : w1.cell? ⟨gm, 0, none⟩ = some (.slice (some ⟨gr, 0, none⟩) 2 cm) := by rw [cell_of_row w1 gm 0 _ _ _ h1']; rfl
  have r0 : w1.cell? ⟨gr, 0, none⟩ = some (.iface 233 (.pointer (some ⟨d16, 0, none⟩))) := by rw [cell_of_row w1 gr 0 _ _ _ h2', HE.out.1]
  have r1 : w1.cell? ⟨gr, 1, none⟩ = some (.iface 69 (.pointer (some ⟨b, 0, none⟩))) := by rw [cell_of_row w1 gr 1 _ _ _ h2', HE.out.2]
  have P1 := Lib.hid (And.intro h1' (And.intro h2' (And.intro hbuf' (And.intro hr' hd))))
  have T1 := Lib.hid t0
  clear hd h1 h2 hbuf hr hds n1 n2 h1' h2' hbuf' hr' t0 P0
  go_wp2_with fail
  rw [rounds_succ]
  go_wp2_with fail
  refine (buf_write B b w1 (pre ++ bs) p a n c P1.out.2.2.1 (Nat.le_trans hB T1.out.size) P1.out.2.2.2.1 hn (fun e => ha (by simp at e; simp [e])) (by rw [List.length_append]; omega)).mono ?_
  rintro e wz ⟨rfl, hbz, hkz⟩
  obtain ⟨h1, h2, hbuf, hr, hds⟩ := id P1.out
  have h1' := hkz.keep gm _ h1 (by simp only [List.mem_singleton]; obtain ⟨_, v, lr, hbk, _⟩ := hbuf; exact blk_ne h1 hbk (by decide)) (notU8 (by decide))
  have h2' := hkz.keep gr _ h2 (by simp only [List.mem_singleton]; obtain ⟨_, v, lr, hbk, _⟩ := hbuf; exact blk_ne h2 hbk (by decide)) (notU8 (by decide))
  have k161 := hkz.keep d16 _ hds.1 (by simp only [List.mem_singleton]; obtain ⟨_, v, lr, hbk, _⟩ := hbuf; exact blk_ne hds.1 hbk (by decide)) (notU8 (by decide))
  have k162 := hkz.keep t16 _ hds.2 (by simp only [List.mem_singleton]; obtain ⟨_, v, lr, hbk, _⟩ := hbuf; exact blk_ne hds.2 hbk (by decide)) (notU8 (by decide))
  rw [List.append_assoc] at hbz
  have hkw : Kp B [d16, t16, gm, gr, b] w wz := ((Kp.of_touch T1.out (fun k hk => (HF.out k (by simp at hk ⊢; omega)).2.1) hB).mono (fun k hk => by simp at hk ⊢; omega)).trans (hkz.mono (fun k hk => by simp at hk ⊢; omega))
  have Z := Lib.hid (show Mw2 B gm gr d16 t16 b pre wz (bs ++ p) from ⟨⟨cm, h1'⟩, ⟨cs, h2', HE.out⟩, ⟨k161, k162⟩, hbz, HBASE.out, hlim⟩)
  have HK := Lib.hid hkw
  clear hbz hkz h1 h2 hbuf hr hds h1' h2' hkw k161 k162
  go_wp2_with fail
  rw [rounds_succ]
  go_wp2_with fail
  go_ret2
  exact ⟨rfl, Z.out, HK.out⟩
structure Mw3 (B gm gr d8 t8 d16 t16 b : Nat) (pre p16 : List Int) (w : World) (bs : List Int) : Prop where
 mw : ∃ c, w.heap[gm]? = some (.cells #[.slice (some ⟨gr, 0, none⟩) 3 c] 197 (0, 0))
 row : ∃ cs, w.heap[gr]? = some (.cells cs 110 (0, 0)) ∧ cs[0]? = some (.iface 251 (.pointer (some ⟨d8, 0, none⟩))) ∧ cs[1]? = some (.iface 233 (.pointer (some ⟨d16, 0, none⟩))) ∧ cs[2]? = some (.iface 69 (.pointer (some ⟨b, 0, none⟩)))
 dg8 : Dig8 d8 t8 w (bs)
 dg16 : Dig16 d16 t16 w (p16 ++ bs)
 buf : Buf B b w (pre ++ bs)
 base : B ≤ gm ∧ B ≤ gr ∧ B ≤ d8 ∧ B ≤ t8 ∧ B ≤ d16 ∧ B ≤ t16
 lim : pre.length ≤ 70368744177664
theorem Mw3.facts {B gm gr d8 t8 d16 t16 b : Nat} {pre p16 : List Int} {w : World} {bs : List Int} (h : Mw3 B gm gr d8 t8 d16 t16 b pre p16 w bs) : ∀ k ∈ [d8, t8, d16, t16, gm, gr, b], k < w.heap.size ∧ B ≤ k ∧ ∀ o, w.heap[k]? = some o → ¬ IsU8 o := by
 obtain ⟨⟨c, h1⟩, ⟨cs, h2, _⟩, hd8, hd16, hb, hbase, hlim⟩ := h
 have hbf := hb.fact
 intro k hk
 simp only [List.mem_cons, List.not_mem_nil, or_false] at hk
 rcases hk with rfl | rfl | rfl | rfl | rfl | rfl | rfl
 ·exact ⟨(Array.getElem?_eq_some_iff.1 hd8.1).1, by simp only [hbase], fun o ho => by rw [hd8.1] at ho; cases ho; exact notU8 (by decide)⟩
 ·exact ⟨(Array.getElem?_eq_some_iff.1 hd8.2).1, by simp only [hbase], fun o ho => by rw [hd8.2] at ho; cases ho; exact notU8 (by decide)⟩
 ·exact ⟨(Array.getElem?_eq_some_iff.1 hd16.1).1, by simp only [hbase], fun o ho => by rw [hd16.1] at ho; cases ho; exact notU8 (by decide)⟩
 ·exact ⟨(Array.getElem?_eq_some_iff.1 hd16.2).1, by simp only [hbase], fun o ho => by rw [hd16.2] at ho; cases ho; exact notU8 (by decide)⟩
 ·exact ⟨(Array.getElem?_eq_some_iff.1 h1).1, hbase.1, fun o ho => by rw [h1] at ho; cases ho; exact notU8 (by decide)⟩
 ·exact ⟨(Array.getElem?_eq_some_iff.1 h2).1, hbase.2.1, fun o ho => by rw [h2] at ho; cases ho; exact notU8 (by decide)⟩
 ·exact hbf
theorem Mw3.move {B gm gr d8 t8 d16 t16 b : Nat} {pre p16 : List Int} {w w' : World} {bs : List Int} (h : Mw3 B gm gr d8 t8 d16 t16 b pre p16 w bs) {U : List Nat} (t : Touch U w w') (hU : ∀ k ∈ U, k ∉ [d8, t8, d16, t16, gm, gr, b] ∧ ∀ o, w.heap[k]? = some o → ¬ IsU8 o) : Mw3 B gm gr d8 t8 d16 t16 b pre p16 w' bs := by
 obtain ⟨⟨c, h1⟩, ⟨cs, h2, h3⟩, hd8, hd16, hb, hbase, hlim⟩ := h
 have hn : ∀ q ∈ [d8, t8, d16, t16, gm, gr, b], q ∉ U := fun q hq hm => (hU q hm).1 hq
 exact ⟨⟨c, t.heap h1 (hn gm (by simp))⟩, ⟨cs, t.heap h2 (hn gr (by simp)), h3⟩, ⟨t.heap hd8.1 (hn d8 (by simp)), t.heap hd8.2 (hn t8 (by simp))⟩, ⟨t.heap hd16.1 (hn d16 (by simp)), t.heap hd16.2 (hn t16 (by simp))⟩, hb.move t (fun k hk => ⟨fun e => (hU k hk).1 (by simp [e]), (hU k hk).2⟩), hbase, hlim⟩
set_option maxHeartbeats 4000000 in
set_option maxRecDepth 100000 in
theorem mw3_snk (B gm gr d8 t8 d16 t16 b : Nat) (pre p16 : List Int) : Snk 194 173 gm B [d8, t8, d16, t16, gm, gr, b] (Mw3 B gm gr d8 t8 d16 t16 b pre p16) where
 nilA := fun w => by kernel_rfl
 meth := fun w => by kernel_rfl
 call := fun args w => by kernel_rfl
 lt := fun w bs h k hk => h.facts k hk
 move := fun U w w' bs h t hU => h.move t hU
 write := by
  intro w bs p a n c h hB hr hn ha hby hl
  obtain ⟨⟨cm, h1⟩, ⟨cs, h2, e0, e1, e2⟩, hd8, hd16, hbuf, hbase, hlim⟩ := id h
  have hf := h.facts
  have hne8 : d8 ≠ t8 := fun e => by have h3 := hd8.1; have h4 := hd8.2; rw [e, h4] at h3; injection h3 with h3; injection h3 with _ h3 _; exact absurd h3 (by decide)
  have R8 := dig8_snk d8 t8 hne8
  have n8 := R8.nilA
  have m8 := R8.meth
  have k8 := R8.call
  have hne16 : d16 ≠ t16 := fun e => by have h3 := hd16.1; have h4 := hd16.2; rw [e, h4] at h3; injection h3 with h3; injection h3 with _ h3 _; exact absurd h3 (by decide)
  have R16 := dig16_snk d16 t16 hne16
  have n16 := R16.nilA
  have m16 := R16.meth
  have k16 := R16.call
  have RB := buf_snk B b
  have nb := RB.nilA
  have mb := RB.meth
  have kb := RB.call
  have c0 : w.cell? ⟨gm, 0, none⟩ = some (.slice (some ⟨gr, 0, none⟩) 3 cm) := by rw [cell_of_row w gm 0 _ _ _ h1]; rfl
  have r0 : w.cell? ⟨gr, 0, none⟩ = some (.iface 251 (.pointer (some ⟨d8, 0, none⟩))) := by rw [cell_of_row w gr 0 _ _ _ h2, e0]
  have r1 : w.cell? ⟨gr, 1, none⟩ = some (.iface 233 (.pointer (some ⟨d16, 0, none⟩))) := by rw [cell_of_row w gr 1 _ _ _ h2, e1]
  have r2 : w.cell? ⟨gr, 2, none⟩ = some (.iface 69 (.pointer (some ⟨b, 0, none⟩))) := by rw [cell_of_row w gr 2 _ _ _ h2, e2]
  have HBY := Lib.hid hby
  have HBASE := Lib.hid hbase
  have HF := Lib.hid hf
  have HE := Lib.hid (And.intro e0 (And.intro e1 e2))
  have P0 := Lib.hid (And.intro h1 (And.intro h2 (And.intro hbuf (And.intro hr (And.intro hd8 hd16)))))
  clear h h1 h2 hr hby hf hbuf hbase e0 e1 e2 hd8 hd16
  go_enter Tryz.func173, Tryz.ntmps173
  go_wp2_with fail
  refine wp_loop_rounds 4 ?_
  rw [rounds_succ]
  go_wp2_with fail
  refine (R8.write w bs p a n c P0.out.2.2.2.2.1 HBY.out P0.out.2.2.2.1).mono ?_
  rintro e w1 ⟨rfl, t0, hd⟩
  obtain ⟨h1, h2, hbuf, hr, hds⟩ := id P0.out
  have n1 : gm ∉ [d8] := by simp only [List.mem_singleton]; exact blk_ne h1 (hds.1).1 (by decide)
  have n2 : gr ∉ [d8] := by simp only [List.mem_singleton]; exact blk_ne h2 (hds.1).1 (by decide)
  have h1' := t0.heap h1 n1
  have h2' := t0.heap h2 n2
  have hbuf' := hbuf.move t0 (fun k hk => by
   obtain rfl : k = d8 := by simpa using hk
   exact ⟨fun e => (by obtain ⟨_, v, lr, hbk, _⟩ := hbuf; exact blk_ne hbk (hds.1).1 (by decide) e.symm), fun o ho => by rw [(hds.1).1] at ho; cases ho; exact notU8 (by decide)⟩)
  have hr' := reads_touch hr t0 (fun e => ha (by simp at e; simp [e]))
  have c0 : w1.cell? ⟨gm, 0, none⟩ = some (.slice (some ⟨gr, 0, none⟩) 3 cm) := by rw [cell_of_row w1 gm 0 _ _ _ h1']; rfl
  have r0 : w1.cell? ⟨gr, 0, none⟩ = some (.iface 251 (.pointer (some ⟨d8, 0, none⟩))) := by rw [cell_of_row w1 gr 0 _ _ _ h2', HE.out.1]
  have r1 : w1.cell? ⟨gr, 1, none⟩ = some (.iface 233 (.pointer (some ⟨d16, 0, none⟩))) := by rw [cell_of_row w1 gr 1 _ _ _ h2', HE.out.2.1]
  have r2 : w1.cell? ⟨gr, 2, none⟩ = some (.iface 69 (.pointer (some ⟨b, 0, none⟩))) := by rw [cell_of_row w1 gr 2 _ _ _ h2', HE.out.2.2]
  have P1 := Lib.hid (And.intro h1' (And.intro h2' (And.intro hbuf' (And.intro hr' (And.intro hd (show Dig16 d16 t16 w1 (p16 ++ bs) from ⟨t0.heap hds.2.1 (by simp only [List.mem_singleton]; exact blk_ne hds.2.1 hds.1.1 (by decide)), t0.heap hds.2.2 (by simp only [List.mem_singleton]; exact blk_ne hds.2.2 hds.1.1 (by decide))⟩))))))
  have T1 := Lib.hid t0
  clear hd h1 h2 hbuf hr hds n1 n2 h1' h2' hbuf' hr' t0 P0
  go_wp2_with fail
  rw [rounds_succ]
  go_wp2_with fail
  refine (R16.write w1 (p16 ++ bs) p a n c P1.out.2.2.2.2.2 HBY.out P1.out.2.2.2.1).mono ?_
  rintro e w2 ⟨rfl, t1, hd⟩
  obtain ⟨h1, h2, hbuf, hr, hds⟩ := id P1.out
  have n1 : gm ∉ [d16] := by simp only [List.mem_singleton]; exact blk_ne h1 (hds.2).1 (by decide)
  have n2 : gr ∉ [d16] := by simp only [List.mem_singleton]; exact blk_ne h2 (hds.2).1 (by decide)
  have h1' := t1.heap h1 n1
  have h2' := t1.heap h2 n2
  have hbuf' := hbuf.move t1 (fun k hk => by
   obtain rfl : k = d16 := by simpa using hk
   exact ⟨fun e => (by obtain ⟨_, v, lr, hbk, _⟩ := hbuf; exact blk_ne hbk (hds.2).1 (by decide) e.symm), fun o ho => by rw [(hds.2).1] at ho; cases ho; exact notU8 (by decide)⟩)
  have hr' := reads_touch hr t1 (fun e => ha (by simp at e; simp [e]))
  have c0 : w2.cell? ⟨gm, 0, none⟩ = some (.slice (some ⟨gr, 0, none⟩) 3 cm) := by rw [cell_of_row w2 gm 0 _ _ _ h1']; rfl
  have r0 : w2.cell? ⟨gr, 0, none⟩ = some (.iface 251 (.pointer (some ⟨d8, 0, none⟩))) := by rw [cell_of_row w2 gr 0 _ _ _ h2', HE.out.1]
  have r1 : w2.cell? ⟨gr, 1, none⟩ = some (.iface 233 (.pointer (some ⟨d16, 0, none⟩))) := by rw [cell_of_row w2 gr 1 _ _ _ h2', HE.out.2.1]
  have r2 : w2.cell? ⟨gr, 2, none⟩ = some (.iface 69 (.pointer (some ⟨b, 0, none⟩))) := by rw [cell_of_row w2 gr 2 _ _ _ h2', HE.out.2.2]
  have P2 := Lib.hid (And.intro h1' (And.intro h2' (And.intro hbuf' (And.intro hr' (And.intro (show Dig8 d8 t8 w2 (bs ++ p) from ⟨t1.heap hds.1.1 (by simp only [List.mem_singleton]; exact blk_ne hds.1.1 hds.2.1 (by decide)), t1.heap hds.1.2 (by simp only [List.mem_singleton]; exact blk_ne hds.1.2 hds.2.1 (by decide))⟩) hd)))))
  have T2 := Lib.hid (T1.out.mono (T := [d8, d16]) (fun _ _ h => by simp at h; simp [h]) |>.trans (t1.mono (T := [d8, d16]) (fun _ _ h => by simp at h; simp [h])))
  clear hd h1 h2 hbuf hr hds n1 n2 h1' h2' hbuf' hr' t1 P1
  go_wp2_with fail
  rw [rounds_succ]
  go_wp2_with fail
  refine (buf_write B b w2 (pre ++ bs) p a n c P2.out.2.2.1 (Nat.le_trans hB T2.out.size) P2.out.2.2.2.1 hn (fun e => ha (by simp at e; simp [e])) (by rw [List.length_append]; omega)).mono ?_
  rintro e wz ⟨rfl, hbz, hkz⟩
  obtain ⟨h1, h2, hbuf, hr, hds⟩ := id P2.out
  have h1' := hkz.keep gm _ h1 (by simp only [List.mem_singleton]; obtain ⟨_, v, lr, hbk, _⟩ := hbuf; exact blk_ne h1 hbk (by decide)) (notU8 (by decide))
  have h2' := hkz.keep gr _ h2 (by simp only [List.mem_singleton]; obtain ⟨_, v, lr, hbk, _⟩ := hbuf; exact blk_ne h2 hbk (by decide)) (notU8 (by decide))
  have k81 := hkz.keep d8 _ hds.1.1 (by simp only [List.mem_singleton]; obtain ⟨_, v, lr, hbk, _⟩ := hbuf; exact blk_ne hds.1.1 hbk (by decide)) (notU8 (by decide))
  have k82 := hkz.keep t8 _ hds.1.2 (by simp only [List.mem_singleton]; obtain ⟨_, v, lr, hbk, _⟩ := hbuf; exact blk_ne hds.1.2 hbk (by decide)) (notU8 (by decide))
  have k161 := hkz.keep d16 _ hds.2.1 (by simp only [List.mem_singleton]; obtain ⟨_, v, lr, hbk, _⟩ := hbuf; exact blk_ne hds.2.1 hbk (by decide)) (notU8 (by decide))
  have k162 := hkz.keep t16 _ hds.2.2 (by simp only [List.mem_singleton]; obtain ⟨_, v, lr, hbk, _⟩ := hbuf; exact blk_ne hds.2.2 hbk (by decide)) (notU8 (by decide))
  rw [List.append_assoc] at hbz
  have hkw : Kp B [d8, t8, d16, t16, gm, gr, b] w wz := ((Kp.of_touch T2.out (fun k hk => (HF.out k (by simp at hk ⊢; omega)).2.1) hB).mono (fun k hk => by simp at hk ⊢; omega)).trans (hkz.mono (fun k hk => by simp at hk ⊢; omega))
  rw [List.append_assoc] at k161
  have Z := Lib.hid (show Mw3 B gm gr d8 t8 d16 t16 b pre p16 wz (bs ++ p) from ⟨⟨cm, h1'⟩, ⟨cs, h2', HE.out⟩, ⟨k81, k82⟩, ⟨k161, k162⟩, hbz, HBASE.out, hlim⟩)
  have HK := Lib.hid hkw
  clear hbz hkz h1 h2 hbuf hr hds h1' h2' hkw k81 k82 k161 k162
  go_wp2_with fail
  rw [rounds_succ]
  go_wp2_with fail
  go_ret2
  exact ⟨rfl, Z.out, HK.out⟩
end Go.Proofs.YtmcllndnjdemaaaGreatDoor.Walk
