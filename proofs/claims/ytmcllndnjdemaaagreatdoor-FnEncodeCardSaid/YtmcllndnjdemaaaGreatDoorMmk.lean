/- io.MultiWriter, made of a sum and the buffer, and of a sum and such a writer. -/
import Derived.Test.YtmcllndnjdemaaaGreatDoorMul
namespace Go.Proofs.YtmcllndnjdemaaaGreatDoor.Walk
set_option linter.unusedVariables false
set_option linter.unusedSimpArgs false
open Go Go.RowKit Go.Proofs.YtmcllndnjdemaaaGreatDoorW.PrintWords Go.Proofs.YtmcllndnjdemaaaGreatDoorW.PrintLast Go.Proofs.YtmcllndnjdemaaaGreatDoorW.PrintMore Go.Proofs.YtmcllndnjdemaaaGreatDoor.Num Go.Proofs.YtmcllndnjdemaaaGreatDoor.Crc
def ifc (p : Nat × Nat) : Value := .iface p.1 (.pointer (some ⟨p.2, 0, none⟩))
theorem infoIfc : (Tryz.prog.info? 110).map (fun i => (i.zero, i.size, i.bytes)) = some (some .nilIface, 1, 16) := by kernel_rfl
theorem mkW2 (W : World) : (Instr.makeSlice 193 (.int .i64 0) (.int .i64 2)).run Tryz.prog W = .ok (.slice (some ⟨W.heap.size, 0, none⟩) 0 2) (W.alloc (.cells #[.nilIface, .nilIface] 110)) := by kernel_rfl
theorem ta16 (x : Value) (W : World) : (Instr.typeAssert (.iface 233 x) 110 194 true).run Tryz.prog W = .ok (.tuple #[.pointer none, .bool false]) W := by kernel_rfl
theorem ta8 (x : Value) (W : World) : (Instr.typeAssert (.iface 251 x) 110 194 true).run Tryz.prog W = .ok (.tuple #[.pointer none, .bool false]) W := by kernel_rfl
theorem taB (x : Value) (W : World) : (Instr.typeAssert (.iface 69 x) 110 194 true).run Tryz.prog W = .ok (.tuple #[.pointer none, .bool false]) W := by kernel_rfl
theorem taM (x : Value) (W : World) : (Instr.typeAssert (.iface 194 x) 110 194 true).run Tryz.prog W = .ok (.tuple #[x, .bool true]) W := by kernel_rfl
theorem own_mk2 (W : World) : (W.alloc (.cells #[.nilIface, .nilIface] 110)).ownsRow W.heap.size 110 1 (.slice (some ⟨W.heap.size, 0, none⟩) 0 2) 0 (encs ifc []) :=
 ⟨rfl, .inr ⟨W.heap.size, 2, _, rfl, Nat.le_refl _, heap_alloc_new W _, by omega, by unfold maxLen; omega, rfl, rfl⟩⟩
theorem own_cells {w : World} {base n : Nat} {e : TypeId} {v : Value} {xs : List Value} (h : w.ownsRow base e 1 v n xs) (hn : 0 < n) : ∃ g cap cs, v = .slice (some ⟨g, 0, none⟩) n cap ∧ base ≤ g ∧ w.heap[g]? = some (.cells cs e (0, 0)) ∧ ∀ k, k < n → cs[k]? = xs[k]? := by
 obtain ⟨h1, ⟨_, h2⟩ | ⟨g, cap, cur, rfl, hb, hh, hn', hc, hs, ht⟩⟩ := h
 ·omega
 ·refine ⟨g, cap, cur, rfl, hb, hh, fun k hk => ?_⟩
  rw [← ht, List.getElem?_take, if_pos (by omega)]; simp
set_option maxHeartbeats 4000000 in
set_option maxRecDepth 100000 in
theorem mk2 (w : World) (g c d b : Nat) (hr : w.cell? ⟨g, 0, none⟩ = some (ifc (233, d)) ∧ w.cell? ⟨g, 1, none⟩ = some (ifc (69, b))) :
  Calls Tryz.prog 41 #[.slice (some ⟨g, 0, none⟩) 2 c] w fun e w' => ∃ gm gr cap cs, e = .returned (.iface 194 (.pointer (some ⟨gm, 0, none⟩))) ∧ Touch [] w w' ∧ w.heap.size ≤ gm ∧ w.heap.size ≤ gr ∧
   w'.heap[gm]? = some (.cells #[.slice (some ⟨gr, 0, none⟩) 2 cap] 197 (0, 0)) ∧ w'.heap[gr]? = some (.cells cs 110 (0, 0)) ∧ cs[0]? = some (ifc (233, d)) ∧ cs[1]? = some (ifc (69, b)) := by
 have hmk := mkW2
 have a1 := ta16 (.pointer (some ⟨d, 0, none⟩))
 have a2 := taB (.pointer (some ⟨b, 0, none⟩))
 have r0 : w.cell? ⟨g, 0, none⟩ = some (.iface 233 (.pointer (some ⟨d, 0, none⟩))) := hr.1
 have r1w : w.cell? ⟨g, 1, none⟩ = some (.iface 69 (.pointer (some ⟨b, 0, none⟩))) := hr.2
 have t1 := (Touch.refl [] w).alloc (.cells #[.nilIface, .nilIface] 110)
 have r0 := t1.cell r0 (by simp)
 have r1 := t1.cell r1w (by simp)
 have R1 := Lib.hid r1w
 have hO := own_mk2 w
 have HO := Lib.hid hO
 have T1 := Lib.hid t1
 clear hr hO t1 r1w
 go_enter Tryz.func41, Tryz.ntmps41
 go_wp2_with fail
 obtain ⟨g0, hg0⟩ : ∃ g0, w.heap.size = g0 := ⟨_, rfl⟩
 obtain ⟨w1, hw1⟩ : ∃ w1, w.alloc (.cells #[.nilIface, .nilIface] 110) = w1 := ⟨_, rfl⟩
 rw [hw1] at HO T1 r0 r1
 rw [hg0] at HO ⊢
 rw [hw1]
 clear hw1
 refine wp_loop_rounds 3 ?_
 rw [rounds_succ]
 go_wp2_with (with_reducible refine stop_dst (N := 32) rfl ?_)
 refine unstop ?_
 refine print_append (w0 := w1) g0 rfl (.tmp 29) (.tmp 31) 193 110 .nilIface 16 rfl Tryz.underlying193 infoIfc rfl (by decide) (.slice (some ⟨g0, 0, none⟩) 0 2) (encs ifc []) (ifc (233, d)) rfl rfl rfl HO.out ?aB ?aS ?aL ?_
 case aB => exact Below.refl _ _
 case aS => rw [← hg0]; exact T1.out.size
 case aL => simp [encs]
 intro v1 w2 hO2 hB2 hg2 _
 have t2 : Touch [] w w2 := T1.out.then_below (by rw [hg0]; exact hB2)
 have r1 : w2.cell? ⟨g, 1, none⟩ = some (.iface 69 (.pointer (some ⟨b, 0, none⟩))) := t2.cell R1.out (by simp)
 have X2 := Lib.hid (And.intro hO2 t2)
 clear hO2 hB2 hg2 t2 HO T1 r0
 go_wp2_with fail
 rw [rounds_succ]
 go_wp2_with (with_reducible refine stop_dst (N := 32) rfl ?_)
 refine unstop ?_
 refine print_append (w0 := w2) g0 rfl (.tmp 29) (.tmp 31) 193 110 .nilIface 16 rfl Tryz.underlying193 infoIfc rfl (by decide) v1 _ (ifc (69, b)) rfl rfl rfl X2.out.1 ?aB ?aS ?aL ?_
 case aB => exact Below.refl _ _
 case aS => rw [← hg0]; exact X2.out.2.size
 case aL => simp [encs]
 intro v2 w3 hO3 hB3 hg3 _
 have t3 : Touch [] w w3 := X2.out.2.then_below (by rw [hg0]; exact hB3)
 obtain ⟨gr, cap, cs, rfl, hgr, hh, hcs⟩ := own_cells hO3 (by simp [encs])
 have X3 := Lib.hid (And.intro t3 (And.intro hgr (And.intro hh (And.intro (hcs 0 (by simp [encs])) (hcs 1 (by simp [encs]))))))
 clear hO3 hB3 hg3 t3 X2 r1 hgr hh hcs
 go_wp2_with fail
 rw [rounds_succ]
 go_wp2_with fail
 go_ret
 refine ⟨_, gr, cap, cs, rfl, X3.out.1.alloc _, X3.out.1.size, by rw [hg0]; exact X3.out.2.1, heap_alloc_new _ _, ?_, X3.out.2.2.2.1, X3.out.2.2.2.2⟩
 exact (Below.heap_alloc _ _ _ (Array.getElem?_eq_some_iff.1 X3.out.2.2.1).1).trans X3.out.2.2.1
set_option maxHeartbeats 4000000 in
set_option maxRecDepth 100000 in
theorem mk3 (w : World) (g c d8 g2 r2 c2 d b : Nat) (cs2 : Array Value) (hr : w.cell? ⟨g, 0, none⟩ = some (ifc (251, d8)) ∧ w.cell? ⟨g, 1, none⟩ = some (ifc (194, g2)))
  (hm : w.heap[g2]? = some (.cells #[.slice (some ⟨r2, 0, none⟩) 2 c2] 197 (0, 0))) (hm2 : w.heap[r2]? = some (.cells cs2 110 (0, 0))) (e0 : cs2[0]? = some (ifc (233, d))) (e1 : cs2[1]? = some (ifc (69, b))) :
  Calls Tryz.prog 41 #[.slice (some ⟨g, 0, none⟩) 2 c] w fun e w' => ∃ gm gr cap cs, e = .returned (.iface 194 (.pointer (some ⟨gm, 0, none⟩))) ∧ Touch [] w w' ∧ w.heap.size ≤ gm ∧ w.heap.size ≤ gr ∧
   w'.heap[gm]? = some (.cells #[.slice (some ⟨gr, 0, none⟩) 3 cap] 197 (0, 0)) ∧ w'.heap[gr]? = some (.cells cs 110 (0, 0)) ∧ cs[0]? = some (ifc (251, d8)) ∧ cs[1]? = some (ifc (233, d)) ∧ cs[2]? = some (ifc (69, b)) := by
 have hmk := mkW2
 have a1 := ta8 (.pointer (some ⟨d8, 0, none⟩))
 have a2 := taM (.pointer (some ⟨g2, 0, none⟩))
 have r0 : w.cell? ⟨g, 0, none⟩ = some (.iface 251 (.pointer (some ⟨d8, 0, none⟩))) := hr.1
 have r1w : w.cell? ⟨g, 1, none⟩ = some (.iface 194 (.pointer (some ⟨g2, 0, none⟩))) := hr.2
 have t1 := (Touch.refl [] w).alloc (.cells #[.nilIface, .nilIface] 110)
 have q0 : w.cell? ⟨g2, 0, none⟩ = some (.slice (some ⟨r2, 0, none⟩) 2 c2) := by rw [cell_of_row w g2 0 _ _ _ hm]; rfl
 have q1 : w.cell? ⟨r2, 0, none⟩ = some (ifc (233, d)) := by rw [cell_of_row w r2 0 _ _ _ hm2, e0]
 have q2 : w.cell? ⟨r2, 1, none⟩ = some (ifc (69, b)) := by rw [cell_of_row w r2 1 _ _ _ hm2, e1]
 have Q0 := Lib.hid q0
 have Q12 := Lib.hid (And.intro q1 q2)
 have r0 := t1.cell r0 (by simp)
 have r1 := t1.cell r1w (by simp)
 have R1 := Lib.hid r1w
 have hO := own_mk2 w
 have HO := Lib.hid hO
 have T1 := Lib.hid t1
 clear hr hO t1 r1w hm hm2 e0 e1 q0 q1 q2
 go_enter Tryz.func41, Tryz.ntmps41
 go_wp2_with fail
 obtain ⟨g0, hg0⟩ : ∃ g0, w.heap.size = g0 := ⟨_, rfl⟩
 obtain ⟨w1, hw1⟩ : ∃ w1, w.alloc (.cells #[.nilIface, .nilIface] 110) = w1 := ⟨_, rfl⟩
 rw [hw1] at HO T1 r0 r1
 rw [hg0] at HO ⊢
 rw [hw1]
 clear hw1
 refine wp_loop_rounds 3 ?_
 rw [rounds_succ]
 go_wp2_with (with_reducible refine stop_dst (N := 32) rfl ?_)
 refine unstop ?_
 refine print_append (w0 := w1) g0 rfl (.tmp 29) (.tmp 31) 193 110 .nilIface 16 rfl Tryz.underlying193 infoIfc rfl (by decide) (.slice (some ⟨g0, 0, none⟩) 0 2) (encs ifc []) (ifc (251, d8)) rfl rfl rfl HO.out ?aB ?aS ?aL ?_
 case aB => exact Below.refl _ _
 case aS => rw [← hg0]; exact T1.out.size
 case aL => simp [encs]
 intro v1 w2 hO2 hB2 hg2 _
 have t2 : Touch [] w w2 := T1.out.then_below (by rw [hg0]; exact hB2)
 have r1 : w2.cell? ⟨g, 1, none⟩ = some (.iface 194 (.pointer (some ⟨g2, 0, none⟩))) := t2.cell R1.out (by simp)
 have q0 : w2.cell? ⟨g2, 0, none⟩ = some (.slice (some ⟨r2, 0, none⟩) 2 c2) := t2.cell Q0.out (by simp)
 have X2 := Lib.hid (And.intro hO2 t2)
 clear hO2 hB2 hg2 t2 HO T1 r0
 go_wp2_with fail
 rw [rounds_succ]
 go_wp2_with (with_reducible refine stop_dst (N := 28) rfl ?_)
 refine unstop ?_
 refine print_append_row_of (w0 := w2) ifc (0, 0) g0 rfl (.tmp 23) (.tmp 27) 193 110 .nilIface 16 rfl Tryz.underlying193 infoIfc rfl (by decide) (fun _ => rfl) v1 [(251, d8)] [(233, d), (69, b)] (some ⟨r2, 0, none⟩) 2 c2 rfl rfl X2.out.1 ?aR ?aB ?aS ?aL ?_
 case aR =>
  refine ⟨rfl, by decide, fun _ => ⟨_, rfl, fun i hi => ?_⟩⟩
  rcases i with _ | _ | i
  ·exact X2.out.2.cell Q12.out.1 (by simp)
  ·exact X2.out.2.cell Q12.out.2 (by simp)
  ·omega
 case aB => exact Below.refl _ _
 case aS => rw [← hg0]; exact X2.out.2.size
 case aL => simp [encs]
 intro v2 w3 hO3 hB3 hg3 _
 have t3 : Touch [] w w3 := X2.out.2.then_below (by rw [hg0]; exact hB3)
 obtain ⟨gr, cap, cs, rfl, hgr, hh, hcs⟩ := own_cells hO3 (by simp [encs])
 have X3 := Lib.hid (And.intro t3 (And.intro hgr (And.intro hh (And.intro (hcs 0 (by simp [encs])) (And.intro (hcs 1 (by simp [encs])) (hcs 2 (by simp [encs])))))))
 clear hO3 hB3 hg3 t3 X2 r1 q0 hgr hh hcs
 go_wp2_with fail
 rw [rounds_succ]
 go_wp2_with fail
 go_ret
 refine ⟨_, gr, cap, cs, rfl, X3.out.1.alloc _, X3.out.1.size, by rw [hg0]; exact X3.out.2.1, heap_alloc_new _ _, ?_, X3.out.2.2.2.1, X3.out.2.2.2.2.1, X3.out.2.2.2.2.2⟩
 exact (Below.heap_alloc _ _ _ (Array.getElem?_eq_some_iff.1 X3.out.2.2.1).1).trans X3.out.2.2.1
end Go.Proofs.YtmcllndnjdemaaaGreatDoor.Walk
