/- numbers.Read of one byte; the two sums and the tee, made. -/
import Derived.Test.YtcdfbcanebjmfaaDoorHdrP
import Derived.Test.YtcdfbcanebjmfaaDoorTee
import Derived.Outline
namespace Go.Proofs.YtcdfbcanebjmfaaDoor.Walk
set_option linter.unusedVariables false
set_option linter.unusedSimpArgs false
open Go Go.RowKit Go.Proofs.YtcdfbcanebjmfaaDoorW.PrintWords Go.Proofs.YtcdfbcanebjmfaaDoor.Num Go.Proofs.YtcdfbcanebjmfaaDoor.Crc

set_option maxHeartbeats 1000000 in
set_option maxRecDepth 100000 in
theorem size8 (w : World) : Calls Tryd.prog 40 #[] w fun e w' => e = .returned (.int .i64 1) ∧ w' = w := by
  have hx : Go.bits .xor .u8 IntKind.u8.max 0 = 255 := by decide
  go_enter Tryd.func40, Tryd.ntmps40
  go_wp2_with fail
  refine wp_loop_rounds 2 ?_
  rw [rounds_succ]
  go_wp2_with fail
  rw [rounds_succ]
  go_wp2_with fail
  go_ret
  exact ⟨rfl, rfl⟩

set_option maxHeartbeats 1000000 in
set_option maxRecDepth 100000 in
theorem newDig8 (w : World) : Calls Tryd.prog 25 #[] w fun e w' =>
    e = .returned (.iface 136 (.pointer (some ⟨w.heap.size + 1, 0, none⟩))) ∧ Below w.heap.size w w' ∧ w'.heap.size = w.heap.size + 2 ∧ Dig8 (w.heap.size + 1) w.heap.size w' [] := by
  go_enter Tryd.func25, Tryd.ntmps25
  go_wp2_with fail
  refine (mk8 7 w).mono ?_
  rintro e w1 ⟨rfl, hb, hsz, htab⟩
  have X := Lib.hid (And.intro hb (And.intro hsz htab))
  clear hb hsz htab
  go_wp2_with fail
  have hn : Calls Tryd.prog 36 #[.pointer (some ⟨w.heap.size, 0, none⟩)] w1 fun e w' => e = .returned (.iface 136 (.pointer (some ⟨w1.heap.size, 0, none⟩))) ∧ w' = w1.alloc (.cells #[.int .u8 0, .pointer (some ⟨w.heap.size, 0, none⟩)] 138) := by
    go_enter Tryd.func36, Tryd.ntmps36
    go_wp2_with fail
    go_ret
    exact ⟨rfl, rfl⟩
  refine hn.mono ?_
  rintro e w2 ⟨rfl, hw2⟩
  have HW2 := Lib.hid hw2
  clear hw2 hn
  go_wp2_with fail
  go_ret
  have hw2 := HW2.out
  have hsz := X.out.2.1
  refine ⟨by rw [hsz]; rfl, ?_, ?_, ?_, ?_⟩
  · rw [hw2]; exact X.out.1.alloc X.out.1.size _
  · rw [hw2, World.size_alloc, hsz]
  · rw [hw2, ← hsz]; exact heap_alloc_new _ _
  · rw [hw2, Below.heap_alloc _ _ _ (by omega)]; exact X.out.2.2

set_option maxHeartbeats 1000000 in
set_option maxRecDepth 100000 in
theorem newDig16 (w : World) : Calls Tryd.prog 19 #[] w fun e w' =>
    e = .returned (.iface 117 (.pointer (some ⟨w.heap.size + 1, 0, none⟩))) ∧ Below w.heap.size w w' ∧ w'.heap.size = w.heap.size + 2 ∧ Dig16 (w.heap.size + 1) w.heap.size w' [] := by
  go_enter Tryd.func19, Tryd.ntmps19
  go_wp2_with fail
  refine (mk16 32773 w).mono ?_
  rintro e w1 ⟨rfl, hb, hsz, htab⟩
  have X := Lib.hid (And.intro hb (And.intro hsz htab))
  clear hb hsz htab
  go_wp2_with fail
  have hn : Calls Tryd.prog 23 #[.pointer (some ⟨w.heap.size, 0, none⟩)] w1 fun e w' => e = .returned (.iface 117 (.pointer (some ⟨w1.heap.size, 0, none⟩))) ∧ w' = w1.alloc (.cells #[.int .u16 0, .pointer (some ⟨w.heap.size, 0, none⟩)] 119) := by
    go_enter Tryd.func23, Tryd.ntmps23
    go_wp2_with fail
    go_ret
    exact ⟨rfl, rfl⟩
  refine hn.mono ?_
  rintro e w2 ⟨rfl, hw2⟩
  have HW2 := Lib.hid hw2
  clear hw2 hn
  go_wp2_with fail
  go_ret
  have hw2 := HW2.out
  have hsz := X.out.2.1
  refine ⟨by rw [hsz]; rfl, ?_, ?_, ?_, ?_⟩
  · rw [hw2]; exact X.out.1.alloc X.out.1.size _
  · rw [hw2, World.size_alloc, hsz]
  · rw [hw2, ← hsz]; exact heap_alloc_new _ _
  · rw [hw2, Below.heap_alloc _ _ _ (by omega)]; exact X.out.2.2

theorem newTee (t1 t2 : Nat) (x y : Value) (w : World) : Calls Tryd.prog 20 #[.iface t1 x, .iface t2 y] w fun e w' =>
    e = .returned (.iface 88 (.pointer (some ⟨w.heap.size, 0, none⟩))) ∧ w' = w.alloc (.cells #[.iface t1 x, .iface t2 y] 90) := by
  go_enter Tryd.func20, Tryd.ntmps20
  go_wp2_with fail
  go_ret
  exact ⟨rfl, rfl⟩
theorem sum8 (gd gt : Nat) (w : World) (ys : List Int) (h : Dig8 gd gt w ys) : Calls Tryd.prog 78 #[.pointer (some ⟨gd, 0, none⟩)] w fun e w' =>
    e = .returned (.int .u8 (up8 (f8 7) 0 ys)) ∧ w' = w := by
  have c0 : w.cell? ⟨gd, 0, none⟩ = some (.int .u8 (up8 (f8 7) 0 ys)) := by rw [cell_of_row w gd 0 _ _ _ h.1]; rfl
  clear h
  go_enter Tryd.func78, Tryd.ntmps78
  go_wp2_with fail
  go_ret
  exact ⟨rfl, rfl⟩

theorem make1 : ∀ W : World, (Instr.makeSlice 25 (.int .i64 1) (.int .i64 1)).run Tryd.prog W = .ok (.slice (some ⟨W.heap.size, 0, none⟩) 1 1) (W.alloc (.cells #[.int .u8 0] 5)) := fun W => by
  have h := print_make (P := Tryd.prog) 25 5 .u8 1 Tryd.underlying25 infoU8 (by decide) 1 (by decide) W
  have e : madeCells #[Value.int .u8 0] 1 = #[.int .u8 0] := by simp [madeCells]; exact ⟨0, by decide, rfl⟩
  rw [e] at h; exact h

set_option maxHeartbeats 2000000 in
set_option maxRecDepth 100000 in
theorem read8_ok {ty fn g : Nat} {S D : List Nat} {l : List Int} {St : World → Nat → Prop} (R : Src ty fn g S D l St) (hbytes : ∀ x ∈ l, 0 ≤ x ∧ x ≤ 255) (w : World) (p gx : Nat) (u : Value) (T : Nat)
    (hs : St w p) (hp : p < l.length) (hD : ∀ k ∈ D, k < w.heap.size) (hx : w.heap[gx]? = some (.cells #[u] T (0, 0))) (hgx : gx ∉ D) :
    Calls Tryd.prog 35 #[.iface ty (.pointer (some ⟨g, 0, none⟩)), .pointer (some ⟨gx, 0, none⟩)] w fun e w' =>
      e = .returned .nilIface ∧ Touch (gx :: S) w w' ∧ St w' (p + 1) ∧ w'.heap[gx]? = some (.cells #[.int .u8 (l.getD p 0)] T (0, 0)) := by
  have HR := Lib.hid R
  have HS := Lib.hid hs
  have HD := Lib.hid hD
  have HX := Lib.hid hx
  have hgl : gx < w.heap.size := (Array.getElem?_eq_some_iff.1 hx).1
  obtain ⟨c, hc, hcb⟩ : ∃ c : Nat, l.getD p 0 = (c : Int) ∧ c < 256 := by
    have := (hbytes _ (List.getElem_mem hp))
    rw [List.getD_eq_getElem?_getD, List.getElem?_eq_getElem hp]
    exact ⟨(l[p]).toNat, by simp; omega, by omega⟩
  rw [hc]
  have HC := Lib.hid hc
  have hmk := make1
  clear R hs hD hx hc hbytes
  go_enter Tryd.func35, Tryd.ntmps35
  go_wp2_with fail
  refine (size8 w).mono ?_
  rintro e w0 ⟨rfl, rfl⟩
  go_wp2_with fail
  have hB : Below w0.heap.size w0 (w0.alloc (.cells #[.int .u8 0] 5)) := (Below.refl _ _).alloc (Nat.le_refl _) _
  have hT : ∀ U, Touch U w0 (w0.alloc (.cells #[.int .u8 0] 5)) := fun U => Touch.of_below hB
  refine (full_ok HR.out (w0.alloc (.cells #[.int .u8 0] 5)) p w0.heap.size 0 1 1 [.int .u8 0] 5 (HR.out.move [] w0 _ p HS.out (by simp) (hT [])) (by omega) (heap_alloc_new w0 _) (by simp) (by decide) (by decide) (by decide)
    (fun hm => by have := HD.out _ hm; omega)).mono ?_
  rintro e w2 ⟨rfl, ht, hs2, hb2⟩
  have ht2 : Touch S w0 w2 := ((hT _).trans ht).mono (fun k hk hm => by
    rcases List.mem_cons.1 hm with h | h
    · omega
    · exact h)
  have hx2 := ht2.heap HX.out (fun hm => hgx (HR.out.sub _ hm))
  have cb : w2.cell? ⟨w0.heap.size, 0, none⟩ = some (.int .u8 c) := by
    rw [cell_of_row w2 w0.heap.size 0 _ _ _ hb2, drop_take_one l p hp, HC.out]; rfl
  have cx : w2.cell? ⟨gx, 0, none⟩ = some u := by rw [cell_of_row w2 gx 0 _ _ _ hx2]; rfl
  have fx : w2.frozen? ⟨gx, 0, none⟩ = false := by simp [World.frozen?, hx2]
  obtain ⟨gn, hgn⟩ : ∃ gn, w0.heap.size = gn := ⟨_, rfl⟩
  rw [hgn] at cb
  rw [hgn]
  have hor : Go.bits .or .u64 0 (c : Int) = (c : Int) := by
    rw [u64_or _ _ (by decide) (by decide) (by omega) (by omega)]
    show ((0 ||| c : Nat) : Int) = _
    rw [Nat.zero_or]
  have hcm : (c : Int) % 256 = (c : Int) := by omega
  have X := Lib.hid (And.intro ht2 (And.intro hs2 hx2))
  clear hB hT ht hs2 hb2 ht2 hx2 hgn
  go_wp2_with fail
  refine wp_loop_rounds 2 ?_
  rw [rounds_succ]
  go_wp2_with fail
  rw [rounds_succ]
  go_wp2_with fail
  go_ret
  refine ⟨rfl, (X.out.1.mono (fun k _ hk => List.mem_cons_of_mem _ hk)).setCell (.inl (by simp)) _, HR.out.move [gx] w2 _ _ X.out.2.1 (fun k hk => by simp at hk; subst hk; exact hgx) ((Touch.refl [gx] w2).setCell (.inl (by simp)) _), ?_⟩
  rw [blk_set X.out.2.2 0]; rfl

set_option maxHeartbeats 1000000 in
set_option maxRecDepth 100000 in
theorem read8_err {ty fn g : Nat} {S D : List Nat} {l : List Int} {St : World → Nat → Prop} (R : Src ty fn g S D l St) (w : World) (p : Nat) (x : Value) (ea eb : Addr)
    (hs : St w p) (hp : p = l.length) (hD : ∀ k ∈ D, k < w.heap.size) (hG : Glob w ea eb) (hsafe : ∀ k ∈ S, Safe ea eb k) :
    Calls Tryd.prog 35 #[.iface ty (.pointer (some ⟨g, 0, none⟩)), x] w (ErrEnds S w) := by
  have HR := Lib.hid R
  have HS := Lib.hid hs
  have HG := Lib.hid hG
  have HSF := Lib.hid hsafe
  have hmk := make1
  clear R hs hD hG hsafe
  go_enter Tryd.func35, Tryd.ntmps35
  go_wp2_with fail
  refine (size8 w).mono ?_
  rintro e w0 ⟨rfl, rfl⟩
  go_wp2_with fail
  have hB : Below w0.heap.size w0 (w0.alloc (.cells #[.int .u8 0] 5)) := (Below.refl _ _).alloc (Nat.le_refl _) _
  have hT : ∀ U, Touch U w0 (w0.alloc (.cells #[.int .u8 0] 5)) := fun U => Touch.of_below hB
  refine (full_end HR.out (w0.alloc (.cells #[.int .u8 0] 5)) p w0.heap.size 0 1 1 ea eb (HR.out.move [] w0 _ p HS.out (by simp) (hT [])) hp (by decide) (by decide) (by decide) (HG.out.touch (hT []) (by simp))).mono ?_
  rintro e w2 ⟨rfl, ht, hs2⟩
  have ht2 : Touch S w0 w2 := (hT _).trans ht
  have X := Lib.hid (And.intro ht2 (HG.out.touch ht2 HSF.out).ata)
  clear hB hT ht hs2 ht2
  go_wp2_with fail
  go_ret
  exact ⟨⟨ea, X.out.2, rfl⟩, X.out.1⟩
end Go.Proofs.YtcdfbcanebjmfaaDoor.Walk
