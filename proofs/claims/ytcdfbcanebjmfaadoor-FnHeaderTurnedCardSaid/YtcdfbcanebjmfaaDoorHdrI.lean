/- frame.New, impl.frameOf, impl.Header. -/
import Derived.Test.YtcdfbcanebjmfaaDoorHdr
import Derived.Outline
import Derived.Deep.RegionHeld3
namespace Go.Proofs.YtcdfbcanebjmfaaDoor.Walk
set_option linter.unusedVariables false
set_option linter.unusedSimpArgs false
open Go Go.RowKit Go.Proofs.YtcdfbcanebjmfaaDoorW.PrintWords Go.Proofs.YtcdfbcanebjmfaaDoor.Num Go.Proofs.YtcdfbcanebjmfaaDoor.Crc

def NewTold (l : List Int) (S : List Nat) (w : World) (e : Ending) (w' : World) : Prop :=
  Touch S w w' ∧ ((∃ f v7 v8 v9 v10 gf, HdrIs l f ∧ e = .returned (.tuple #[.pointer (some ⟨gf, 0, none⟩), .nilIface]) ∧
      w'.heap[gf]? = some (.cells (frA f.fx f.size f.rate f.ch f.bits f.num (.slice none 0 0) v7 v8 v9 v10) 74 (0, 0))) ∨
    ((∀ f, ¬ HdrIs l f) ∧ ∃ gf a, e = .returned (.tuple #[.pointer (some gf), .iface 130 (.pointer (some a))])))

set_option maxHeartbeats 4000000 in
set_option maxRecDepth 100000 in
theorem new_frame {ty fn g : Nat} {S D : List Nat} {l : List Int} {St : World → Nat → Prop} (R : Src ty fn g S D l St) (hbytes : ∀ x ∈ l, 0 ≤ x ∧ x ≤ 255) (hlen : l.length ≤ 9223372036854775807) (w : World)
    (ea eb es : Addr) (hs : St w 0) (hD : ∀ k ∈ D, k < w.heap.size) (hG : Glob w ea eb)
    (hes : w.cell? ⟨0, 0, none⟩ = some (.iface 130 (.pointer (some es)))) (hsafe : ∀ k, k ∈ S ∨ w.heap.size ≤ k → Safe ea eb k ∧ k ≠ 0) :
    Calls Tryd.prog 13 #[.iface ty (.pointer (some ⟨g, 0, none⟩))] w (NewTold l S w) := by
  obtain ⟨N, hN⟩ : ∃ N, w.heap.size = N := ⟨_, rfl⟩
  have hDN : ∀ k ∈ D, k < N := fun k hk => by rw [← hN]; exact hD k hk
  have hN10 : N + 2 ∉ D := fun h => by have := hDN _ h; omega
  obtain ⟨St2, hSt2⟩ : ∃ St2, TeeSt (N + 2) ty g 117 (N + 1) l St (Dig16 (N + 1) N) = St2 := ⟨_, rfl⟩
  have hR2 := tee_src (gt := N + 2) R (dig16_snk (N + 1) N (by omega)) hbytes hlen hN10 (by simp) (fun a ha h => by simp at h; have := hDN a ha; omega)
  rw [hSt2] at hR2
  have hmk2 : ∀ wx, wx.heap[N + 2]? = some (.cells #[.iface ty (.pointer (some ⟨g, 0, none⟩)), .iface 117 (.pointer (some ⟨N + 1, 0, none⟩))] 90 (0, 0)) → St wx 0 → Dig16 (N + 1) N wx [] → St2 wx 0 := fun wx h1 h2 h3 => by
    rw [← hSt2]; exact ⟨h1, h2, h3⟩
  have HR2 := Lib.hid hR2
  have HMK := Lib.hid hmk2
  have HR := Lib.hid R
  have HBY := Lib.hid hbytes
  have HLN := Lib.hid hlen
  have HG := Lib.hid hG
  have HES := Lib.hid hes
  have HSF := Lib.hid hsafe
  have HDN := Lib.hid hDN
  have HS0 := Lib.hid hs
  have HNN := Lib.hid hN
  clear R hR2 hmk2 hbytes hlen hG hes hsafe hDN hs hSt2 hN10 hD
  go_enter Tryd.func13, Tryd.ntmps13
  go_wp2_with fail
  refine (newDig16 w).mono ?_
  rw [HNN.out]
  rintro e w1 ⟨rfl, hb1, hsz1, hd1⟩
  have Y1 := Lib.hid (And.intro hb1 (And.intro hsz1 hd1))
  clear hb1 hsz1 hd1 hN
  go_wp2_with fail
  refine (newTee _ _ _ _ _).mono ?_
  rw [Y1.out.2.1]
  rintro e w2 ⟨rfl, hw2⟩
  have hsz2 : w2.heap.size = N + 3 := by rw [hw2, World.size_alloc, Y1.out.2.1]
  have Y2 := Lib.hid hw2
  have HSZ2 := Lib.hid hsz2
  clear hw2 hsz2
  go_wp2_with fail
  rw [HSZ2.out]
  obtain ⟨w3, hw3⟩ : ∃ w3, w2.alloc (.cells #[.bool false, .int .u16 0, .int .u32 0, .int .u8 0, .int .u8 0, .int .u64 0, .slice none 0 0, .iface 117 (.pointer (some ⟨N + 1, 0, none⟩)), .pointer none, .iface 88 (.pointer (some ⟨N + 2, 0, none⟩)), .iface ty (.pointer (some ⟨g, 0, none⟩))] 74) = w3 := ⟨_, rfl⟩
  rw [hw3]
  have hB3 : Below N w w3 := by
    have h := ((Y1.out.1.alloc (by rw [Y1.out.2.1]; omega) (.cells #[.iface ty (.pointer (some ⟨g, 0, none⟩)), .iface 117 (.pointer (some ⟨N + 1, 0, none⟩))] 90)))
    rw [← Y2.out] at h
    rw [← hw3]; exact h.alloc (by rw [HSZ2.out]; omega) _
  have hf3 : w3.heap[N + 3]? = some (.cells (frA false 0 0 0 0 0 (.slice none 0 0) (.iface 117 (.pointer (some ⟨N + 1, 0, none⟩))) (.pointer none) (.iface 88 (.pointer (some ⟨N + 2, 0, none⟩))) (.iface ty (.pointer (some ⟨g, 0, none⟩)))) 74 (0, 0)) := by
    rw [← hw3, ← HSZ2.out]; exact heap_alloc_new _ _
  have ht3 : w3.heap[N + 2]? = some (.cells #[.iface ty (.pointer (some ⟨g, 0, none⟩)), .iface 117 (.pointer (some ⟨N + 1, 0, none⟩))] 90 (0, 0)) := by
    rw [← hw3, Below.heap_alloc _ _ _ (by rw [HSZ2.out]; omega), Y2.out, ← Y1.out.2.1]; exact heap_alloc_new _ _
  have hd3 : Dig16 (N + 1) N w3 [] := by
    refine ⟨?_, ?_⟩
    · rw [← hw3, Below.heap_alloc _ _ _ (by rw [HSZ2.out]; omega), Y2.out, Below.heap_alloc _ _ _ (by rw [Y1.out.2.1]; omega)]; exact Y1.out.2.2.1
    · rw [← hw3, Below.heap_alloc _ _ _ (by rw [HSZ2.out]; omega), Y2.out, Below.heap_alloc _ _ _ (by rw [Y1.out.2.1]; omega)]; exact Y1.out.2.2.2
  have hsz3 : w3.heap.size = N + 4 := by rw [← hw3, World.size_alloc, HSZ2.out]
  have hT3 : ∀ U, Touch U w w3 := fun U => Touch.of_below (by have h := hB3; rw [← HNN.out] at h; exact h)
  have hst3 : St2 w3 0 := HMK.out w3 ht3 (HR.out.move [] w w3 0 HS0.out (by simp) (hT3 [])) hd3
  have hhd := header_any HR2.out HBY.out HLN.out w3 (N + 3) _ _ _ _ ea eb es hst3 hf3 (fun h => by
      simp at h
      have := HDN.out (N + 3) h
      omega)
    (fun k hk => by
      simp at hk
      rcases hk with h | h | h | h
      · omega
      · have := HDN.out k h; omega
      · omega
      · omega)
    (HG.out.touch (hT3 []) (by simp)) ((hT3 []).cell HES.out (by simp)) (fun k hk => HSF.out k (by
      rcases hk with hk | hk
      · simp at hk
        rcases hk with h | h | h
        · exact .inr (by rw [HNN.out]; omega)
        · exact .inl h
        · exact .inr (by rw [HNN.out]; omega)
      · exact .inr (by rw [HNN.out]; omega)))
  have HHD := Lib.hid hhd
  have HT3 := Lib.hid hT3
  clear hw3 hB3 hf3 ht3 hd3 hsz3 hT3 hst3 hhd Y1 Y2
  refine HHD.out.mono ?_
  rintro e w4 ⟨ht, ⟨f, v8, his, rfl, hfr⟩ | ⟨hno, a, rfl⟩⟩
  · have hto : Touch S w w4 := ((HT3.out _).trans ht).mono (fun k hk hm => by
      simp at hm
      have := HNN.out
      rcases hm with h | h | h
      · omega
      · exact h
      · omega)
    have Z := Lib.hid (And.intro hto (And.intro his hfr))
    clear ht hto his hfr
    go_wp2_with fail
    go_ret2
    exact ⟨Z.out.1, .inl ⟨f, _, _, _, _, _, Z.out.2.1, rfl, Z.out.2.2⟩⟩
  · have hto : Touch S w w4 := ((HT3.out _).trans ht).mono (fun k hk hm => by
      simp at hm
      have := HNN.out
      rcases hm with h | h | h
      · omega
      · exact h
      · omega)
    have Z := Lib.hid (And.intro hto hno)
    clear ht hto hno
    go_wp2_with fail
    go_ret2
    exact ⟨Z.out.1, .inr ⟨Z.out.2, _, _, rfl⟩⟩

/-- A frame as plain data. -/
def frV (f : HF) : Value := .agg #[.bool (!f.fx), .int .i64 f.size, .int .i64 f.rate, .int .i64 f.ch, .int .i64 f.bits, .int .u64 f.num, .slice none 0 0]

set_option maxHeartbeats 4000000 in
set_option maxRecDepth 100000 in
theorem frame_of (gf : Nat) (f : HF) (v7 v8 v9 v10 : Value) (w : World) (h : w.heap[gf]? = some (.cells (frA f.fx f.size f.rate f.ch f.bits f.num (.slice none 0 0) v7 v8 v9 v10) 74 (0, 0)))
    (h1 : f.size < 65536) (h2 : f.rate < 4294967296) (h3 : f.ch < 256) (h4 : f.bits < 256) :
    Calls Tryd.prog 15 #[.pointer (some ⟨gf, 0, none⟩)] w fun e w' => e = .returned (frV f) ∧ Below w.heap.size w w' := by
  obtain ⟨fx, bs, sr, ch, bp, nm⟩ := f
  have HH := Lib.hid h
  simp only at h h1 h2 h3 h4
  unfold frV
  simp only
  have c0 : w.cell? ⟨gf, 0, none⟩ = some (.bool fx) := by rw [cell_of_row w gf 0 _ _ _ h]; rfl
  have c1 : w.cell? ⟨gf, 1, none⟩ = some (.int .u16 bs) := by rw [cell_of_row w gf 1 _ _ _ h]; rfl
  have c2 : w.cell? ⟨gf, 2, none⟩ = some (.int .u32 sr) := by rw [cell_of_row w gf 2 _ _ _ h]; rfl
  have c3 : w.cell? ⟨gf, 3, none⟩ = some (.int .u8 ch) := by rw [cell_of_row w gf 3 _ _ _ h]; rfl
  have c4 : w.cell? ⟨gf, 4, none⟩ = some (.int .u8 bp) := by rw [cell_of_row w gf 4 _ _ _ h]; rfl
  have c5 : w.cell? ⟨gf, 5, none⟩ = some (.int .u64 nm) := by rw [cell_of_row w gf 5 _ _ _ h]; rfl
  have c6 : w.cell? ⟨gf, 6, none⟩ = some (.slice none 0 0) := by rw [cell_of_row w gf 6 _ _ _ h]; rfl
  clear h
  go_enter Tryd.func15, Tryd.ntmps15
  go_wp2_with fail
  obtain ⟨wa, hwa⟩ : ∃ wa, w.alloc (.cells #[.bool false, .int .i64 0, .int .i64 0, .int .i64 0, .int .i64 0, .int .u64 0, .slice none 0 0] 33) = wa := ⟨_, rfl⟩
  have hba : Below w.heap.size w wa := by rw [← hwa]; exact (Below.refl _ _).alloc (Nat.le_refl _) _
  have ha := hba.block gf (Array.getElem?_eq_some_iff.1 HH.out).1
  have hga : wa.heap[w.heap.size]? = some (.cells #[.bool false, .int .i64 0, .int .i64 0, .int .i64 0, .int .i64 0, .int .u64 0, .slice none 0 0] 33 (0, 0)) := by rw [← hwa]; exact heap_alloc_new _ _
  rw [HH.out] at ha
  rw [hwa]
  clear c0 c1 c2 c3 c4 c5 c6
  have c0 : wa.cell? ⟨gf, 0, none⟩ = some (.bool fx) := by rw [cell_of_row wa gf 0 _ _ _ ha]; rfl
  have c1 : wa.cell? ⟨gf, 1, none⟩ = some (.int .u16 bs) := by rw [cell_of_row wa gf 1 _ _ _ ha]; rfl
  have c2 : wa.cell? ⟨gf, 2, none⟩ = some (.int .u32 sr) := by rw [cell_of_row wa gf 2 _ _ _ ha]; rfl
  have c3 : wa.cell? ⟨gf, 3, none⟩ = some (.int .u8 ch) := by rw [cell_of_row wa gf 3 _ _ _ ha]; rfl
  have c4 : wa.cell? ⟨gf, 4, none⟩ = some (.int .u8 bp) := by rw [cell_of_row wa gf 4 _ _ _ ha]; rfl
  have c5 : wa.cell? ⟨gf, 5, none⟩ = some (.int .u64 nm) := by rw [cell_of_row wa gf 5 _ _ _ ha]; rfl
  have HA := Lib.hid (And.intro ha (And.intro hga hba))
  clear hwa ha hga hba
  have e1 : IntKind.i64.wrap (bs : Int) = (bs : Int) := by rw [IntKind.wrap_i64]; omega
  have e2 : IntKind.i64.wrap (sr : Int) = (sr : Int) := by rw [IntKind.wrap_i64]; omega
  have e3 : IntKind.i64.wrap (ch : Int) = (ch : Int) := by rw [IntKind.wrap_i64]; omega
  have e4 : IntKind.i64.wrap (bp : Int) = (bp : Int) := by rw [IntKind.wrap_i64]; omega
  go_region_held3 (fun w' => w'.cell? ⟨gf, 0, none⟩ = some (.bool fx) ∧ w'.cell? ⟨gf, 1, none⟩ = some (.int .u16 bs) ∧ w'.cell? ⟨gf, 2, none⟩ = some (.int .u32 sr) ∧ w'.cell? ⟨gf, 3, none⟩ = some (.int .u8 ch) ∧ w'.cell? ⟨gf, 4, none⟩ = some (.int .u8 bp) ∧ w'.cell? ⟨gf, 5, none⟩ = some (.int .u64 nm)) (go_keep) (fail)
  obtain ⟨wb, hwb⟩ : ∃ wb, (wa.alloc (.cells #[.bool !fx, .int .i64 bs, .int .i64 sr, .int .i64 ch, .int .i64 bp, .int .u64 nm, .slice none 0 0] 33)).drew = wb := ⟨_, rfl⟩
  have hgb : wb.heap[wa.heap.size]? = some (.cells #[.bool !fx, .int .i64 bs, .int .i64 sr, .int .i64 ch, .int .i64 bp, .int .u64 nm, .slice none 0 0] 33 (0, 0)) := by rw [← hwb]; exact heap_alloc_new _ _
  have hbb : Below wa.heap.size wa wb := by rw [← hwb]; exact ((Below.refl _ _).alloc (Nat.le_refl _) _).drew
  have hgw := (hbb.block w.heap.size (Array.getElem?_eq_some_iff.1 HA.out.2.1).1).trans HA.out.2.1
  have hgf := (hbb.block gf (Array.getElem?_eq_some_iff.1 HA.out.1).1).trans HA.out.1
  have hbw : Below w.heap.size w wb := below_then HA.out.2.2 HA.out.2.2.size hbb
  have c6 : wb.cell? ⟨gf, 6, none⟩ = some (.slice none 0 0) := by rw [cell_of_row wb gf 6 _ _ _ hgf]; rfl
  rw [hwb]
  obtain ⟨ga, hga⟩ : ∃ ga, wa.heap.size = ga := ⟨_, rfl⟩
  rw [hga] at hgb
  rw [hga]
  have HB := Lib.hid (And.intro hgb (And.intro hgw hbw))
  have b0 : wb.cell? ⟨ga, 0, none⟩ = some (.bool !fx) := by rw [cell_of_row wb ga 0 _ _ _ HB.out.1]; rfl
  have b1 : wb.cell? ⟨ga, 1, none⟩ = some (.int .i64 bs) := by rw [cell_of_row wb ga 1 _ _ _ HB.out.1]; rfl
  have b2 : wb.cell? ⟨ga, 2, none⟩ = some (.int .i64 sr) := by rw [cell_of_row wb ga 2 _ _ _ HB.out.1]; rfl
  have b3 : wb.cell? ⟨ga, 3, none⟩ = some (.int .i64 ch) := by rw [cell_of_row wb ga 3 _ _ _ HB.out.1]; rfl
  have b4 : wb.cell? ⟨ga, 4, none⟩ = some (.int .i64 bp) := by rw [cell_of_row wb ga 4 _ _ _ HB.out.1]; rfl
  have b5 : wb.cell? ⟨ga, 5, none⟩ = some (.int .u64 nm) := by rw [cell_of_row wb ga 5 _ _ _ HB.out.1]; rfl
  have b6 : wb.cell? ⟨ga, 6, none⟩ = some (.slice none 0 0) := by rw [cell_of_row wb ga 6 _ _ _ HB.out.1]; rfl
  obtain ⟨g2, hg2⟩ : ∃ g2, w.heap.size = g2 := ⟨_, rfl⟩
  have hr2 := HB.out.2.1
  rw [hg2] at hr2
  rw [hg2]
  have HG2 := Lib.hid hg2
  have HR2 := Lib.hid hr2
  have r0 : wb.cell? ⟨g2, 0, none⟩ = some (.bool false) := by rw [cell_of_row wb g2 0 _ _ _ hr2]; rfl
  have s0 : wb.frozen? ⟨g2, 0, none⟩ = false := by simp [World.frozen?, hr2]
  have r1 : wb.cell? ⟨g2, 1, none⟩ = some (.int .i64 0) := by rw [cell_of_row wb g2 1 _ _ _ hr2]; rfl
  have s1 : wb.frozen? ⟨g2, 1, none⟩ = false := by simp [World.frozen?, hr2]
  have r2 : wb.cell? ⟨g2, 2, none⟩ = some (.int .i64 0) := by rw [cell_of_row wb g2 2 _ _ _ hr2]; rfl
  have s2 : wb.frozen? ⟨g2, 2, none⟩ = false := by simp [World.frozen?, hr2]
  have r3 : wb.cell? ⟨g2, 3, none⟩ = some (.int .i64 0) := by rw [cell_of_row wb g2 3 _ _ _ hr2]; rfl
  have s3 : wb.frozen? ⟨g2, 3, none⟩ = false := by simp [World.frozen?, hr2]
  have r4 : wb.cell? ⟨g2, 4, none⟩ = some (.int .i64 0) := by rw [cell_of_row wb g2 4 _ _ _ hr2]; rfl
  have s4 : wb.frozen? ⟨g2, 4, none⟩ = false := by simp [World.frozen?, hr2]
  have r5 : wb.cell? ⟨g2, 5, none⟩ = some (.int .u64 0) := by rw [cell_of_row wb g2 5 _ _ _ hr2]; rfl
  have s5 : wb.frozen? ⟨g2, 5, none⟩ = false := by simp [World.frozen?, hr2]
  have r6 : wb.cell? ⟨g2, 6, none⟩ = some (.slice none 0 0) := by rw [cell_of_row wb g2 6 _ _ _ hr2]; rfl
  have s6 : wb.frozen? ⟨g2, 6, none⟩ = false := by simp [World.frozen?, hr2]
  clear hwb hgb hbb hgw hgf hbw hga c0 c1 c2 c3 c4 c5 e1 e2 e3 e4 hg2 hr2
  go_wp2_with fail
  refine wp_loop_rounds 1 ?_
  rw [rounds_succ]
  go_wp2_with fail
  clear b0 b1 b2 b3 b4 b5 b6 r0 r1 r2 r3 r4 r5 r6 s0 s1 s2 s3 s4 s5 s6 c6
  obtain ⟨wz, hwz⟩ : ∃ wz, (((((((wb.setCell ⟨g2, 0, none⟩ (.bool !fx)).setCell ⟨g2, 1, none⟩ (.int .i64 bs)).setCell ⟨g2, 2, none⟩ (.int .i64 sr)).setCell ⟨g2, 3, none⟩ (.int .i64 ch)).setCell ⟨g2, 4, none⟩ (.int .i64 bp)).setCell ⟨g2, 5, none⟩ (.int .u64 nm)).setCell ⟨g2, 6, none⟩ (.slice none 0 0)) = wz := ⟨_, rfl⟩
  have z0 := blk_set HR2.out 0 (.bool !fx)
  have z1 := blk_set z0 1 (.int .i64 bs)
  have z2 := blk_set z1 2 (.int .i64 sr)
  have z3 := blk_set z2 3 (.int .i64 ch)
  have z4 := blk_set z3 4 (.int .i64 bp)
  have z5 := blk_set z4 5 (.int .u64 nm)
  have z6 := blk_set z5 6 (.slice none 0 0)
  have hbel := (((((((HB.out.2.2.setCell (p := ⟨g2, 0, none⟩) (Nat.le_of_eq HG2.out) (.bool !fx)).setCell (p := ⟨g2, 1, none⟩) (Nat.le_of_eq HG2.out) (.int .i64 bs)).setCell (p := ⟨g2, 2, none⟩) (Nat.le_of_eq HG2.out) (.int .i64 sr)).setCell (p := ⟨g2, 3, none⟩) (Nat.le_of_eq HG2.out) (.int .i64 ch)).setCell (p := ⟨g2, 4, none⟩) (Nat.le_of_eq HG2.out) (.int .i64 bp)).setCell (p := ⟨g2, 5, none⟩) (Nat.le_of_eq HG2.out) (.int .u64 nm)).setCell (p := ⟨g2, 6, none⟩) (Nat.le_of_eq HG2.out) (.slice none 0 0))
  rw [hwz] at z6 hbel
  rw [hwz]
  have hz : wz.heap[g2]? = some (.cells #[.bool !fx, .int .i64 bs, .int .i64 sr, .int .i64 ch, .int .i64 bp, .int .u64 nm, .slice none 0 0] 33 (0, 0)) := by rw [z6]; rfl
  have hbel2 : Below w.heap.size w wz := hbel
  have t0 : wz.cell? ⟨g2, 0, none⟩ = some (.bool !fx) := by rw [cell_of_row wz g2 0 _ _ _ hz]; rfl
  have t1 : wz.cell? ⟨g2, 1, none⟩ = some (.int .i64 bs) := by rw [cell_of_row wz g2 1 _ _ _ hz]; rfl
  have t2 : wz.cell? ⟨g2, 2, none⟩ = some (.int .i64 sr) := by rw [cell_of_row wz g2 2 _ _ _ hz]; rfl
  have t3 : wz.cell? ⟨g2, 3, none⟩ = some (.int .i64 ch) := by rw [cell_of_row wz g2 3 _ _ _ hz]; rfl
  have t4 : wz.cell? ⟨g2, 4, none⟩ = some (.int .i64 bp) := by rw [cell_of_row wz g2 4 _ _ _ hz]; rfl
  have t5 : wz.cell? ⟨g2, 5, none⟩ = some (.int .u64 nm) := by rw [cell_of_row wz g2 5 _ _ _ hz]; rfl
  have t6 : wz.cell? ⟨g2, 6, none⟩ = some (.slice none 0 0) := by rw [cell_of_row wz g2 6 _ _ _ hz]; rfl
  exact bodyPost_ret (v := .agg #[.bool !fx, .int .i64 bs, .int .i64 sr, .int .i64 ch, .int .i64 bp, .int .u64 nm, .slice none 0 0]) (by simp [results, Tryd.results15, go_sem, t0, t1, t2, t3, t4, t5, t6]) rfl ⟨rfl, hbel2⟩

theorem bs_lt {l : List Int} {at_ n v at2 : Nat} (hn : n < 16) (h : bsAt l at_ n = some (v, at2)) : v < 65536 := by
  have h8 := num_lt l at_ 8
  have h16 := num_lt l at_ 16
  rcases (by omega : n = 0 ∨ n = 1 ∨ n = 2 ∨ n = 3 ∨ n = 4 ∨ n = 5 ∨ n = 6 ∨ n = 7 ∨ n = 8 ∨ n = 9 ∨ n = 10 ∨ n = 11 ∨ n = 12 ∨ n = 13 ∨ n = 14 ∨ n = 15) with rfl | rfl | rfl | rfl | rfl | rfl | rfl | rfl | rfl | rfl | rfl | rfl | rfl | rfl | rfl | rfl <;>
    simp [bsAt] at h <;> omega
theorem sr_lt {l : List Int} {at_ n v at2 : Nat} (hn : n < 16) (h : srAt l at_ n = some (v, at2)) : v < 4294967296 := by
  have h8 := num_lt l at_ 8
  have h16 := num_lt l at_ 16
  rcases (by omega : n = 0 ∨ n = 1 ∨ n = 2 ∨ n = 3 ∨ n = 4 ∨ n = 5 ∨ n = 6 ∨ n = 7 ∨ n = 8 ∨ n = 9 ∨ n = 10 ∨ n = 11 ∨ n = 12 ∨ n = 13 ∨ n = 14 ∨ n = 15) with rfl | rfl | rfl | rfl | rfl | rfl | rfl | rfl | rfl | rfl | rfl | rfl | rfl | rfl | rfl | rfl <;>
    simp [srAt, rateTab] at h <;> omega
theorem HdrIs.size {l : List Int} {f : HF} (h : HdrIs l f) : f.size < 65536 ∧ f.rate < 4294967296 ∧ f.ch < 256 ∧ f.bits < 256 := by
  obtain ⟨n, at2, at3, _, h1, h2, _⟩ := h.ex
  refine ⟨bs_lt (num_lt l 16 4) h1, sr_lt (num_lt l 20 4) h2, by have := h.ch; have := h.ch2; omega, ?_⟩
  have hb := h.bits
  have h3 := num_lt l 28 3
  obtain ⟨x, hx⟩ : ∃ x, num l 28 3 = x := ⟨_, rfl⟩
  rw [hx] at hb h3
  rcases (by omega : x = 0 ∨ x = 1 ∨ x = 2 ∨ x = 3 ∨ x = 4 ∨ x = 5 ∨ x = 6 ∨ x = 7) with rfl | rfl | rfl | rfl | rfl | rfl | rfl | rfl <;> simp [bpsOf] at hb <;> omega

/-- How impl.Header ends. -/
def HeadTold (l : List Int) (w : World) (e : Ending) (w' : World) : Prop :=
  Below w.heap.size w w' ∧ ((∃ f, HdrIs l f ∧ e = .returned (.tuple #[frV f, .int .i64 0])) ∨
    ((∀ f, ¬ HdrIs l f) ∧ e = .returned (.tuple #[.agg #[.bool false, .int .i64 0, .int .i64 0, .int .i64 0, .int .i64 0, .int .u64 0, .slice none 0 0], .int .i64 1])))

set_option maxHeartbeats 8000000 in
set_option maxRecDepth 100000 in
theorem header_impl (A : Option Addr) (n c : Nat) (l : List Int) (w : World) (ea eb es : Addr) (hl : ReadsInt w .u8 A n l) (hc : n ≤ c) (hm : n ≤ 140737488351232) (hbytes : ∀ x ∈ l, 0 ≤ x ∧ x ≤ 255) (hG : Glob w ea eb)
    (hes : w.cell? ⟨0, 0, none⟩ = some (.iface 130 (.pointer (some es)))) (hsafe : ∀ k, w.heap.size ≤ k → Safe ea eb k ∧ k ≠ 0) :
    Calls Tryd.prog 6 #[.slice A n c] w (HeadTold l w) := by
  have HL := Lib.hid hl
  have HBY := Lib.hid hbytes
  have HG := Lib.hid hG
  have HES := Lib.hid hes
  have HSF := Lib.hid hsafe
  clear hl hbytes hG hes hsafe
  go_enter Tryd.func6, Tryd.ntmps6
  go_wp2_with (with_reducible refine stop_dst (N := 9) rfl ?_)
  refine unstop ?_
  obtain ⟨wa, hwa⟩ : ∃ wa, w.alloc (.cells #[.bool false, .int .i64 0, .int .i64 0, .int .i64 0, .int .i64 0, .int .u64 0, .slice none 0 0] 33) = wa := ⟨_, rfl⟩
  have hba : Below w.heap.size w wa := by rw [← hwa]; exact (Below.refl _ _).alloc (Nat.le_refl _) _
  have hsa : wa.heap.size = w.heap.size + 1 := by rw [← hwa, World.size_alloc]
  have hga : wa.heap[w.heap.size]? = some (.cells #[.bool false, .int .i64 0, .int .i64 0, .int .i64 0, .int .i64 0, .int .u64 0, .slice none 0 0] 33 (0, 0)) := by rw [← hwa]; exact heap_alloc_new _ _
  rw [hwa, ← hsa]
  obtain ⟨g2, hg2⟩ : ∃ g2, w.heap.size = g2 := ⟨_, rfl⟩
  have HG2 := Lib.hid hg2
  have HBA := Lib.hid hba
  have HGA := Lib.hid hga
  have HSA := Lib.hid hsa
  have hlit := World.ownsRow_lit (base := w.heap.size) (e := 5) (size := 1) wa #[] 0 hba.size (by unfold maxLen; omega) (by simp)
  have HLIT := Lib.hid hlit
  clear hwa hba hga hsa hlit
  rw [hg2] at HBA HGA HSA HLIT
  rw [hg2]
  clear hg2
  refine print_append_row (w0 := w) g2 rfl (.tmp 7) (.tmp 8) 25 5 .u8 1 rfl Tryd.underlying25 infoU8 (by decide) (.slice (some ⟨wa.heap.size, 0, none⟩) 0 0) [] l A n c rfl rfl ?aO ?aR ?aB ?aS ?aL ?_
  case aO => exact HLIT.out
  case aR => exact (HL.out.below (by have h := HBA.out; rw [← HG2.out] at h; exact h)).below (below_alloc (Below.refl _ _) _)
  case aB => exact HBA.out.alloc (by rw [HSA.out]; omega) _
  case aS => simp; rw [HSA.out]; omega
  case aL => simp; omega
  intro v1 w1 HO hB hgrow hat
  have hgt := touch_grown hgrow
  have hg1 : w1.heap[g2]? = some (.cells #[.bool false, .int .i64 0, .int .i64 0, .int .i64 0, .int .i64 0, .int .u64 0, .slice none 0 0] 33 (0, 0)) := by
    refine hgt.heap ((Below.heap_alloc _ _ _ (by rw [HSA.out]; omega)).trans HGA.out) (fun hm => ?_)
    simp [Value.ownBlock] at hm
    have h9 := HSA.out; omega
  have hsz1 : g2 + 2 ≤ w1.heap.size := by have := hgt.size; rw [World.size_alloc, HSA.out] at this; omega
  have hvb : ∀ k, v1.ownBlock = some k → k ≠ g2 := fun k hk => by
    rcases hat with h | ⟨b, h, hb⟩
    · rw [h] at hk
      simp [Value.ownBlock] at hk
      rw [HSA.out] at hk; omega
    · rw [h] at hk
      obtain rfl := Option.some.inj hk
      rw [World.size_alloc, HSA.out] at hb; omega
  clear hgrow hgt hat
  rw [List.nil_append] at HO
  have hlen : l.length = n := HL.out.1
  have hbase := fun k hk => own_base HO k hk
  have hblk := fun k hk => own_lt HO k hk
  obtain ⟨A1, c1, hv, hR⟩ := own_reads HO
  have hc1 : l.length ≤ c1 := by
    rcases HO.2 with ⟨h0, hn⟩ | ⟨g, cap, cur, h0, _, _, hcap, _⟩
    · rw [hv] at h0; injection h0 with _ _ h3; omega
    · rw [hv] at h0; injection h0 with _ _ h3; omega
  rw [hlen] at hv hR hc1
  subst hv
  obtain ⟨gd, hgd0, hgdlt, hgd1, hgd2, hA⟩ : ∃ gd, g2 ≤ gd ∧ gd < w1.heap.size ∧ gd ≠ w1.heap.size ∧ gd ≠ g2 ∧ ∀ ad, A1 = some ad → ad.block = gd := by
    rcases A1 with _ | ad
    · exact ⟨g2 + 1, by omega, by omega, by omega, by omega, fun ad h => by cases h⟩
    · exact ⟨ad.block, hbase _ rfl, hblk _ rfl, by have := hblk _ rfl; omega, hvb _ rfl, fun ad' h => by cases h; rfl⟩
  have hB2 : Below g2 w (w1.alloc (.cells #[.slice A1 n c1, .int .i64 0, .int .i64 (-1)] 77)) := hB.alloc (by omega) _
  have hst : RdrSt w1.heap.size A1 n c1 l (w1.alloc (.cells #[.slice A1 n c1, .int .i64 0, .int .i64 (-1)] 77)) 0 :=
    ⟨⟨-1, heap_alloc_new w1 _⟩, hR.below (below_alloc (Below.refl _ _) _), hc1, Nat.zero_le _⟩
  have hg1b : (w1.alloc (.cells #[.slice A1 n c1, .int .i64 0, .int .i64 (-1)] 77)).heap[g2]? = some (.cells #[.bool false, .int .i64 0, .int .i64 0, .int .i64 0, .int .i64 0, .int .u64 0, .slice none 0 0] 33 (0, 0)) :=
    (Below.heap_alloc _ _ _ (by omega)).trans hg1
  obtain ⟨g, hg⟩ : ∃ g, w1.heap.size = g := ⟨_, rfl⟩
  rw [hg] at hst hgd1 hgdlt hsz1
  have R := rdr_src g gd A1 n c1 l hlen hA hgd1
  have HR := Lib.hid R
  have HST := Lib.hid hst
  have HB2 := Lib.hid hB2
  have HG1 := Lib.hid hg1b
  have HLEN := Lib.hid hlen
  have HD : ∀ k ∈ [g, gd], k < (w1.alloc (.cells #[.slice A1 n c1, .int .i64 0, .int .i64 (-1)] 77)).heap.size := by
    intro k hk
    simp at hk ⊢; omega
  have HD2 := Lib.hid HD
  have HGG := Lib.hid hg
  clear R hst hB2 hbase hblk HO hB hR hA hgd1 hc1 hlen HD hg hg1 hg1b hvb
  go_wp2_with fail
  refine (newRdr A1 n c1 w1).mono ?_
  rw [HGG.out]
  rintro e w2 ⟨rfl, hw2⟩
  rw [← hw2] at HB2 HST HD2 HG1
  clear hw2
  have hbw : Below w.heap.size w w2 := by rw [HG2.out]; exact HB2.out
  have hnf := new_frame HR.out HBY.out (by rw [HLEN.out]; omega) w2 ea eb es HST.out HD2.out (HG.out.touch (U := []) (Touch.of_below hbw) (by simp)) ((Touch.of_below (S := []) hbw).cell HES.out (by simp))
    (fun k hk => HSF.out k (by
      rw [HG2.out]
      rcases hk with h | h
      · simp at h; omega
      · have := hbw.size; rw [HG2.out] at this; omega))
  have HNF := Lib.hid hnf
  have HBW := Lib.hid hbw
  clear hnf hbw
  go_wp2_with fail
  refine HNF.out.mono ?_
  rintro e w4 ⟨ht, ⟨f, v7, v8, v9, v10, gf, his, rfl, hfr⟩ | ⟨hno, gf, a, rfl⟩⟩
  rotate_left
  · have hb4 : Below w.heap.size w w4 := ht.below HBW.out (fun k hk => by rw [HG2.out]; simp at hk; omega)
    have Z := Lib.hid (And.intro hb4 (ht.heap HG1.out (fun hm => by simp at hm; omega)))
    have HNO := Lib.hid hno
    clear ht hb4 hno
    have r0 : w4.cell? ⟨g2, 0, none⟩ = some (.bool false) := by rw [cell_of_row w4 g2 0 _ _ _ Z.out.2]; rfl
    have s0 : w4.frozen? ⟨g2, 0, none⟩ = false := by simp [World.frozen?, Z.out.2]
    have r1 : w4.cell? ⟨g2, 1, none⟩ = some (.int .i64 0) := by rw [cell_of_row w4 g2 1 _ _ _ Z.out.2]; rfl
    have s1 : w4.frozen? ⟨g2, 1, none⟩ = false := by simp [World.frozen?, Z.out.2]
    have r2 : w4.cell? ⟨g2, 2, none⟩ = some (.int .i64 0) := by rw [cell_of_row w4 g2 2 _ _ _ Z.out.2]; rfl
    have s2 : w4.frozen? ⟨g2, 2, none⟩ = false := by simp [World.frozen?, Z.out.2]
    have r3 : w4.cell? ⟨g2, 3, none⟩ = some (.int .i64 0) := by rw [cell_of_row w4 g2 3 _ _ _ Z.out.2]; rfl
    have s3 : w4.frozen? ⟨g2, 3, none⟩ = false := by simp [World.frozen?, Z.out.2]
    have r4 : w4.cell? ⟨g2, 4, none⟩ = some (.int .i64 0) := by rw [cell_of_row w4 g2 4 _ _ _ Z.out.2]; rfl
    have s4 : w4.frozen? ⟨g2, 4, none⟩ = false := by simp [World.frozen?, Z.out.2]
    have r5 : w4.cell? ⟨g2, 5, none⟩ = some (.int .u64 0) := by rw [cell_of_row w4 g2 5 _ _ _ Z.out.2]; rfl
    have s5 : w4.frozen? ⟨g2, 5, none⟩ = false := by simp [World.frozen?, Z.out.2]
    have r6 : w4.cell? ⟨g2, 6, none⟩ = some (.slice none 0 0) := by rw [cell_of_row w4 g2 6 _ _ _ Z.out.2]; rfl
    have s6 : w4.frozen? ⟨g2, 6, none⟩ = false := by simp [World.frozen?, Z.out.2]
    go_wp2_with fail
    clear r0 r1 r2 r3 r4 r5 r6 s0 s1 s2 s3 s4 s5 s6
    obtain ⟨wz, hwz⟩ : ∃ wz, (((((((w4.setCell ⟨g2, 0, none⟩ (.bool false)).setCell ⟨g2, 1, none⟩ (.int .i64 0)).setCell ⟨g2, 2, none⟩ (.int .i64 0)).setCell ⟨g2, 3, none⟩ (.int .i64 0)).setCell ⟨g2, 4, none⟩ (.int .i64 0)).setCell ⟨g2, 5, none⟩ (.int .u64 0)).setCell ⟨g2, 6, none⟩ (.slice none 0 0)) = wz := ⟨_, rfl⟩
    have z0 := blk_set Z.out.2 0 (.bool false)
    have z1 := blk_set z0 1 (.int .i64 0)
    have z2 := blk_set z1 2 (.int .i64 0)
    have z3 := blk_set z2 3 (.int .i64 0)
    have z4 := blk_set z3 4 (.int .i64 0)
    have z5 := blk_set z4 5 (.int .u64 0)
    have z6 := blk_set z5 6 (.slice none 0 0)
    have hbel := (((((((Z.out.1.setCell (p := ⟨g2, 0, none⟩) (Nat.le_of_eq HG2.out) (.bool false)).setCell (p := ⟨g2, 1, none⟩) (Nat.le_of_eq HG2.out) (.int .i64 0)).setCell (p := ⟨g2, 2, none⟩) (Nat.le_of_eq HG2.out) (.int .i64 0)).setCell (p := ⟨g2, 3, none⟩) (Nat.le_of_eq HG2.out) (.int .i64 0)).setCell (p := ⟨g2, 4, none⟩) (Nat.le_of_eq HG2.out) (.int .i64 0)).setCell (p := ⟨g2, 5, none⟩) (Nat.le_of_eq HG2.out) (.int .u64 0)).setCell (p := ⟨g2, 6, none⟩) (Nat.le_of_eq HG2.out) (.slice none 0 0))
    rw [hwz] at z6 hbel
    rw [hwz]
    have hz : wz.heap[g2]? = some (.cells #[.bool false, .int .i64 0, .int .i64 0, .int .i64 0, .int .i64 0, .int .u64 0, .slice none 0 0] 33 (0, 0)) := by rw [z6]; rfl
    have hbel2 : Below w.heap.size w wz := hbel
    have t0 : wz.cell? ⟨g2, 0, none⟩ = some (.bool false) := by rw [cell_of_row wz g2 0 _ _ _ hz]; rfl
    have t1 : wz.cell? ⟨g2, 1, none⟩ = some (.int .i64 0) := by rw [cell_of_row wz g2 1 _ _ _ hz]; rfl
    have t2 : wz.cell? ⟨g2, 2, none⟩ = some (.int .i64 0) := by rw [cell_of_row wz g2 2 _ _ _ hz]; rfl
    have t3 : wz.cell? ⟨g2, 3, none⟩ = some (.int .i64 0) := by rw [cell_of_row wz g2 3 _ _ _ hz]; rfl
    have t4 : wz.cell? ⟨g2, 4, none⟩ = some (.int .i64 0) := by rw [cell_of_row wz g2 4 _ _ _ hz]; rfl
    have t5 : wz.cell? ⟨g2, 5, none⟩ = some (.int .u64 0) := by rw [cell_of_row wz g2 5 _ _ _ hz]; rfl
    have t6 : wz.cell? ⟨g2, 6, none⟩ = some (.slice none 0 0) := by rw [cell_of_row wz g2 6 _ _ _ hz]; rfl
    exact bodyPost_ret (v := .tuple #[.agg #[.bool false, .int .i64 0, .int .i64 0, .int .i64 0, .int .i64 0, .int .u64 0, .slice none 0 0], .int .i64 1]) (by simp [results, Tryd.results6, go_sem, t0, t1, t2, t3, t4, t5, t6]) rfl ⟨hbel2, .inr ⟨HNO.out, rfl⟩⟩
  · obtain ⟨fx, bs, sr, ch, bp, nm⟩ := f
    have hb4 : Below w.heap.size w w4 := ht.below HBW.out (fun k hk => by rw [HG2.out]; simp at hk; omega)
    have hg4 := ht.heap HG1.out (fun hm => by simp at hm; omega)
    have hsz := his.size
    have hfo := frame_of gf ⟨fx, bs, sr, ch, bp, nm⟩ v7 v8 v9 v10 w4 hfr hsz.1 hsz.2.1 hsz.2.2.1 hsz.2.2.2
    unfold frV at hfo
    simp only at hfo
    have HFO := Lib.hid hfo
    have HB4 := Lib.hid hb4
    have HG4 := Lib.hid hg4
    have HIS := Lib.hid his
    clear ht hb4 hg4 hsz hfo his hfr
    go_wp2_with fail
    refine HFO.out.mono ?_
    rintro e w5 ⟨rfl, hb5⟩
    have Z := Lib.hid (And.intro (below_then HB4.out HB4.out.size hb5) ((hb5.block g2 (Array.getElem?_eq_some_iff.1 HG4.out).1).trans HG4.out))
    clear hb5
    have r0 : w5.cell? ⟨g2, 0, none⟩ = some (.bool false) := by rw [cell_of_row w5 g2 0 _ _ _ Z.out.2]; rfl
    have s0 : w5.frozen? ⟨g2, 0, none⟩ = false := by simp [World.frozen?, Z.out.2]
    have r1 : w5.cell? ⟨g2, 1, none⟩ = some (.int .i64 0) := by rw [cell_of_row w5 g2 1 _ _ _ Z.out.2]; rfl
    have s1 : w5.frozen? ⟨g2, 1, none⟩ = false := by simp [World.frozen?, Z.out.2]
    have r2 : w5.cell? ⟨g2, 2, none⟩ = some (.int .i64 0) := by rw [cell_of_row w5 g2 2 _ _ _ Z.out.2]; rfl
    have s2 : w5.frozen? ⟨g2, 2, none⟩ = false := by simp [World.frozen?, Z.out.2]
    have r3 : w5.cell? ⟨g2, 3, none⟩ = some (.int .i64 0) := by rw [cell_of_row w5 g2 3 _ _ _ Z.out.2]; rfl
    have s3 : w5.frozen? ⟨g2, 3, none⟩ = false := by simp [World.frozen?, Z.out.2]
    have r4 : w5.cell? ⟨g2, 4, none⟩ = some (.int .i64 0) := by rw [cell_of_row w5 g2 4 _ _ _ Z.out.2]; rfl
    have s4 : w5.frozen? ⟨g2, 4, none⟩ = false := by simp [World.frozen?, Z.out.2]
    have r5 : w5.cell? ⟨g2, 5, none⟩ = some (.int .u64 0) := by rw [cell_of_row w5 g2 5 _ _ _ Z.out.2]; rfl
    have s5 : w5.frozen? ⟨g2, 5, none⟩ = false := by simp [World.frozen?, Z.out.2]
    have r6 : w5.cell? ⟨g2, 6, none⟩ = some (.slice none 0 0) := by rw [cell_of_row w5 g2 6 _ _ _ Z.out.2]; rfl
    have s6 : w5.frozen? ⟨g2, 6, none⟩ = false := by simp [World.frozen?, Z.out.2]
    go_wp2_with fail
    clear r0 r1 r2 r3 r4 r5 r6 s0 s1 s2 s3 s4 s5 s6
    obtain ⟨wz, hwz⟩ : ∃ wz, (((((((w5.setCell ⟨g2, 0, none⟩ (.bool !fx)).setCell ⟨g2, 1, none⟩ (.int .i64 bs)).setCell ⟨g2, 2, none⟩ (.int .i64 sr)).setCell ⟨g2, 3, none⟩ (.int .i64 ch)).setCell ⟨g2, 4, none⟩ (.int .i64 bp)).setCell ⟨g2, 5, none⟩ (.int .u64 nm)).setCell ⟨g2, 6, none⟩ (.slice none 0 0)) = wz := ⟨_, rfl⟩
    have z0 := blk_set Z.out.2 0 (.bool !fx)
    have z1 := blk_set z0 1 (.int .i64 bs)
    have z2 := blk_set z1 2 (.int .i64 sr)
    have z3 := blk_set z2 3 (.int .i64 ch)
    have z4 := blk_set z3 4 (.int .i64 bp)
    have z5 := blk_set z4 5 (.int .u64 nm)
    have z6 := blk_set z5 6 (.slice none 0 0)
    have hbel := (((((((Z.out.1.setCell (p := ⟨g2, 0, none⟩) (Nat.le_of_eq HG2.out) (.bool !fx)).setCell (p := ⟨g2, 1, none⟩) (Nat.le_of_eq HG2.out) (.int .i64 bs)).setCell (p := ⟨g2, 2, none⟩) (Nat.le_of_eq HG2.out) (.int .i64 sr)).setCell (p := ⟨g2, 3, none⟩) (Nat.le_of_eq HG2.out) (.int .i64 ch)).setCell (p := ⟨g2, 4, none⟩) (Nat.le_of_eq HG2.out) (.int .i64 bp)).setCell (p := ⟨g2, 5, none⟩) (Nat.le_of_eq HG2.out) (.int .u64 nm)).setCell (p := ⟨g2, 6, none⟩) (Nat.le_of_eq HG2.out) (.slice none 0 0))
    rw [hwz] at z6 hbel
    rw [hwz]
    have hz : wz.heap[g2]? = some (.cells #[.bool !fx, .int .i64 bs, .int .i64 sr, .int .i64 ch, .int .i64 bp, .int .u64 nm, .slice none 0 0] 33 (0, 0)) := by rw [z6]; rfl
    have hbel2 : Below w.heap.size w wz := hbel
    have t0 : wz.cell? ⟨g2, 0, none⟩ = some (.bool !fx) := by rw [cell_of_row wz g2 0 _ _ _ hz]; rfl
    have t1 : wz.cell? ⟨g2, 1, none⟩ = some (.int .i64 bs) := by rw [cell_of_row wz g2 1 _ _ _ hz]; rfl
    have t2 : wz.cell? ⟨g2, 2, none⟩ = some (.int .i64 sr) := by rw [cell_of_row wz g2 2 _ _ _ hz]; rfl
    have t3 : wz.cell? ⟨g2, 3, none⟩ = some (.int .i64 ch) := by rw [cell_of_row wz g2 3 _ _ _ hz]; rfl
    have t4 : wz.cell? ⟨g2, 4, none⟩ = some (.int .i64 bp) := by rw [cell_of_row wz g2 4 _ _ _ hz]; rfl
    have t5 : wz.cell? ⟨g2, 5, none⟩ = some (.int .u64 nm) := by rw [cell_of_row wz g2 5 _ _ _ hz]; rfl
    have t6 : wz.cell? ⟨g2, 6, none⟩ = some (.slice none 0 0) := by rw [cell_of_row wz g2 6 _ _ _ hz]; rfl
    exact bodyPost_ret (v := .tuple #[.agg #[.bool !fx, .int .i64 bs, .int .i64 sr, .int .i64 ch, .int .i64 bp, .int .u64 nm, .slice none 0 0], .int .i64 0]) (by simp [results, Tryd.results6, go_sem, t0, t1, t2, t3, t4, t5, t6]) rfl ⟨hbel2, .inl ⟨⟨fx, bs, sr, ch, bp, nm⟩, HIS.out, rfl⟩⟩
end Go.Proofs.YtcdfbcanebjmfaaDoor.Walk
