/- flac.Encoder.WriteFrame over a buffer. -/
import Derived.Test.YtmcllndnjdemaaaGreatDoorEs
import Derived.Test.YtmcllndnjdemaaaGreatDoorEh
namespace Go.Proofs.YtmcllndnjdemaaaGreatDoor.Walk
set_option linter.unusedVariables false
set_option linter.unusedSimpArgs false
open Go Go.RowKit Go.Proofs.YtmcllndnjdemaaaGreatDoorW.PrintWords Go.Proofs.YtmcllndnjdemaaaGreatDoorW.PrintLast Go.Proofs.YtmcllndnjdemaaaGreatDoorW.PrintMore Go.Proofs.YtmcllndnjdemaaaGreatDoor.Num Go.Proofs.YtmcllndnjdemaaaGreatDoor.Crc
structure Sb where
 K : Nat
 o : Nat
 xs : List Int
def wTypes : List Nat := [235, 237, 197, 110, 63, 168]
def Ty (w : World) (T : List Nat) : Prop := ∀ k ∈ T, ∃ cs ty fz, w.heap[k]? = some (.cells cs ty fz) ∧ ty ∈ wTypes
theorem Ty.ne {w : World} {T : List Nat} (h : Ty w T) {k : Nat} {cs : Array Value} {ty : TypeId} {fz : Nat × Nat} (hk : w.heap[k]? = some (.cells cs ty fz)) (hn : ty ∉ wTypes) : k ∉ T := by
 intro hm
 obtain ⟨cs', ty', fz', h1, h2⟩ := h k hm
 rw [hk] at h1
 injection h1 with h1
 injection h1 with _ h3 _
 exact hn (h3 ▸ h2)
theorem Ty.sub {w : World} {T U : List Nat} (h : Ty w T) (hs : ∀ k ∈ U, k ∈ T) : Ty w U := fun k hk => h k (hs k hk)
theorem SubMem.ty {w : World} {gs ga gr gp K o : Nat} {xs : List Int} {T : List Nat} (h : SubMem w gs ga gr gp K o xs) (hT : Ty w T) : ∀ q ∈ [gs, ga, gr, gp], q ∉ T := by
 obtain ⟨cfv, ca, cp, cs1, cs2, h1, h2, h3, h4, h5, h6, h7⟩ := h
 intro q hq
 simp only [List.mem_cons, List.not_mem_nil, or_false] at hq
 rcases hq with rfl | rfl | rfl | rfl
 ·exact hT.ne h1 (by decide)
 ·exact hT.ne h2 (by decide)
 ·exact hT.ne h5 (by decide)
 ·exact hT.ne h6 (by decide)
theorem Mw2.ty {B gm gr d16 t16 b : Nat} {pre : List Int} {w : World} {bs : List Int} (h : Mw2 B gm gr d16 t16 b pre w bs) : Ty w (mwS gm gr d16 t16 b) := by
 obtain ⟨⟨c, m1⟩, ⟨cs, m2, _⟩, m5, m6, _⟩ := h
 obtain ⟨_, v, lr, hbk, _⟩ := m6
 intro k hk
 simp only [List.mem_cons, List.not_mem_nil, or_false] at hk
 rcases hk with rfl | rfl | rfl | rfl | rfl
 ·exact ⟨_, _, _, m5.1, by decide⟩
 ·exact ⟨_, _, _, m5.2, by decide⟩
 ·exact ⟨_, _, _, m1, by decide⟩
 ·exact ⟨_, _, _, m2, by decide⟩
 ·exact ⟨_, _, _, hbk, by decide⟩
theorem Wb.ty {B gm gr d16 t16 b : Nat} {pre p : List Int} {w : World} {gw : Nat} {bs : List Nat} (h : Wb (mw2_snk B gm gr d16 t16 b pre) p gw bs w) : Ty w (gw :: mwS gm gr d16 t16 b) := by
 obtain ⟨s, h1, _⟩ := h
 intro k hk
 rcases List.mem_cons.1 hk with rfl | hk
 ·exact ⟨_, _, _, h1.blk, by decide⟩
 ·exact (Mw2.ty h1.st) k hk
def SubsMem (w : World) (cs : Array Value) (subs : List Sb) : Prop := ∀ i (hi : i < subs.length), ∃ gs ga gr gp, cs[i]? = some (.pointer (some ⟨gs, 0, none⟩)) ∧ SubMem w gs ga gr gp subs[i].K subs[i].o subs[i].xs
theorem SubsMem.keep {B : Nat} {w w' : World} {cs : Array Value} {subs : List Sb} {T : List Nat} (h : SubsMem w cs subs) (k : Kp B T w w') (hT : Ty w T) : SubsMem w' cs subs := fun i hi => by
 obtain ⟨gs, ga, gr, gp, h1, h2⟩ := h i hi
 exact ⟨gs, ga, gr, gp, h1, h2.keep k (h2.ty hT)⟩
theorem SubsMem.below {w w' : World} {cs : Array Value} {subs : List Sb} (h : SubsMem w cs subs) (b : Below w.heap.size w w') : SubsMem w' cs subs := fun i hi => by
 obtain ⟨gs, ga, gr, gp, h1, h2⟩ := h i hi
 exact ⟨gs, ga, gr, gp, h1, h2.below b⟩
def frCells (vr : Bool) (sz rt ch bp nm gsb nc cb : Nat) (v7 v8 v9 v10 : Value) : Array Value :=
 #[.bool (!vr), .int .u16 sz, .int .u32 rt, .int .u8 ch, .int .u8 bp, .int .u64 nm, .slice (some ⟨gsb, 0, none⟩) nc cb, v7, v8, v9, v10]
def encCells (gst b bmin bmax ns cur : Nat) : Array Value :=
 #[.pointer (some ⟨gst, 0, none⟩), .iface 69 (.pointer (some ⟨b, 0, none⟩)), .int .u16 bmin, .int .u16 bmax, .int .u32 0, .int .u32 0, .int .u64 ns, .int .u64 cur, .bool false]
structure EncMem (w : World) (ge gst gi b nc cur ns : Nat) : Prop where
 enc : ∃ bmin bmax : Nat, bmin < 65536 ∧ bmax < 65536 ∧ w.heap[ge]? = some (.cells (encCells gst b bmin bmax ns cur) 116 (0, 0))
 str : ∃ v1 v2, w.heap[gst]? = some (.cells #[.pointer (some ⟨gi, 0, none⟩), v1, v2] 114 (0, 0))
 inf : ∃ cs, w.heap[gi]? = some (.cells cs 128 (0, 0)) ∧ cs[5]? = some (.int .u8 nc)
def nextNum (vr : Bool) (cur sz : Nat) : Nat := match vr with | true => cur + sz | false => cur + 1
def Ecut (w4 wx : World) (ge gst b cur ns : Nat) : Prop := ∃ bmin bmax : Nat, bmin < 65536 ∧ bmax < 65536 ∧ wx.heap[ge]? = some (.cells (encCells gst b bmin bmax ns cur) 116 (0, 0)) ∧ Touch [ge] w4 wx
theorem Ecut.set {w4 wx : World} {ge gst b cur ns cur' ns' : Nat} (h : Ecut w4 wx ge gst b cur ns) (i : Nat) (v : Value) (hv : ∀ bmin bmax, bmin < 65536 → bmax < 65536 → ∃ bmin' bmax', bmin' < 65536 ∧ bmax' < 65536 ∧ (encCells gst b bmin bmax ns cur).setIfInBounds i v = encCells gst b bmin' bmax' ns' cur') :
  Ecut w4 (wx.setCell ⟨ge, i, none⟩ v) ge gst b cur' ns' := by
 obtain ⟨bmin, bmax, h1, h2, h3, h4⟩ := h
 obtain ⟨bmin', bmax', k1, k2, k3⟩ := hv bmin bmax h1 h2
 exact ⟨bmin', bmax', k1, k2, by rw [blk_set h3 i, k3], h4.setCell (p := ⟨ge, i, none⟩) (.inl (by simp)) v⟩
def allBits (bp : Nat) (subs : List Sb) : List Nat := subs.flatMap fun s => subBits bp s.K s.o s.xs
theorem allBits_snoc (bp : Nat) (l : List Sb) (a : Sb) : allBits bp (l ++ [a]) = allBits bp l ++ subBits bp a.K a.o a.xs := by
 unfold allBits; rw [List.flatMap_append, List.flatMap_cons, List.flatMap_nil, List.append_nil]
def FrameIs (F : List Int) (vr : Bool) (sz rt ch bp nm : Nat) (subs : List Sb) : Prop :=
 ∃ (hb body : List Int) (cr : Nat), bytesBits hb = hdrBits vr sz rt ch bp nm ∧ (∀ x ∈ F, 0 ≤ x ∧ x ≤ 255) ∧ bytesBits body = allBits bp subs ++ List.replicate (padOf (allBits bp subs).length) 0 ∧
  up16 (f16 32773) 0 ((hb ++ [up8 (f8 7) 0 hb]) ++ body) = (cr : Int) ∧ cr < 65536 ∧ F = ((hb ++ [up8 (f8 7) 0 hb]) ++ body) ++ [((cr / 256 : Nat) : Int), ((cr % 256 : Nat) : Int)]
set_option maxHeartbeats 1000000 in
set_option maxRecDepth 100000 in
theorem decor_none (gf ch : Nat) (w : World) (hc : ch ≤ 7) (c3 : w.cell? ⟨gf, 3, none⟩ = some (.int .u8 ch)) : Calls Tryz.prog 43 #[.pointer (some ⟨gf, 0, none⟩)] w fun e w' => e = .returned (.tuple #[]) ∧ w = w' := by
 have n8 : decide ((ch : Int) = 8) = false := by simp; omega
 have n9 : decide ((ch : Int) = 9) = false := by simp; omega
 have n10 : decide ((ch : Int) = 10) = false := by simp; omega
 go_enter Tryz.func43, Tryz.ntmps43
 go_wp2_with fail
 go_end0
 exact ⟨rfl, rfl⟩
set_option maxHeartbeats 1000000 in
set_option maxRecDepth 100000 in
theorem cor_none (gf ch : Nat) (w : World) (u : FrameMode) (hc : ch ≤ 7) (c3 : w.cell? ⟨gf, 3, none⟩ = some (.int .u8 ch)) : CallsD Tryz.prog 44 #[.pointer (some ⟨gf, 0, none⟩)] u w fun e u' w' => u' = u ∧ (e = .returned (.tuple #[]) ∧ w' = w) := by
 have n8 : decide ((ch : Int) = 8) = false := by simp; omega
 have n9 : decide ((ch : Int) = 9) = false := by simp; omega
 have n10 : decide ((ch : Int) = 10) = false := by simp; omega
 go_enter_d Tryz.func44, Tryz.ntmps44
 go_wp2_with fail
 go_end0
 exact ⟨rfl, rfl⟩
theorem allBits_len (bp sz : Nat) : ∀ l : List Sb, (∀ s ∈ l, SubOk bp sz s.K s.o s.xs ∧ s.o ≤ 4) → (allBits bp l).length ≤ 50000000000 * l.length
 | [], _ => by simp [allBits]
 | a :: l, h => by
  have h1 := allBits_len bp sz l (fun s hs => h s (by simp [hs]))
  have h2 := subBits_len (h a (by simp)).1
  simp only [allBits, List.flatMap_cons, List.length_append, List.length_cons] at h1 ⊢
  omega
theorem wf_kp {B ge gf b gm gr d16 t16 gw : Nat} {w wc w9 w10 w12 wz : World} (hB : B ≤ w.heap.size) (k8 : Kp B [gf, ge] w wc) (k9 : Kp B (mwS gm gr d16 t16 b) wc w9) (t10 : Touch [] w9 w10) (k12 : Kp B (gw :: mwS gm gr d16 t16 b) w10 w12)
  (kz : Kp B [b] w12 wz) (h1 : w.heap.size ≤ d16) (h2 : w.heap.size ≤ t16) (h3 : w.heap.size ≤ gm) (h4 : w.heap.size ≤ gr) (h5 : w.heap.size ≤ gw) : Kp B [b, ge, gf] w wz := by
 have hB9 : B ≤ w9.heap.size := Nat.le_trans hB (Nat.le_trans k8.bel.size k9.bel.size)
 have a1 : Kp B [b, ge, gf, d16, t16, gm, gr, gw] w wc := k8.mono (fun k hk => by simp at hk ⊢; omega)
 have a2 : Kp B [b, ge, gf, d16, t16, gm, gr, gw] wc w9 := k9.mono (fun k hk => by simp at hk ⊢; omega)
 have a3 : Kp B [b, ge, gf, d16, t16, gm, gr, gw] w9 w10 := (Kp.of_touch t10 (by simp) hB9).mono (by simp)
 have a4 : Kp B [b, ge, gf, d16, t16, gm, gr, gw] w10 w12 := k12.mono (fun k hk => by simp at hk ⊢; omega)
 have a5 : Kp B [b, ge, gf, d16, t16, gm, gr, gw] w12 wz := kz.mono (fun k hk => by simp at hk ⊢; omega)
 refine (a1.trans (a2.trans (a3.trans (a4.trans a5)))).cut (fun k hk hlt => ?_)
 simp only [List.mem_cons, List.not_mem_nil, or_false] at hk ⊢
 omega
theorem wf_end {B ge gst gi b gf nc cur cur' ns' ns : Nat} {w wz : World} {pre hb P out : List Int} {vr : Bool} {sz rt ch bp cr q1 q2 : Nat} {subs : List Sb} (hE : EncMem w ge gst gi b nc cur ns) (hF : ∃ cs, w.heap[gf]? = some (.cells cs 85 (0, 0))) (hb0 : Buf B b w pre)
  (k : Kp B [b, ge, gf] w wz) (he : wz.heap[ge]? = some (.cells (encCells gst b q1 q2 ns' cur') 116 (0, 0))) (hq1 : q1 < 65536) (hq2 : q2 < 65536) (hbuf : Buf B b wz (pre ++ (P ++ out) ++ [((cr / 256 : Nat) : Int), ((cr % 256 : Nat) : Int)]))
  (hP : hb ++ [up8 (f8 7) 0 hb] = P) (hhb : bytesBits hb = hdrBits vr sz rt ch bp cur) (hby : ∀ x ∈ hb, 0 ≤ x ∧ x ≤ 255) (hoby : ∀ x ∈ out, 0 ≤ x ∧ x ≤ 255) (hob : bytesBits out = allBits bp subs ++ List.replicate (padOf (allBits bp subs).length) 0) (hcr : up16 (f16 32773) 0 (P ++ out) = (cr : Int)) (hcr2 : cr < 65536) :
  ∃ F, FrameIs F vr sz rt ch bp cur subs ∧ Buf B b wz (pre ++ F) ∧ EncMem wz ge gst gi b nc cur' ns' ∧ Kp B [b, ge, gf] w wz := by
 obtain ⟨⟨_, _, _, _, e1⟩, ⟨v1, v2, e2⟩, ⟨cs, e3, e4⟩⟩ := hE
 obtain ⟨cf, hF⟩ := hF
 obtain ⟨_, vb, lr, hbk, _⟩ := id hb0
 subst hP
 refine ⟨((hb ++ [up8 (f8 7) 0 hb]) ++ out) ++ [((cr / 256 : Nat) : Int), ((cr % 256 : Nat) : Int)], ⟨hb, out, cr, hhb, fun x hx => ?_, hob, hcr, hcr2, rfl⟩, by rw [← List.append_assoc]; exact hbuf, ⟨⟨q1, q2, hq1, hq2, he⟩, ⟨v1, v2, ?_⟩, ⟨cs, ?_, e4⟩⟩, k⟩
 ·simp only [List.mem_append, List.mem_cons, List.not_mem_nil, or_false] at hx
  have h8 := up8_range hb
  rcases hx with ((hx | rfl) | hx) | rfl | rfl
  ·exact hby x hx
  ·omega
  ·exact hoby x hx
  ·omega
  ·omega
 ·refine k.keep gst _ e2 ?_ (notU8 (by decide))
  simp only [List.mem_cons, List.not_mem_nil, or_false, not_or]
  exact ⟨blk_ne e2 hbk (by decide), blk_ne e2 e1 (by decide), blk_ne e2 hF (by decide)⟩
 ·refine k.keep gi _ e3 ?_ (notU8 (by decide))
  simp only [List.mem_cons, List.not_mem_nil, or_false, not_or]
  exact ⟨blk_ne e3 hbk (by decide), blk_ne e3 e1 (by decide), blk_ne e3 hF (by decide)⟩
set_option maxHeartbeats 16000000 in
set_option maxRecDepth 100000 in
theorem write_frame {B ge gst gi b gf gsb nc cb cur ns nm : Nat} {pre : List Int} {w : World} {vr : Bool} {sz rt ch bp : Nat} {v7 v8 v9 v10 : Value} {csb : Array Value} {subs : List Sb} (hE : EncMem w ge gst gi b nc cur ns)
  (hF : w.heap[gf]? = some (.cells (frCells vr sz rt ch bp nm gsb nc cb v7 v8 v9 v10) 85 (0, 0))) (hS : w.heap[gsb]? = some (.cells csb 86 (0, 0))) (hSM : SubsMem w csb subs) (hbuf : Buf B b w pre)
  (hB : B ≤ w.heap.size) (hge : B ≤ ge) (hgf : B ≤ gf) (hp : pre.length ≤ 1000000000000) (hsz0 : 0 < sz) (hsz : sz ≤ 256) (hrt : RtOk rt) (hch : ch ≤ 7) (hbp : BpOk bp) (hnc : nc = ch + 1) (hnl : subs.length = nc)
  (hok : ∀ s ∈ subs, SubOk bp sz s.K s.o s.xs ∧ s.o ≤ 4) (hcur : cur ≤ 1000000) (hns : ns ≤ 1000000) (hn : NCh w) (hg0 : 0 < B) :
  Calls Tryz.prog 18 #[.pointer (some ⟨ge, 0, none⟩), .pointer (some ⟨gf, 0, none⟩)] w fun e w' =>
   e = .returned .nilIface ∧ ∃ F, FrameIs F vr sz rt ch bp cur subs ∧ Buf B b w' (pre ++ F) ∧ EncMem w' ge gst gi b nc (nextNum vr cur sz) (ns + sz) ∧ Kp B [b, ge, gf] w w' := by
 obtain ⟨⟨bmin, bmax, hbmin, hbmax, e1⟩, ⟨s1, s2, e2⟩, ⟨csi, e3, e4⟩⟩ := id hE
 have c0 : w.cell? ⟨ge, 0, none⟩ = some (.pointer (some ⟨gst, 0, none⟩)) := by rw [cell_of_row w ge 0 _ _ _ e1]; rfl
 have c1 : w.cell? ⟨gst, 0, none⟩ = some (.pointer (some ⟨gi, 0, none⟩)) := by rw [cell_of_row w gst 0 _ _ _ e2]; rfl
 have c2 : w.cell? ⟨gi, 5, none⟩ = some (.int .u8 nc) := by rw [cell_of_row w gi 5 _ _ _ e3]; exact e4
 have f6 : w.cell? ⟨gf, 6, none⟩ = some (.slice (some ⟨gsb, 0, none⟩) nc cb) := by rw [cell_of_row w gf 6 _ _ _ hF]; rfl
 have f3 : w.cell? ⟨gf, 3, none⟩ = some (.int .u8 ch) := by rw [cell_of_row w gf 3 _ _ _ hF]; rfl
 have HE := Lib.hid (And.intro hE (And.intro hF (And.intro hS (And.intro hSM hbuf))))
 have hbpl : bp ≤ 24 := by rcases hbp with h | h | h | h | h <;> omega
 have HOK := Lib.hid (And.intro hrt (And.intro hbp hok))
 have HN := Lib.hid hn
 have HNL := Lib.hid hnl
 have HNC := Lib.hid hnc
 have hnc1 : nc ≤ 8 := by omega
 have hnc2 : 0 < nc := by omega
 have HE1 := Lib.hid (And.intro e1 (And.intro e2 (And.intro e3 e4)))
 obtain ⟨gs, g0, k9⟩ : ∃ gs, w.cell? ⟨gsb, 0, none⟩ = some (.pointer (some ⟨gs, 0, none⟩)) ∧ w.cell? ⟨gs, 9, none⟩ = some (.int .i64 sz) := by
  obtain ⟨gs, ga, gr, gp, k0, k1⟩ := hSM 0 (by omega)
  obtain ⟨_, _, _, _, k9⟩ := k1.cells
  have hl0 := (hok _ (List.getElem_mem (by omega : 0 < subs.length))).1.len
  rw [hl0] at k9
  exact ⟨gs, by rw [cell_of_row w gsb 0 _ _ _ hS]; exact k0, k9⟩
 clear hE hF hS hSM hbuf hrt hbp hok hn e1 e2 e3 e4 hnl hnc
 have s16n : ∀ (d : Nat) (w : World), (nilAhead 413 233 (.pointer (some ⟨d, 0, none⟩)) "Sum16").run Tryz.prog w = .ok (some false) w := fun d w => by kernel_rfl
 have s16m : ∀ (d : Nat) (w : World), (method 413 233 (.pointer (some ⟨d, 0, none⟩)) "Sum16").run Tryz.prog w = .ok (180, .pointer (some ⟨d, 0, none⟩)) w := fun d w => by kernel_rfl
 go_enter_defers Tryz.func18, Tryz.ntmps18
 go_wp2_with fail
 go_loop [55] (fun jv => ∃ j : Nat, j ≤ nc ∧ jv = .int .i64 j) (fun jv => nc - (intOf jv).toNat)
 case atStart => exact ⟨0, by omega, rfl⟩
 case round =>
  obtain ⟨j, hj, rfl⟩ := hrel
  by_cases hlt : j < nc
  ·obtain ⟨gj, gja, cja, hg1, hg2⟩ : ∃ gj gja cja, w.cell? ⟨gsb, j, none⟩ = some (.pointer (some ⟨gj, 0, none⟩)) ∧ w.cell? ⟨gj, 8, none⟩ = some (.slice (some ⟨gja, 0, none⟩) sz cja) := by
    obtain ⟨gs, ga, gr, gp, k0, k1⟩ := HE.out.2.2.2.1 j (by rw [HNL.out]; exact hlt)
    obtain ⟨_, _, _, ⟨ca, k8, _⟩, _⟩ := k1.cells
    have hl0 := (HOK.out.2.2 _ (List.getElem_mem (by rw [HNL.out]; exact hlt : j < subs.length))).1.len
    rw [hl0] at k8
    exact ⟨gs, ga, ca, by rw [cell_of_row w gsb j _ _ _ HE.out.2.2.1]; exact k0, k8⟩
   go_wp2_with fail
   go_round
   case rel => exact ⟨j + 1, by omega, by go_num⟩
   case measure => simp [intOf]; omega
  ·obtain rfl : nc = j := by omega
   go_wp2_with fail
   have hcc := count_ch ch hch w HN.out
   rw [← HNC.out] at hcc
   refine hcc.mono ?_
   clear hcc
   rintro e w0 ⟨rfl, rfl⟩
   go_wp2_with fail
   refine (newDig16 w).mono ?_
   rintro e w1 ⟨rfl, hb1, hz1, hd1⟩
   obtain ⟨d16, hd16⟩ : ∃ d16, w.heap.size + 1 = d16 := ⟨_, rfl⟩
   obtain ⟨t16, ht16⟩ : ∃ t16, w.heap.size = t16 := ⟨_, rfl⟩
   rw [hd16, ht16] at hd1
   rw [hd16]
   have T1 := Lib.hid (show Touch [] w w1 from Touch.of_below hb1)
   have D1 := Lib.hid hd1
   have HD := Lib.hid (And.intro hd16 ht16)
   have ec1 : w1.cell? ⟨ge, 1, none⟩ = some (.iface 69 (.pointer (some ⟨b, 0, none⟩))) := by rw [cell_of_row w1 ge 1 _ _ _ (T1.out.heap HE1.out.1 (by simp))]; rfl
   clear hb1 hz1 hd1 hd16 ht16
   go_wp2_with fail
   obtain ⟨w2, hw2⟩ : ∃ w2, w1.alloc (.cells #[.iface 233 (.pointer (some ⟨d16, 0, none⟩)), .iface 69 (.pointer (some ⟨b, 0, none⟩))] 110) = w2 := ⟨_, rfl⟩
   have t2 : Touch [] w w2 := by rw [← hw2]; exact T1.out.alloc _
   have t12 : Touch [] w1 w2 := by rw [← hw2]; exact (Touch.refl [] w1).alloc _
   have hk2 : w2.heap[w1.heap.size]? = some (.cells #[.iface 233 (.pointer (some ⟨d16, 0, none⟩)), .iface 69 (.pointer (some ⟨b, 0, none⟩))] 110 (0, 0)) := by rw [← hw2]; exact heap_alloc_new _ _
   have q0 : w2.cell? ⟨w1.heap.size, 0, none⟩ = some (ifc (233, d16)) := by rw [cell_of_row w2 _ 0 _ _ _ hk2]; rfl
   have q1 : w2.cell? ⟨w1.heap.size, 1, none⟩ = some (ifc (69, b)) := by rw [cell_of_row w2 _ 1 _ _ _ hk2]; rfl
   have HM2 := Lib.hid (mk2 w2 w1.heap.size 2 d16 b ⟨q0, q1⟩)
   have P2 := Lib.hid (And.intro t2 t12)
   rw [hw2]
   clear hw2 t2 t12 hk2 q0 q1 ec1
   refine HM2.out.mono ?_
   rintro e w3 ⟨gm, gr, cp3, cs3, rfl, t23, hg1, hg2, hm3, hr3, hc0, hc1⟩
   have t3 := P2.out.1.trans t23
   have t13 := P2.out.2.trans t23
   have hz1 := T1.out.size
   have hz2 := P2.out.2.size
   have hzd := HD.out
   have hdg : Dig16 d16 t16 w3 [] := ⟨t13.heap D1.out.1 (by simp), t13.heap D1.out.2 (by simp)⟩
   have hb3 : Buf B b w3 pre := HE.out.2.2.2.2.move t3 (by simp)
   have st3 : Mw2 B gm gr d16 t16 b pre w3 [] := ⟨⟨cp3, hm3⟩, ⟨cs3, hr3, hc0, hc1⟩, hdg, by rw [List.append_nil]; exact hb3, ⟨by omega, by omega, by omega, by omega⟩, by omega⟩
   have hh1 := t3.heap HE1.out.1 (by simp)
   have hh2 := t3.heap HE.out.2.1 (by simp)
   have c7 : w3.cell? ⟨ge, 7, none⟩ = some (.int .u64 cur) := by rw [cell_of_row w3 ge 7 _ _ _ hh1]; rfl
   have c5 : ∃ v, w3.cell? ⟨gf, 5, none⟩ = some v := ⟨.int .u64 nm, by rw [cell_of_row w3 gf 5 _ _ _ hh2]; rfl⟩
   have g5 : w3.frozen? ⟨gf, 5, none⟩ = false := by simp [World.frozen?, hh2]
   obtain ⟨v5, c5⟩ := c5
   obtain ⟨w4, hw4⟩ : ∃ w4, w3.setCell ⟨gf, 5, none⟩ (.int .u64 cur) = w4 := ⟨_, rfl⟩
   have hne : ge ≠ gf := blk_ne hh1 hh2 (by decide)
   have hh4 : w4.heap[gf]? = some (.cells (frCells vr sz rt ch bp cur gsb nc cb v7 v8 v9 v10) 85 (0, 0)) := by rw [← hw4, blk_set hh2 5]; rfl
   have hh5 : w4.heap[ge]? = some (.cells (encCells gst b bmin bmax ns cur) 116 (0, 0)) := by rw [← hw4]; exact blk_far hh1 hne _
   have t34 : Touch [gf] w3 w4 := by rw [← hw4]; exact (Touch.refl [gf] w3).setCell (p := ⟨gf, 5, none⟩) (.inl (by simp)) _
   have c70 : w4.cell? ⟨ge, 7, none⟩ = some (.int .u64 cur) := by rw [cell_of_row w4 ge 7 _ _ _ hh5]; rfl
   have g70 : w4.frozen? ⟨ge, 7, none⟩ = false := by simp [World.frozen?, hh5]
   have f0 : w4.cell? ⟨gf, 0, none⟩ = some (.bool (!vr)) := by rw [cell_of_row w4 gf 0 _ _ _ hh4]; rfl
   have X4 := Lib.hid (And.intro st3 (And.intro t3 (And.intro t34 (And.intro hh4 hh5))))
   have HGM := Lib.hid (And.intro (show w.heap.size ≤ d16 by omega) (And.intro (show w.heap.size ≤ t16 by omega) (And.intro (show w.heap.size ≤ gm by omega) (show w.heap.size ≤ gr by omega))))
   clear t23 hg1 hg2 hm3 hr3 hc0 hc1 t3 t13 hz1 hz2 hzd hdg hb3 st3 hh1 hh2 hne hh4 hh5 t34 HM2
   go_upto_if 97 with fail
   go_cut [] from 98 to 113 (fun wx => Ecut w4 wx ge gst b (nextNum vr cur sz) ns)
   case first =>
    have hE4 : Ecut w4 w4 ge gst b cur ns := ⟨bmin, bmax, hbmin, hbmax, X4.out.2.2.2.2, Touch.refl _ _⟩
    have HE4 := Lib.hid hE4
    clear hE4
    cases vr
    ·go_wp2_with fail
     go_meet
     exact HE4.out.set 7 _ (fun bmin bmax k1 k2 => ⟨bmin, bmax, k1, k2, rfl⟩)
    ·go_wp2_with fail
     go_meet
     exact HE4.out.set 7 _ (fun bmin bmax k1 k2 => ⟨bmin, bmax, k1, k2, rfl⟩)
   case rest =>
    obtain ⟨cur', hcur'⟩ : ∃ cur', (nextNum vr cur sz) = cur' := ⟨_, rfl⟩
    have HCUR := Lib.hid hcur'
    rw [hcur'] at hcut
    clear hcur'
    obtain ⟨bmin5, bmax5, hbm5, hbx5, hh5, t45⟩ := hcut
    have c6 : wc.cell? ⟨ge, 6, none⟩ = some (.int .u64 ns) := by rw [cell_of_row wc ge 6 _ _ _ hh5]; rfl
    have g6 : wc.frozen? ⟨ge, 6, none⟩ = false := by simp [World.frozen?, hh5]
    have X5 := Lib.hid (show Ecut w4 wc ge gst b cur' ns from ⟨bmin5, bmax5, hbm5, hbx5, hh5, t45⟩)
    clear hh5 t45 c70 g70 f0 c7 c5 g5
    go_upto_region 21 with fail
    obtain ⟨w6, hw6⟩ : ∃ w6, wc.setCell ⟨ge, 6, none⟩ (.int .u64 ((ns + sz : Nat) : Int)) = w6 := ⟨_, rfl⟩
    have hE6 := X5.out.set 6 (.int .u64 ((ns + sz : Nat) : Int)) (cur' := cur') (ns' := ns + sz) (fun bmin bmax k1 k2 => ⟨bmin, bmax, k1, k2, rfl⟩)
    rw [hw6] at hE6
    have hadd : (ns : Int) + (sz : Int) = ((ns + sz : Nat) : Int) := by omega
    rw [hadd, hw6]
    have X6 := Lib.hid hE6
    clear hE6 hw6 hadd c6 g6 X5
    obtain ⟨q1, q2, q3, q4, hh6, t46⟩ := id X6.out
    have c2 : w6.cell? ⟨ge, 2, none⟩ = some (.int .u16 q1) := by rw [cell_of_row w6 ge 2 _ _ _ hh6]; rfl
    have g2 : w6.frozen? ⟨ge, 2, none⟩ = false := by simp [World.frozen?, hh6]
    clear hh6 t46
    go_cut [137] from 125 to 136 (fun y wx => wx = w6 ∧ ∃ bb : Bool, y = .bool bb)
    case first =>
     obtain ⟨z1, hz1⟩ : ∃ z1 : Bool, ((q1 : Int) == 0) = z1 := ⟨_, rfl⟩
     obtain ⟨z2, hz2⟩ : ∃ z2 : Bool, decide ((sz : Int) < (q1 : Int)) = z2 := ⟨_, rfl⟩
     cases z1 <;> cases z2 <;> go_wp2_with fail
     all_goals
      go_meet
      exact ⟨rfl, _, rfl⟩
    case rest =>
     obtain ⟨rfl, bb, rfl⟩ := hcut
     go_upto_if 137 with fail
     go_cut [] from 138 to 141 (fun wx => Ecut w4 wx ge gst b cur' (ns + sz))
     case first =>
      cases bb
      ·go_wp2_with fail
       go_meet
       exact X6.out
      ·go_wp2_with fail
       go_meet
       exact X6.out.set 2 _ (fun bmin bmax k1 k2 => ⟨sz, bmax, by omega, k2, rfl⟩)
     case rest =>
      have X7 := Lib.hid hcut
      clear hcut c2 g2
      obtain ⟨w7, hw7⟩ : ∃ w7, wc = w7 := ⟨_, rfl⟩
      subst hw7
      go_upto_region 23 with fail
      obtain ⟨q1, q2, q3, q4, hh6, t46⟩ := id X7.out
      have c2 : wc.cell? ⟨ge, 3, none⟩ = some (.int .u16 q2) := by rw [cell_of_row wc ge 3 _ _ _ hh6]; rfl
      have g2 : wc.frozen? ⟨ge, 3, none⟩ = false := by simp [World.frozen?, hh6]
      clear hh6 t46
      go_cut [154] from 142 to 153 (fun y wx => wx = wc ∧ ∃ bb : Bool, y = .bool bb)
      case first =>
       obtain ⟨z1, hz1⟩ : ∃ z1 : Bool, ((q2 : Int) == 0) = z1 := ⟨_, rfl⟩
       obtain ⟨z2, hz2⟩ : ∃ z2 : Bool, decide ((q2 : Int) < (sz : Int)) = z2 := ⟨_, rfl⟩
       cases z1 <;> cases z2 <;> go_wp2_with fail
       all_goals
        go_meet
        exact ⟨rfl, _, rfl⟩
      case rest =>
       obtain ⟨rfl, bb, rfl⟩ := hcut
       go_upto_if 154 with fail
       go_cut [] from 155 to 158 (fun wx => Ecut w4 wx ge gst b cur' (ns + sz))
       case first =>
        cases bb
        ·go_wp2_with fail
         go_meet
         exact X7.out
        ·go_wp2_with fail
         go_meet
         exact X7.out.set 3 _ (fun bmin bmax k1 k2 => ⟨bmin, sz, k1, by omega, rfl⟩)
       case rest =>
        have X8 := Lib.hid hcut
        clear hcut c2 g2
        obtain ⟨q1, q2, q3, q4, hh8, t48⟩ := id X8.out
        obtain ⟨st3, t3, t34, hh4, hh5⟩ := id X4.out
        have hfo := Mw2.facts st3
        have hlf := (Array.getElem?_eq_some_iff.1 HE.out.2.1).1
        have hle := (Array.getElem?_eq_some_iff.1 HE1.out.1).1
        have hf3 := t3.heap HE.out.2.1 (by simp)
        have he3 := t3.heap HE1.out.1 (by simp)
        have hnf : gf ∉ mwS gm gr d16 t16 b := (Mw2.ty st3).ne hf3 (by decide)
        have hne : ge ∉ mwS gm gr d16 t16 b := (Mw2.ty st3).ne he3 (by decide)
        have st4 : Mw2 B gm gr d16 t16 b pre w4 [] := st3.move t34 (fun k hk => by
         obtain rfl : k = gf := by simpa using hk
         exact ⟨hnf, fun o ho => by rw [hf3] at ho; cases ho; exact notU8 (by decide)⟩)
        have st8 : Mw2 B gm gr d16 t16 b pre wc [] := st4.move t48 (fun k hk => by
         obtain rfl : k = ge := by simpa using hk
         exact ⟨hne, fun o ho => by rw [hh5] at ho; cases ho; exact notU8 (by decide)⟩)
        have hgfe : gf ≠ ge := blk_ne hf3 he3 (by decide)
        have hf8 : wc.heap[gf]? = some (.cells (frCells vr sz rt ch bp cur gsb nc cb v7 v8 v9 v10) 85 (0, 0)) := t48.heap hh4 (by simpa using hgfe)
        have k8 : Kp B [gf, ge] w wc := ((Kp.of_touch t3 (by simp) hB).mono (by simp)).trans (((Kp.of_touch t34 (fun k hk => by
         obtain rfl : k = gf := by simpa using hk
         exact hgf) (Nat.le_trans hB t3.size)).mono (by simp)).trans ((Kp.of_touch t48 (fun k hk => by
         obtain rfl : k = ge := by simpa using hk
         exact hge) (Nat.le_trans (Nat.le_trans hB t3.size) t34.size)).mono (by simp)))
        have hB8 : B ≤ wc.heap.size := Nat.le_trans hB k8.bel.size
        have hn8 := HN.out.below k8.bel hg0
        have x0 : wc.cell? ⟨gf, 0, none⟩ = some (.bool (!vr)) := by rw [cell_of_row wc gf 0 _ _ _ hf8]; rfl
        have x1 : wc.cell? ⟨gf, 1, none⟩ = some (.int .u16 sz) := by rw [cell_of_row wc gf 1 _ _ _ hf8]; rfl
        have x2 : wc.cell? ⟨gf, 2, none⟩ = some (.int .u32 rt) := by rw [cell_of_row wc gf 2 _ _ _ hf8]; rfl
        have x3 : wc.cell? ⟨gf, 3, none⟩ = some (.int .u8 ch) := by rw [cell_of_row wc gf 3 _ _ _ hf8]; rfl
        have x4 : wc.cell? ⟨gf, 4, none⟩ = some (.int .u8 bp) := by rw [cell_of_row wc gf 4 _ _ _ hf8]; rfl
        have x5 : wc.cell? ⟨gf, 5, none⟩ = some (.int .u64 cur) := by rw [cell_of_row wc gf 5 _ _ _ hf8]; rfl
        have hS3 := t3.heap HE.out.2.2.1 (by simp)
        have hM8 : SubsMem wc csb subs ∧ wc.heap[gsb]? = some (.cells csb 86 (0, 0)) := by
         refine ⟨fun i hi => ?_, ?_⟩
         ·obtain ⟨gs, ga, gr, gp, h1, h2⟩ := HE.out.2.2.2.1 i hi
          refine ⟨gs, ga, gr, gp, h1, h2.keep k8 (fun q hq hm => ?_)⟩
          have hx1 := HE.out.2.1
          have hx2 := HE1.out.1
          obtain ⟨cfv, ca, cp, cs1, cs2, r1, r2, r3, r4, r5, r6, r7⟩ := h2
          simp only [List.mem_cons, List.not_mem_nil, or_false] at hq hm
          rcases hm with rfl | rfl <;> rcases hq with rfl | rfl | rfl | rfl
          ·exact blk_ne r1 hx1 (by decide) rfl
          ·exact blk_ne r2 hx1 (by decide) rfl
          ·exact blk_ne r5 hx1 (by decide) rfl
          ·exact blk_ne r6 hx1 (by decide) rfl
          ·exact blk_ne r1 hx2 (by decide) rfl
          ·exact blk_ne r2 hx2 (by decide) rfl
          ·exact blk_ne r5 hx2 (by decide) rfl
          ·exact blk_ne r6 hx2 (by decide) rfl
         ·exact k8.keep gsb _ HE.out.2.2.1 (by
           simp only [List.mem_cons, List.not_mem_nil, or_false, not_or]
           exact ⟨blk_ne HE.out.2.2.1 HE.out.2.1 (by decide), blk_ne HE.out.2.2.1 HE1.out.1 (by decide)⟩) (notU8 (by decide))
        have X9 := Lib.hid (And.intro st8 (And.intro k8 (And.intro hf8 (And.intro hM8 hh8))))
        have HL := Lib.hid (And.intro t3.size (And.intro t34.size t48.size))
        have HOH := Lib.hid (enc_head st8 hB8 hp ⟨ge, 0, none⟩ vr sz rt ch bp cur hsz0 hsz HOK.out.1 hch HOK.out.2.1 (by omega) hn8 hg0)
        clear hh8 t48 st3 t3 t34 hh4 hh5 hfo hlf hle hf3 he3 hnf hne st4 st8 hgfe hf8 k8 hn8 hS3 hM8
        go_wp2_with fail
        refine HOH.out.mono ?_
        rintro e w9 ⟨rfl, hb, hhb, hby, hmw, hk⟩
        obtain ⟨P, hP⟩ : ∃ P, hb ++ [up8 (f8 7) 0 hb] = P := ⟨_, rfl⟩
        rw [hP] at hmw
        have hPl : P.length ≤ 30 := by
         have h1 := bytesBits_len hb
         have h2 := congrArg List.length hhb
         have h3 := szNb_le sz
         have h4 := rtNb_le rt
         have h5 := more_le cur
         have h6 := coded_len cur
         unfold hdrBits at h2
         simp only [List.length_append, bts_len, bytesBits_len] at h2
         rw [← hP, List.length_append, List.length_singleton]; omega
        have ht8 : Ty wc (mwS gm gr d16 t16 b) := Mw2.ty X9.out.1
        have hf9 := hk.keep gf _ X9.out.2.2.1 (ht8.ne X9.out.2.2.1 (by decide)) (notU8 (by decide))
        have he9 := hk.keep ge _ X9.out.2.2.2.2 (ht8.ne X9.out.2.2.2.2 (by decide)) (notU8 (by decide))
        have hs9 := hk.keep gsb _ X9.out.2.2.2.1.2 (ht8.ne X9.out.2.2.2.1.2 (by decide)) (notU8 (by decide))
        have hm9 := X9.out.2.2.2.1.1.keep hk ht8
        have y3 : w9.cell? ⟨gf, 3, none⟩ = some (.int .u8 ch) := by rw [cell_of_row w9 gf 3 _ _ _ hf9]; rfl
        have HDN := Lib.hid (decor_none gf ch w9 hch y3)
        have Y9 := Lib.hid (And.intro hmw (And.intro hk (And.intro hf9 (And.intro he9 (And.intro hs9 hm9)))))
        have HHB := Lib.hid (And.intro hhb (And.intro hby (And.intro hP hPl)))
        clear hmw hk hf9 he9 hs9 hm9 hhb hby hP hPl ht8 y3 x0 x1 x2 x3 x4 x5 HOH
        go_wp2_with fail
        refine HDN.out.mono ?_
        rintro e w9' ⟨rfl, rfl⟩
        go_wp2_with fail
        have hB9 : B ≤ w9.heap.size := Nat.le_trans hB8 Y9.out.2.1.bel.size
        refine (newWb (R := mw2_snk B gm gr d16 t16 b pre) Y9.out.1 hB9).mono ?_
        rintro e w10 ⟨gw, rfl, hwb, t10, hgw⟩
        have hf10 := t10.heap Y9.out.2.2.1 (by simp)
        have he10 := t10.heap Y9.out.2.2.2.1 (by simp)
        have hs10 := t10.heap Y9.out.2.2.2.2.1 (by simp)
        have hm10 := Y9.out.2.2.2.2.2.below (w' := w10) ⟨t10.os, t10.tape, t10.output, t10.size, fun k hk => t10.block k hk (by simp)⟩
        have y6 : w10.cell? ⟨gf, 6, none⟩ = some (.slice (some ⟨gsb, 0, none⟩) nc cb) := by rw [cell_of_row w10 gf 6 _ _ _ hf10]; rfl
        have ht10 := hwb.ty
        have X10 := Lib.hid (And.intro hwb (And.intro t10 (And.intro hf10 (And.intro he10 (And.intro hs10 (And.intro hm10 (And.intro ht10 hgw)))))))
        clear hwb t10 hf10 he10 hs10 hm10 hgw ht10
        go_wp2_with fail
        clear y6
        go_loopw [179] (fun jv wr => ∃ j : Nat, j ≤ nc ∧ jv = .int .i64 j ∧ Wb (mw2_snk B gm gr d16 t16 b pre) P gw (allBits bp (subs.take j)) wr ∧ Kp B (gw :: mwS gm gr d16 t16 b) w10 wr) (fun jv _ => nc - (intOf jv).toNat)
        case atStart => exact ⟨0, by omega, rfl, X10.out.1, Kp.refl _ _ _⟩
        case round =>
         obtain ⟨j, hj, rfl, hwb, hk⟩ := hrel
         obtain ⟨_, t10, hf10, he10, hs10, hm10, ht10, hgw⟩ := id X10.out
         have hfr := hk.keep gf _ hf10 (ht10.ne hf10 (by decide)) (notU8 (by decide))
         have her := hk.keep ge _ he10 (ht10.ne he10 (by decide)) (notU8 (by decide))
         have hsr := hk.keep gsb _ hs10 (ht10.ne hs10 (by decide)) (notU8 (by decide))
         have hmr := hm10.keep hk ht10
         have hBr : B ≤ wr.heap.size := Nat.le_trans (Nat.le_trans hB9 t10.size) hk.bel.size
         have X := Lib.hid (And.intro hwb (And.intro hk (And.intro hfr (And.intro her (And.intro hsr hmr)))))
         by_cases hlt : j < nc
         ·obtain ⟨gs2, ga, gr2, gp, k0, k1⟩ := hmr j (by rw [HNL.out]; exact hlt)
          have hjs : j < subs.length := by rw [HNL.out]; exact hlt
          obtain ⟨sok, so4⟩ := HOK.out.2.2 _ (List.getElem_mem hjs)
          have y0 : wr.cell? ⟨gsb, j, none⟩ = some (.pointer (some ⟨gs2, 0, none⟩)) := by rw [cell_of_row wr gsb j _ _ _ hsr]; exact k0
          have x0 : wr.cell? ⟨gf, 0, none⟩ = some (.bool (!vr)) := by rw [cell_of_row wr gf 0 _ _ _ hfr]; rfl
          have x1 : wr.cell? ⟨gf, 1, none⟩ = some (.int .u16 sz) := by rw [cell_of_row wr gf 1 _ _ _ hfr]; rfl
          have x2 : wr.cell? ⟨gf, 2, none⟩ = some (.int .u32 rt) := by rw [cell_of_row wr gf 2 _ _ _ hfr]; rfl
          have x3 : wr.cell? ⟨gf, 3, none⟩ = some (.int .u8 ch) := by rw [cell_of_row wr gf 3 _ _ _ hfr]; rfl
          have x4 : wr.cell? ⟨gf, 4, none⟩ = some (.int .u8 bp) := by rw [cell_of_row wr gf 4 _ _ _ hfr]; rfl
          have x5 : wr.cell? ⟨gf, 5, none⟩ = some (.int .u64 cur) := by rw [cell_of_row wr gf 5 _ _ _ hfr]; rfl
          have e8 : wr.cell? ⟨ge, 8, none⟩ = some (.bool false) := by rw [cell_of_row wr ge 8 _ _ _ her]; rfl
          have n8 : decide ((ch : Int) = 8) = false := by simp; omega
          have n9 : decide ((ch : Int) = 9) = false := by simp; omega
          have n10 : decide ((ch : Int) = 10) = false := by simp; omega
          have hal : (allBits bp (subs.take j)).length ≤ 50000000000 * j := by
           have h1 := allBits_len bp sz (subs.take j) (fun s hs => HOK.out.2.2 s (List.mem_of_mem_take hs))
           rw [List.length_take] at h1
           omega
          have hstep : allBits bp (subs.take (j + 1)) = allBits bp (subs.take j) ++ subBits bp subs[j].K subs[j].o subs[j].xs := by
           rw [List.take_succ_eq_append_getElem hjs, allBits_snoc]
          have HST := Lib.hid hstep
          have HO := Lib.hid (enc_sub hwb hBr (by have := HHB.out.2.2.2; omega) (by omega) (!vr) sz rt ch bp cur k1 (k1.ty hwb.ty) sok so4 sok.len.symm)
          clear hwb hk hf10 he10 hs10 hm10 ht10 hgw hfr her hsr hmr k0 k1 sok so4 hal hstep
          go_wp2_with fail
          refine HO.out.mono ?_
          rintro e w11 ⟨rfl, hb2, hk2⟩
          rw [← HST.out] at hb2
          have Z := Lib.hid (And.intro hb2 (X.out.2.1.trans hk2))
          clear hb2 hk2
          go_wp2_with fail
          go_roundw
          case rel => exact ⟨j + 1, by omega, by go_num, Z.out⟩
          case measure => simp [intOf]; omega
         ·obtain rfl : nc = j := by omega
          clear hwb hk hf10 he10 hs10 hm10 ht10 hgw hfr her hsr hmr
          go_wp2_with fail
          have hall : subs.take nc = subs := List.take_of_length_le (by rw [HNL.out]; exact Nat.le_refl _)
          have hwb := X.out.1
          rw [hall] at hwb
          have hal := allBits_len bp sz subs HOK.out.2.2
          rw [HNL.out] at hal
          have HAL := Lib.hid (wb_align hwb hBr (by have := HHB.out.2.2.2; omega) (by omega))
          have HTY := Lib.hid hwb.ty
          clear hall hwb
          refine HAL.out.mono ?_
          rintro e w12 ⟨⟨sk, rfl⟩, ⟨out, ha, hob, hoby⟩, hk12⟩
          have hol : 8 * out.length ≤ 50000000000 * nc + 8 := by
           have h1 := bytesBits_len out
           rw [hob, List.length_append, List.length_replicate] at h1
           have h2 : padOf (allBits bp subs).length < 8 := by unfold padOf; omega
           omega
          have hst := ha.st
          have hdg := hst.dg16
          have hbf := hst.buf
          have hr16 := up16_range (f16 32773) 0 (by decide) (P ++ out)
          obtain ⟨cr, hcr, hcr2⟩ : ∃ cr : Nat, up16 (f16 32773) 0 (P ++ out) = (cr : Int) ∧ cr < 65536 := ⟨(up16 (f16 32773) 0 (P ++ out)).toNat, by omega, by omega⟩
          have hs16 := sum16 d16 t16 w12 (P ++ out) hdg
          rw [hcr] at hs16
          have HS16 := Lib.hid hs16
          have hkr := X.out.2.1.trans hk12
          have ht10 := X10.out.2.2.2.2.2.2.1
          have her := hkr.keep ge _ X10.out.2.2.2.1 (ht10.ne X10.out.2.2.2.1 (by decide)) (notU8 (by decide))
          have hfr := hkr.keep gf _ X10.out.2.2.1 (ht10.ne X10.out.2.2.1 (by decide)) (notU8 (by decide))
          have y1 : w12.cell? ⟨ge, 1, none⟩ = some (.iface 69 (.pointer (some ⟨b, 0, none⟩))) := by rw [cell_of_row w12 ge 1 _ _ _ her]; rfl
          have hB12 : B ≤ w12.heap.size := Nat.le_trans hBr hk12.bel.size
          have HNW := Lib.hid (num_write16 (buf_snk B b) cr (pre ++ (P ++ out)) w12 hbf hB12 hcr2 (by simp only [List.length_append]; have := HHB.out.2.2.2; omega))
          have W12 := Lib.hid (And.intro ha (And.intro hob (And.intro hoby (And.intro hcr (And.intro hkr (And.intro her (And.intro hfr hst)))))))
          clear ha hob hoby hk12 hol hst hdg hbf hr16 hcr hs16 hkr ht10 her hfr hal HAL
          go_wp2_with fail
          refine HS16.out.mono ?_
          rintro e wq ⟨rfl, hq⟩
          rw [hq]
          clear hq
          go_wp2_with fail
          refine HNW.out.mono ?_
          rintro e wz ⟨rfl, hbz, hkz⟩
          have Z := Lib.hid (And.intro hbz hkz)
          clear hbz hkz
          go_wp2_with fail
          refine leaves_cons (f := 44) (args := #[.pointer (some ⟨gf, 0, none⟩)]) (by simp) (by simp [go_sem]) ?_
          obtain ⟨ha, hob, hoby, hcr, hkr, her, hfr, hst⟩ := id W12.out
          have hbt := (buf_snk B b).lt w12 _ hst.buf
          have htb : Ty w12 [b] := (Mw2.ty hst).sub (by simp)
          have hfz := Z.out.2.keep gf _ hfr (htb.ne hfr (by decide)) (notU8 (by decide))
          have hez := Z.out.2.keep ge _ her (htb.ne her (by decide)) (notU8 (by decide))
          refine (cor_none gf ch wz .returning hch (by rw [cell_of_row wz gf 3 _ _ _ hfz]; rfl)).mono ?_
          rintro e u' w'' ⟨rfl, rfl, rfl⟩
          have hkk := wf_kp hB X9.out.2.1 Y9.out.2.1 X10.out.2.1 W12.out.2.2.2.2.1 Z.out.2 HGM.out.1 HGM.out.2.1 HGM.out.2.2.1 HGM.out.2.2.2 (Nat.le_trans (Nat.le_trans X9.out.2.1.bel.size Y9.out.2.1.bel.size) X10.out.2.2.2.2.2.2.2)
          obtain ⟨q1, q2, hq1, hq2, he9⟩ : ∃ q1 q2 : Nat, q1 < 65536 ∧ q2 < 65536 ∧ w''.heap[ge]? = some (.cells (encCells gst b q1 q2 (ns + sz) cur') 116 (0, 0)) := ⟨q1, q2, q3, q4, hez⟩
          have fin := wf_end HE.out.1 ⟨_, HE.out.2.1⟩ HE.out.2.2.2.2 hkk he9 hq1 hq2 Z.out.1 HHB.out.2.2.1 HHB.out.1 HHB.out.2.1 hoby hob hcr hcr2
          rw [← HCUR.out] at fin
          exact ⟨_, results_tmp rfl _ _ _, rfl, fin⟩
end Go.Proofs.YtmcllndnjdemaaaGreatDoor.Walk
