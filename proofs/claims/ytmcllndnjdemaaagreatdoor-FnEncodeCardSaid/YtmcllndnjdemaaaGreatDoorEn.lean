/- impl.Encode: a stream of frames. -/
import Derived.Test.YtmcllndnjdemaaaGreatDoorNe
import Derived.Test.YtmcllndnjdemaaaGreatDoorIs
import Derived.Test.YtmcllndnjdemaaaGreatDoorHk
namespace Go.Proofs.YtmcllndnjdemaaaGreatDoor.Walk
set_option linter.unusedVariables false
set_option linter.unusedSimpArgs false
open Go Go.RowKit Go.Proofs.YtmcllndnjdemaaaGreatDoorW.PrintWords Go.Proofs.YtmcllndnjdemaaaGreatDoorW.PrintLast Go.Proofs.YtmcllndnjdemaaaGreatDoorW.PrintMore Go.Proofs.YtmcllndnjdemaaaGreatDoor.Num Go.Proofs.YtmcllndnjdemaaaGreatDoor.Crc
structure Fr where
 vr : Bool
 sz : Nat
 subs : List Sb
def ImpSub (w : World) (gb j : Nat) (s : Sb) : Prop := ∃ gx cx gq cq, w.cell? ⟨gb, j * 9, none⟩ = some (.int .i64 s.K) ∧ w.cell? ⟨gb, j * 9 + 1, none⟩ = some (.int .i64 s.o) ∧ w.cell? ⟨gb, j * 9 + 2, none⟩ = some (.int .i64 0) ∧
 w.cell? ⟨gb, j * 9 + 3, none⟩ = some (.slice (some ⟨gx, 0, none⟩) s.xs.length cx) ∧ w.cell? ⟨gb, j * 9 + 4, none⟩ = some (.slice none 0 0) ∧ w.cell? ⟨gb, j * 9 + 5, none⟩ = some (.int .i64 0) ∧
 w.cell? ⟨gb, j * 9 + 6, none⟩ = some (.int .i64 0) ∧ w.cell? ⟨gb, j * 9 + 7, none⟩ = some (.int .i64 0) ∧ w.cell? ⟨gb, j * 9 + 8, none⟩ = some (.slice (some ⟨gq, 0, none⟩) 1 cq) ∧ Row32 w gx s.xs ∧ w.cell? ⟨gq, 0, none⟩ = some (.int .i64 12)
def ImpFr (w : World) (gl i : Nat) (f : Fr) (rt ch bp : Nat) : Prop := ∃ gb cb nm, w.cell? ⟨gl, i * 7, none⟩ = some (.bool f.vr) ∧ w.cell? ⟨gl, i * 7 + 1, none⟩ = some (.int .i64 f.sz) ∧ w.cell? ⟨gl, i * 7 + 2, none⟩ = some (.int .i64 rt) ∧
 w.cell? ⟨gl, i * 7 + 3, none⟩ = some (.int .i64 ch) ∧ w.cell? ⟨gl, i * 7 + 4, none⟩ = some (.int .i64 bp) ∧ w.cell? ⟨gl, i * 7 + 5, none⟩ = some (.int .u64 nm) ∧ w.cell? ⟨gl, i * 7 + 6, none⟩ = some (.slice (some ⟨gb, 0, none⟩) f.subs.length cb) ∧
 ∀ j (hj : j < f.subs.length), ImpSub w gb j f.subs[j]
theorem cell_below {w w' : World} {a : Addr} {v : Value} (b : Below w.heap.size w w') (h : w.cell? a = some v) : w'.cell? a = some v := (b.cell (World.block_lt_of_cell? w a h)).trans h
theorem ImpSub.below {w w' : World} {gb j : Nat} {s : Sb} (h : ImpSub w gb j s) (b : Below w.heap.size w w') : ImpSub w' gb j s := by
 obtain ⟨gx, cx, gq, cq, h0, h1, h2, h3, h4, h5, h6, h7, h8, h9, h10⟩ := h
 exact ⟨gx, cx, gq, cq, cell_below b h0, cell_below b h1, cell_below b h2, cell_below b h3, cell_below b h4, cell_below b h5, cell_below b h6, cell_below b h7, cell_below b h8, h9.below b, cell_below b h10⟩
theorem ImpFr.below {w w' : World} {gl i : Nat} {f : Fr} {rt ch bp : Nat} (h : ImpFr w gl i f rt ch bp) (b : Below w.heap.size w w') : ImpFr w' gl i f rt ch bp := by
 obtain ⟨gb, cb, nm, h0, h1, h2, h3, h4, h5, h6, h7⟩ := h
 exact ⟨gb, cb, nm, cell_below b h0, cell_below b h1, cell_below b h2, cell_below b h3, cell_below b h4, cell_below b h5, cell_below b h6, fun j hj => (h7 j hj).below b⟩
structure FrOk (f : Fr) (ch bp : Nat) : Prop where
 s0 : 0 < f.sz
 s1 : f.sz ≤ 256
 n : f.subs.length = ch + 1
 ok : ∀ s ∈ f.subs, SubOk bp f.sz s.K s.o s.xs ∧ s.o ≤ 4
def curAt (fs : List Fr) : Nat → Nat
 | 0 => 0
 | i + 1 => nextNum (fs.getD i ⟨false, 0, []⟩).vr (curAt fs i) (fs.getD i ⟨false, 0, []⟩).sz
def samAt (fs : List Fr) : Nat → Nat
 | 0 => 0
 | i + 1 => samAt fs i + (fs.getD i ⟨false, 0, []⟩).sz
theorem nextNum_le (vr : Bool) (c sz : Nat) (h : sz ≤ 256) : nextNum vr c sz ≤ c + 256 := by unfold nextNum; split <;> omega
theorem curAt_le (fs : List Fr) (ch bp : Nat) (h : ∀ f ∈ fs, FrOk f ch bp) : ∀ i, curAt fs i ≤ 256 * i
 | 0 => Nat.le_refl _
 | i + 1 => by
  have h1 := curAt_le fs ch bp h i
  have h2 : (fs.getD i ⟨false, 0, []⟩).sz ≤ 256 := by
   rw [List.getD_eq_getElem?_getD]
   rcases hf : fs[i]? with _ | f
   ·exact Nat.zero_le _
   ·exact (h f (List.mem_of_getElem? hf)).s1
  have h3 := nextNum_le (fs.getD i ⟨false, 0, []⟩).vr (curAt fs i) _ h2
  rw [curAt]; omega
theorem samAt_le (fs : List Fr) (ch bp : Nat) (h : ∀ f ∈ fs, FrOk f ch bp) : ∀ i, samAt fs i ≤ 256 * i
 | 0 => Nat.le_refl _
 | i + 1 => by
  have h1 := samAt_le fs ch bp h i
  have h2 : (fs.getD i ⟨false, 0, []⟩).sz ≤ 256 := by
   rw [List.getD_eq_getElem?_getD]
   rcases hf : fs[i]? with _ | f
   ·exact Nat.zero_le _
   ·exact (h f (List.mem_of_getElem? hf)).s1
  rw [samAt]; omega
def FramesAre (Fs : List (List Int)) (fs : List Fr) (rt ch bp : Nat) : Prop := ∀ i, i < Fs.length → FrameIs (Fs.getD i []) (fs.getD i ⟨false, 0, []⟩).vr (fs.getD i ⟨false, 0, []⟩).sz rt ch bp (curAt fs i) (fs.getD i ⟨false, 0, []⟩).subs
theorem frame_len {F : List Int} {vr : Bool} {sz rt ch bp nm : Nat} {subs : List Sb} (h : FrameIs F vr sz rt ch bp nm subs) (hok : ∀ s ∈ subs, SubOk bp sz s.K s.o s.xs ∧ s.o ≤ 4) (hn : subs.length ≤ 8) : F.length ≤ 60000000000 := by
 obtain ⟨hb, body, cr, h1, _, h3, _, _, rfl⟩ := h
 have k1 := bytesBits_len hb
 have k2 := congrArg List.length h1
 have k3 := szNb_le sz
 have k4 := rtNb_le rt
 have k5 := more_le nm
 have k6 := coded_len nm
 unfold hdrBits at k2
 simp only [List.length_append, bts_len, bytesBits_len] at k2
 have k7 := bytesBits_len body
 rw [h3, List.length_append, List.length_replicate] at k7
 have k8 : padOf (allBits bp subs).length < 8 := by unfold padOf; omega
 have k9 := allBits_len bp sz subs hok
 have k10 : 50000000000 * subs.length ≤ 50000000000 * 8 := Nat.mul_le_mul_left _ hn
 simp only [List.length_append, List.length_cons, List.length_nil]
 omega
theorem flat_len (L : Nat) : ∀ Fs : List (List Int), (∀ F ∈ Fs, F.length ≤ L) → Fs.flatten.length ≤ L * Fs.length
 | [], _ => by simp
 | F :: Fs, h => by
  have h1 := flat_len L Fs (fun G hG => h G (List.mem_cons_of_mem _ hG))
  have h2 := h F (List.mem_cons_self ..)
  rw [List.flatten_cons, List.length_append, List.length_cons, Nat.mul_add]
  omega
theorem frames_len {Fs : List (List Int)} {fs : List Fr} {rt ch bp : Nat} (h : FramesAre Fs fs rt ch bp) (hf : ∀ f ∈ fs, FrOk f ch bp) (hch : ch ≤ 7) (hl : Fs.length ≤ fs.length) : Fs.flatten.length ≤ 60000000000 * Fs.length := by
 refine flat_len _ _ fun F hF => ?_
 obtain ⟨i, hi, rfl⟩ := List.mem_iff_getElem.1 hF
 have h1 := h i hi
 rw [List.getD_eq_getElem?_getD, List.getElem?_eq_getElem hi] at h1
 have hil : i < fs.length := by omega
 have hfe : fs.getD i ⟨false, 0, []⟩ = fs[i] := by rw [List.getD_eq_getElem?_getD, List.getElem?_eq_getElem hil]; rfl
 rw [hfe] at h1
 have h2 := hf fs[i] (List.getElem_mem hil)
 exact frame_len h1 h2.ok (by have := h2.n; omega)
theorem FramesAre.snoc {Fs : List (List Int)} {fs : List Fr} {rt ch bp : Nat} {F : List Int} (h : FramesAre Fs fs rt ch bp) (hF : FrameIs F (fs.getD Fs.length ⟨false, 0, []⟩).vr (fs.getD Fs.length ⟨false, 0, []⟩).sz rt ch bp (curAt fs Fs.length) (fs.getD Fs.length ⟨false, 0, []⟩).subs) : FramesAre (Fs ++ [F]) fs rt ch bp := fun i hi => by
 by_cases hl : i < Fs.length
 ·have h1 := h i hl
  rwa [show (Fs ++ [F]).getD i [] = Fs.getD i [] by rw [List.getD_eq_getElem?_getD, List.getD_eq_getElem?_getD, List.getElem?_append_left hl]]
 ·have : i = Fs.length := by simp at hi; omega
  subst this
  rwa [show (Fs ++ [F]).getD Fs.length [] = F by simp [List.getD_eq_getElem?_getD]]
theorem EncMem.below {w w' : World} {ge gst gi b nc cur ns : Nat} (h : EncMem w ge gst gi b nc cur ns) (bl : Below w.heap.size w w') : EncMem w' ge gst gi b nc cur ns := by
 obtain ⟨⟨q1, q2, k1, k2, e1⟩, ⟨v1, v2, e2⟩, ⟨cs, e3, e4⟩⟩ := h
 have q : ∀ {i o}, w.heap[i]? = some o → w'.heap[i]? = some o := fun {i o} hi => (bl.block i (Array.getElem?_eq_some_iff.1 hi).1).trans hi
 exact ⟨⟨q1, q2, k1, k2, q e1⟩, ⟨v1, v2, q e2⟩, ⟨cs, q e3, e4⟩⟩
theorem own_ty {w : World} {B : Nat} {e : TypeId} {size n : Nat} {v : Value} {xs : List Value} (h : w.ownsRow B e size v n xs) : ∀ k ∈ v.ownBlock.toList, B ≤ k ∧ ∃ cs, w.heap[k]? = some (.cells cs e (0, 0)) := by
 obtain ⟨_, ⟨rfl, _⟩ | ⟨g, cap, cur, rfl, hb, hh, _⟩⟩ := h
 ·intro k hk; simp [Value.ownBlock] at hk
 ·intro k hk
  simp [Value.ownBlock] at hk
  subst hk
  exact ⟨hb, cur, hh⟩
theorem own_ne {w : World} {B k : Nat} {e t : TypeId} {size n : Nat} {v : Value} {xs : List Value} {cs : Array Value} {fz : Nat × Nat} (h : w.ownsRow B e size v n xs) (hk : w.heap[k]? = some (.cells cs t fz)) (hne : t ≠ e) : some k ≠ v.ownBlock := by
 intro he
 obtain ⟨_, cs', h2⟩ := own_ty h k (by rw [← he]; simp)
 exact blk_ne hk h2 hne rfl
theorem grown_touch {w w' : World} {row : Option Nat} (h : w.grownBy w' row) : Touch row.toList w w' := ⟨h.os, h.tape, h.output, h.size, fun k hk hn => h.block k hk (fun e => hn (by rw [← e]; simp))⟩
def TyF (w : World) (T : List Nat) : Prop := ∀ k ∈ T, ∃ cs ty fz, w.heap[k]? = some (.cells cs ty fz) ∧ ty ∈ [85, 86]
theorem TyF.ne {w : World} {T : List Nat} (h : TyF w T) {k : Nat} {cs : Array Value} {ty : TypeId} {fz : Nat × Nat} (hk : w.heap[k]? = some (.cells cs ty fz)) (hn : ty ∉ [85, 86]) : k ∉ T := by
 intro hm
 obtain ⟨cs', ty', fz', h1, h2⟩ := h k hm
 rw [hk] at h1
 injection h1 with h1
 injection h1 with _ h3 _
 exact hn (h3 ▸ h2)
theorem SubMem.touch {w w' : World} {gs ga gr gp K o : Nat} {xs : List Int} {T : List Nat} (h : SubMem w gs ga gr gp K o xs) (t : Touch T w w') (hT : TyF w T) : SubMem w' gs ga gr gp K o xs := by
 obtain ⟨cfv, ca, cp, cs1, cs2, h1, h2, h3, h4, h5, h6, h7⟩ := h
 exact ⟨cfv, ca, cp, cs1, cs2, t.heap h1 (hT.ne h1 (by decide)), t.heap h2 (hT.ne h2 (by decide)), h3, h4, t.heap h5 (hT.ne h5 (by decide)), t.heap h6 (hT.ne h6 (by decide)), h7⟩
theorem NCh.lt {w : World} (h : NCh w) : 0 < w.heap.size := World.block_lt_of_cell? w ⟨0, 0, none⟩ (h 0 (by decide))
theorem infoBits_len (rt nc bp ns : Nat) : (infoBits rt nc bp ns).length = 336 := by
 simp [infoBits, bts_len, bytesBits_len]
def Ptrs (w : World) (ps : List Value) (subs : List Sb) : Prop := ∀ k (hk : k < ps.length), ∃ gs ga gr gp, ps[k] = .pointer (some ⟨gs, 0, none⟩) ∧ SubMem w gs ga gr gp (subs.getD k ⟨0, 0, []⟩).K (subs.getD k ⟨0, 0, []⟩).o (subs.getD k ⟨0, 0, []⟩).xs
theorem Ptrs.below {w w' : World} {ps : List Value} {subs : List Sb} (h : Ptrs w ps subs) (b : Below w.heap.size w w') : Ptrs w' ps subs := fun k hk => by
 obtain ⟨gs, ga, gr, gp, h1, h2⟩ := h k hk
 exact ⟨gs, ga, gr, gp, h1, h2.below b⟩
theorem Ptrs.touch {w w' : World} {ps : List Value} {subs : List Sb} {T : List Nat} (h : Ptrs w ps subs) (t : Touch T w w') (hT : TyF w T) : Ptrs w' ps subs := fun k hk => by
 obtain ⟨gs, ga, gr, gp, h1, h2⟩ := h k hk
 exact ⟨gs, ga, gr, gp, h1, h2.touch t hT⟩
theorem Ptrs.snoc {w : World} {ps : List Value} {subs : List Sb} {gs ga gr gp : Nat} {s : Sb} (h : Ptrs w ps subs) (hs : subs.getD ps.length ⟨0, 0, []⟩ = s) (hm : SubMem w gs ga gr gp s.K s.o s.xs) : Ptrs w (ps ++ [.pointer (some ⟨gs, 0, none⟩)]) subs := fun k hk => by
 by_cases hl : k < ps.length
 ·obtain ⟨a, b, c, d, h1, h2⟩ := h k hl
  exact ⟨a, b, c, d, by rw [List.getElem_append_left hl, h1], h2⟩
 ·have : k = ps.length := by simp at hk; omega
  subst this
  exact ⟨gs, ga, gr, gp, by simp, by rw [hs]; exact hm⟩
def mkCells (vr : Bool) (sz rt ch bp : Nat) (sv : Value) : Array Value := #[.bool (!vr), .int .u16 sz, .int .u32 rt, .int .u8 ch, .int .u8 bp, .int .u64 0, sv, .nilIface, .pointer none, .nilIface, .nilIface]
theorem info_psub : ∃ i, Tryz.prog.info? 86 = some i ∧ i.zero = some (.pointer none) ∧ i.size = 1 ∧ i.bytes = 8 := by
 have h : (Tryz.prog.info? 86).map (fun i => (i.zero, i.size, i.bytes)) = some (some (.pointer none), 1, 8) := by kernel_rfl
 rcases hi : Tryz.prog.info? 86 with _ | i
 ·rw [hi] at h; cases h
 ·rw [hi] at h
  simp only [Option.map_some, Option.some.injEq, Prod.mk.injEq] at h
  exact ⟨i, rfl, h⟩
theorem no_close : Instr.missingMethod #[("Close", 91)] Tryz.t69.methods = some "Close" := by
 unfold Instr.missingMethod Tryz.t69
 simp [Instr.least]
set_option maxRecDepth 100000 in
theorem no_closer (x : Value) (W : World) : (Instr.typeAssert (.iface 69 x) 110 152 true).run Tryz.prog W = .ok (.tuple #[.nilIface, .bool false]) W := by
 simp [Instr.typeAssert, no_close]
set_option maxHeartbeats 1000000 in
set_option maxRecDepth 100000 in
theorem enc_close (ge b : Nat) (w : World) (c1 : w.cell? ⟨ge, 1, none⟩ = some (.iface 69 (.pointer (some ⟨b, 0, none⟩)))) : Calls Tryz.prog 21 #[.pointer (some ⟨ge, 0, none⟩)] w fun e w' => e = .returned .nilIface ∧ w = w' := by
 have ta := no_closer
 go_enter Tryz.func21, Tryz.ntmps21
 go_wp2_with fail
 go_ret
 exact ⟨rfl, rfl⟩
theorem code_nil (w : World) : Calls Tryz.prog 20 #[.nilIface] w fun e w' => e = .returned (.int .i64 0) ∧ w = w' := by
 go_enter Tryz.func20, Tryz.ntmps20
 go_wp2_with fail
 go_ret
 exact ⟨rfl, rfl⟩
set_option maxHeartbeats 1000000 in
set_option maxRecDepth 100000 in
theorem enc_off (ge gst b : Nat) (w : World) (h : w.heap[ge]? = some (.cells #[.pointer (some ⟨gst, 0, none⟩), .iface 69 (.pointer (some ⟨b, 0, none⟩)), .int .u16 0, .int .u16 0, .int .u32 0, .int .u32 0, .int .u64 0, .int .u64 0, .bool true] 116 (0, 0))) :
  Calls Tryz.prog 16 #[.pointer (some ⟨ge, 0, none⟩), .bool false] w fun e w' => e = .returned (.tuple #[]) ∧ w'.heap[ge]? = some (.cells (encCells gst b 0 0 0 0) 116 (0, 0)) ∧ Touch [ge] w w' := by
 have c8 : w.cell? ⟨ge, 8, none⟩ = some (.bool true) := by rw [cell_of_row w ge 8 _ _ _ h]; rfl
 have f8 : w.frozen? ⟨ge, 8, none⟩ = false := by simp [World.frozen?, h]
 have H := Lib.hid h
 clear h
 go_enter Tryz.func16, Tryz.ntmps16
 go_wp2_with fail
 go_end0
 exact ⟨rfl, by rw [blk_set H.out 8]; rfl, (Touch.refl [ge] w).setCell (p := ⟨ge, 8, none⟩) (.inl (by simp)) _⟩
set_option maxHeartbeats 16000000 in
set_option maxRecDepth 100000 in
theorem impl_encode {gl cl rt ch bp ns : Nat} {fs : List Fr} {w : World} (hrt : RtOk rt) (hch : ch ≤ 7) (hbp : BpOk bp) (hns : ns ≤ 1000000) (hnf : fs.length ≤ 3) (hf : ∀ f ∈ fs, FrOk f ch bp) (hm : ∀ i (hi : i < fs.length), ImpFr w gl i fs[i] rt ch bp) (hn : NCh w) :
  Calls Tryz.prog 6 #[.agg #[.int .i64 16, .int .i64 4096, .int .i64 0, .int .i64 0, .int .i64 rt, .int .i64 (ch + 1 : Nat), .int .i64 bp, .int .u64 ns, .slice none 0 0], .slice (some ⟨gl, 0, none⟩) fs.length cl] w fun e w' => Below w.heap.size w w' ∧
   ∃ v I Fs, e = .returned (.tuple #[v, .int .i64 0]) ∧ bytesBits I = infoBits rt (ch + 1) bp ns ∧ (∀ x ∈ I, 0 ≤ x ∧ x ≤ 255) ∧ Fs.length = fs.length ∧ FramesAre Fs fs rt ch bp ∧ w'.ownsRow w.heap.size 5 1 v (I ++ Fs.flatten).length (nums .u8 (I ++ Fs.flatten)) := by
 obtain ⟨nc, hnc⟩ : ∃ nc, ch + 1 = nc := ⟨_, rfl⟩
 have HNC := Lib.hid hnc
 have hnc8 : nc ≤ 8 := by omega
 have hnc0 : 0 < nc := by omega
 rw [hnc]
 have hrtl : rt < 1048576 := by rcases hrt with h | h | h | h | h | h | h <;> omega
 have hbpl : bp ≤ 24 ∧ 0 < bp := by rcases hbp with h | h | h | h | h <;> omega
 have hbp1 := hbpl.1
 have HH := Lib.hid (And.intro hrt (And.intro hbp (And.intro hf (And.intro hm hn))))
 obtain ⟨nf, hnfe⟩ : ∃ nf, fs.length = nf := ⟨_, rfl⟩
 have HNF := Lib.hid hnfe
 rw [hnfe] at hnf
 rw [hnfe]
 clear hrt hbp hf hm hn hnc hnfe
 obtain ⟨wa, hwa⟩ : ∃ wa, (w.alloc (.cells #[.int .i64 16, .int .i64 4096, .int .i64 0, .int .i64 0, .int .i64 rt, .int .i64 nc, .int .i64 bp, .int .u64 ns, .slice none 0 0] 41)).alloc (.cells #[.slice none 0 0, .int .i64 0, .int .i8 0] 63) = wa := ⟨_, rfl⟩
 obtain ⟨N, hN⟩ : ∃ N, w.heap.size = N := ⟨_, rfl⟩
 have ba : Below N w wa := by rw [← hwa, ← hN]; exact below_alloc (below_alloc (Below.refl _ _) _) _
 have hbuf : Buf N (N + 1) wa [] := by
  have h := Lib.fresh_isBuffer 63 5 (w.alloc (.cells #[.int .i64 16, .int .i64 4096, .int .i64 0, .int .i64 0, .int .i64 rt, .int .i64 nc, .int .i64 bp, .int .u64 ns, .slice none 0 0] 41))
  rw [World.size_alloc, hN, hwa] at h
  obtain ⟨_, v, lr, h1, h2, h3⟩ := h
  exact ⟨by omega, v, lr, h1, ⟨h2.1, h2.2.imp id (fun ⟨g, cap, cur, k1, k2, k3⟩ => ⟨g, cap, cur, k1, by omega, k3⟩)⟩, h3⟩
 have hza : wa.heap.size = N + 2 := by rw [← hwa, World.size_alloc, World.size_alloc, hN]
 have hinf : wa.heap[N]? = some (.cells #[.int .i64 16, .int .i64 4096, .int .i64 0, .int .i64 0, .int .i64 rt, .int .i64 nc, .int .i64 bp, .int .u64 ns, .slice none 0 0] 41 (0, 0)) := by
  rw [← hwa, Below.heap_alloc _ _ _ (by rw [World.size_alloc]; omega), ← hN]; exact heap_alloc_new _ _
 have i0 : wa.cell? ⟨N, 0, none⟩ = some (.int .i64 16) := by rw [cell_of_row wa N 0 _ _ _ hinf]; rfl
 have i1 : wa.cell? ⟨N, 1, none⟩ = some (.int .i64 4096) := by rw [cell_of_row wa N 1 _ _ _ hinf]; rfl
 have i2 : wa.cell? ⟨N, 2, none⟩ = some (.int .i64 0) := by rw [cell_of_row wa N 2 _ _ _ hinf]; rfl
 have i3 : wa.cell? ⟨N, 3, none⟩ = some (.int .i64 0) := by rw [cell_of_row wa N 3 _ _ _ hinf]; rfl
 have i4 : wa.cell? ⟨N, 4, none⟩ = some (.int .i64 rt) := by rw [cell_of_row wa N 4 _ _ _ hinf]; rfl
 have i5 : wa.cell? ⟨N, 5, none⟩ = some (.int .i64 nc) := by rw [cell_of_row wa N 5 _ _ _ hinf]; rfl
 have i6 : wa.cell? ⟨N, 6, none⟩ = some (.int .i64 bp) := by rw [cell_of_row wa N 6 _ _ _ hinf]; rfl
 have i7 : wa.cell? ⟨N, 7, none⟩ = some (.int .u64 ns) := by rw [cell_of_row wa N 7 _ _ _ hinf]; rfl
 have i8 : wa.cell? ⟨N, 8, none⟩ = some (.slice none 0 0) := by rw [cell_of_row wa N 8 _ _ _ hinf]; rfl
 have X0 := Lib.hid (And.intro ba (And.intro hbuf hza))
 clear hinf
 have HSZ := Lib.hid hN
 clear ba hbuf hza
 go_enter Tryz.func6, Tryz.ntmps6
 go_wp2_with fail
 refine (inf_make rt nc bp ns wa hrtl hnc8 (by omega)).mono ?_
 rintro e w1 ⟨hb1, gi, rfl, hgi, hi1⟩
 have hB1 : N ≤ w1.heap.size := by have h1 := X0.out.2.2; have h2 := hb1.size; omega
 have hbuf1 := X0.out.2.1.move (U := []) (Touch.of_below hb1) (by simp)
 have HNE := Lib.hid (new_enc hbuf1 hB1 hi1 hrtl hnc0 hnc8 hbpl.2 (by omega) hns)
 have X1 := Lib.hid (And.intro hb1 (And.intro hgi hi1))
 clear hb1 hgi hi1 hbuf1 i0 i1 i2 i3 i4 i5 i6 i7 i8
 go_wp2_with fail
 refine HNE.out.mono ?_
 rintro e w2 ⟨ge, gst, I, rfl, hge, hI, hIb, hbuf2, hk2, he2, v1, v2, hs2⟩
 have HOF := Lib.hid (enc_off ge gst (N + 1) w2 he2)
 have X2 := Lib.hid (And.intro hge (And.intro hI (And.intro hIb (And.intro hbuf2 (And.intro hk2 (And.intro he2 hs2))))))
 clear hge hI hIb hbuf2 hk2 he2 hs2 HNE
 go_wp2_with fail
 refine HOF.out.mono ?_
 rintro e w3 ⟨rfl, he3, t23⟩
 obtain ⟨_, vb, lrb, hbk2, _⟩ := id X2.out.2.2.2.1
 have hs2 := X2.out.2.2.2.2.2.2
 obtain ⟨_, vb1, lrb1, hbk1, _⟩ := X0.out.2.1.move (U := []) (Touch.of_below X1.out.1) (by simp)
 have hi2 := X2.out.2.2.2.2.1.keep gi _ X1.out.2.2 (by simp only [List.mem_singleton]; exact blk_ne X1.out.2.2 hbk1 (by decide)) (notU8 (by decide))
 have hi3 := t23.heap hi2 (by simp only [List.mem_singleton]; exact blk_ne hi2 X2.out.2.2.2.2.2.1 (by decide))
 have hs3 := t23.heap hs2 (by simp only [List.mem_singleton]; exact blk_ne hs2 X2.out.2.2.2.2.2.1 (by decide))
 have hbuf3 := X2.out.2.2.2.1.move t23 (fun k hk => by
  obtain rfl : k = ge := by simpa using hk
  exact ⟨blk_ne X2.out.2.2.2.2.2.1 hbk2 (by decide), fun o ho => by rw [X2.out.2.2.2.2.2.1] at ho; cases ho; exact notU8 (by decide)⟩)
 have hE3 : EncMem w3 ge gst gi (N + 1) nc 0 0 := ⟨⟨0, 0, by decide, by decide, he3⟩, ⟨v1, v2, hs3⟩, ⟨_, hi3, rfl⟩⟩
 have hz1 := X1.out.1.size
 have hz2 := X2.out.2.2.2.2.1.bel.size
 have hge2 := X2.out.1
 have hza := X0.out.2.2
 have hb3 : Below N w w3 := by
  have h1 : Below N wa w1 := ⟨X1.out.1.os, X1.out.1.tape, X1.out.1.output, X1.out.1.size, fun k hk => X1.out.1.block k (by omega)⟩
  have h2 : Below N w w2 := X0.out.1.trans (h1.trans X2.out.2.2.2.2.1.bel)
  have h3 := t23.below (w0 := w) (by rw [HSZ.out]; exact h2) (fun k hk => by
   obtain rfl : k = ge := by simpa using hk
   rw [HSZ.out]; omega)
  rw [HSZ.out] at h3; exact h3
 have hgeN : N ≤ ge := by omega
 have X3 := Lib.hid (And.intro hbuf3 (And.intro hE3 (And.intro hb3 (And.intro X2.out.2.1 X2.out.2.2.1))))
 clear hbk2 hs2 hbk1 hi2 hi3 hs3 hbuf3 hE3 hz1 hz2 hge2 hza hb3 he3 t23 HOF
 go_wp2_with fail
 go_loopw [28] (fun iv wr => ∃ (i : Nat) (Fs : List (List Int)), i ≤ nf ∧ iv = .int .i64 i ∧ Fs.length = i ∧ FramesAre Fs fs rt ch bp ∧ Buf N (N + 1) wr (I ++ Fs.flatten) ∧ EncMem wr ge gst gi (N + 1) nc (curAt fs i) (samAt fs i) ∧ Below N w wr) (fun iv _ => nf - (intOf iv).toNat)
 case atStart => exact ⟨0, [], by omega, rfl, rfl, fun i hi => absurd hi (by simp), by simp; exact X3.out.1, X3.out.2.1, X3.out.2.2.1⟩
 case round =>
  rename World => wo
  obtain ⟨i, Fs, hi, rfl, hFl, hFs, hbuf, hE, hbel⟩ := hrel
  have X := Lib.hid (And.intro hFl (And.intro hFs (And.intro hbuf (And.intro hE hbel))))
  clear hFl hFs hbuf hE hbel
  by_cases hlt : i < nf
  ·obtain ⟨f, hfe⟩ : ∃ f, fs.getD i ⟨false, 0, []⟩ = f := ⟨_, rfl⟩
   have hil : i < fs.length := by rw [HNF.out]; exact hlt
   have hfi : fs[i] = f := by rw [← hfe, List.getD_eq_getElem?_getD, List.getElem?_eq_getElem hil]; rfl
   have hfok := HH.out.2.2.1 f (by rw [← hfi]; exact List.getElem_mem hil)
   have hfm := (HH.out.2.2.2.1 i hil).below (by rw [HSZ.out]; exact X.out.2.2.2.2)
   rw [hfi] at hfm
   obtain ⟨gb, cb, nm, m0, m1, m2, m3, m4, m5, m6, m7⟩ := id hfm
   have HF := Lib.hid (And.intro hfe (And.intro hfok (And.intro hfm m7)))
   clear hfe hil hfi hfok hfm m7
   have hsz2 := HF.out.2.1.s1
   go_wp2_with fail
   obtain ⟨n, hn⟩ : ∃ n, f.subs.length = n := ⟨_, rfl⟩
   have HN := Lib.hid hn
   have hn8 : n ≤ 8 := by have := HF.out.2.1.n; omega
   obtain ⟨M, hM⟩ : ∃ M, wo.heap.size = M := ⟨_, rfl⟩
   obtain ⟨w5, hw5⟩ : ∃ w5, (wo.alloc (.cells #[.bool f.vr, .int .i64 f.sz, .int .i64 rt, .int .i64 ch, .int .i64 bp, .int .u64 nm, .slice (some ⟨gb, 0, none⟩) f.subs.length cb] 36)).alloc (.cells (mkCells f.vr f.sz rt ch bp (.slice none 0 0)) 85) = w5 := ⟨_, rfl⟩
   have hgf5 : w5.heap[M + 1]? = some (.cells (mkCells f.vr f.sz rt ch bp (.slice none 0 0)) 85 (0, 0)) := by
    have h1 := heap_alloc_new (wo.alloc (.cells #[.bool f.vr, .int .i64 f.sz, .int .i64 rt, .int .i64 ch, .int .i64 bp, .int .u64 nm, .slice (some ⟨gb, 0, none⟩) f.subs.length cb] 36)) (.cells (mkCells f.vr f.sz rt ch bp (.slice none 0 0)) 85)
    rw [World.size_alloc, hM] at h1
    rw [← hw5]; exact h1
   have hb5 : Below wo.heap.size wo w5 := by rw [← hw5]; exact below_alloc (below_alloc (Below.refl _ _) _) _
   have hw5' := hw5
   unfold mkCells at hw5'
   rw [hw5', hn, hM]
   have HM := Lib.hid hM
   have X5 := Lib.hid (And.intro hgf5 hb5)
   clear hw5 hw5' hgf5 hb5 m0 m1 m2 m3 m4 m5 m6 hM hn
   go_loopw [53] (fun jv wq => ∃ (j : Nat) (sv : Value) (ps : List Value), j ≤ n ∧ jv = .int .i64 j ∧ ps.length = j ∧ wq.heap[M + 1]? = some (.cells (mkCells f.vr f.sz rt ch bp sv) 85 (0, 0)) ∧ wq.ownsRow M 86 1 sv j ps ∧ Ptrs wq ps f.subs ∧ Below M wo wq) (fun jv _ => n - (intOf jv).toNat)
   case atStart => exact ⟨0, .slice none 0 0, [], by omega, rfl, rfl, X5.out.1, World.ownsRow_nil _ _ _ _, fun k hk => absurd hk (by simp), by rw [← HM.out]; exact X5.out.2⟩
   case round =>
    obtain ⟨j, sv, ps, hj, rfl, hpl, hgf, hown, hptr, hbel⟩ := hrel
    have Y := Lib.hid (And.intro hpl (And.intro hgf (And.intro hown (And.intro hptr hbel))))
    clear hpl hgf hown hptr hbel
    by_cases hjn : j < n
    ·obtain ⟨s, hse⟩ : ∃ s, f.subs.getD j ⟨0, 0, []⟩ = s := ⟨_, rfl⟩
     have hjl : j < f.subs.length := by rw [HN.out]; exact hjn
     have hsi : f.subs[j] = s := by rw [← hse, List.getD_eq_getElem?_getD, List.getElem?_eq_getElem hjl]; rfl
     have hsok := HF.out.2.1.ok s (by rw [← hsi]; exact List.getElem_mem hjl)
     have hsm := (HF.out.2.2.2 j hjl).below (w' := wr) (by rw [HM.out]; exact Y.out.2.2.2.2)
     rw [hsi] at hsm
     obtain ⟨gx, cx, gq, cq, n0, n1, n2, n3, n4, n5, n6, n7, n8, n9, n10⟩ := id hsm
     have HS := Lib.hid (And.intro hse (And.intro hsok (And.intro n9 n10)))
     clear hse hjl hsi hsok hsm n9 n10
     go_upto_region 13 with fail
     obtain ⟨Z, hZ⟩ : ∃ Z, wr.heap.size = Z := ⟨_, rfl⟩
     obtain ⟨wz, hwz⟩ : ∃ wz, wr.alloc (.cells #[.int .i64 s.K, .int .i64 s.o, .int .i64 0, .slice (some ⟨gx, 0, none⟩) s.xs.length cx, .slice none 0 0, .int .i64 0, .int .i64 0, .int .i64 0, .slice (some ⟨gq, 0, none⟩) 1 cq] 59) = wz := ⟨_, rfl⟩
     have hbz : Below Z wr wz := by rw [← hwz, ← hZ]; exact below_alloc (Below.refl _ _) _
     have hzz : wz.heap[Z]? = some (.cells #[.int .i64 s.K, .int .i64 s.o, .int .i64 0, .slice (some ⟨gx, 0, none⟩) s.xs.length cx, .slice none 0 0, .int .i64 0, .int .i64 0, .int .i64 0, .slice (some ⟨gq, 0, none⟩) 1 cq] 59 (0, 0)) := by rw [← hwz, ← hZ]; exact heap_alloc_new _ _
     have hzs : wz.heap.size = Z + 1 := by rw [← hwz, World.size_alloc, hZ]
     have g6w : wr.cell? ⟨M + 1, 6, none⟩ = some sv := by rw [cell_of_row wr (M + 1) 6 _ _ _ Y.out.2.1]; rfl
     have hM1Z : M + 1 < Z := by rw [← hZ]; exact (Array.getElem?_eq_some_iff.1 Y.out.2.1).1
     have g6 : wz.cell? ⟨M + 1, 6, none⟩ = some sv := (hbz.cell (p := ⟨M + 1, 6, none⟩) hM1Z).trans g6w
     have z0 : wz.cell? ⟨Z, 0, none⟩ = some (.int .i64 s.K) := by rw [cell_of_row wz Z 0 _ _ _ hzz]; rfl
     have z1 : wz.cell? ⟨Z, 1, none⟩ = some (.int .i64 s.o) := by rw [cell_of_row wz Z 1 _ _ _ hzz]; rfl
     have z2 : wz.cell? ⟨Z, 2, none⟩ = some (.int .i64 0) := by rw [cell_of_row wz Z 2 _ _ _ hzz]; rfl
     have z3 : wz.cell? ⟨Z, 3, none⟩ = some (.slice (some ⟨gx, 0, none⟩) s.xs.length cx) := by rw [cell_of_row wz Z 3 _ _ _ hzz]; rfl
     have z4 : wz.cell? ⟨Z, 4, none⟩ = some (.slice none 0 0) := by rw [cell_of_row wz Z 4 _ _ _ hzz]; rfl
     have z5 : wz.cell? ⟨Z, 5, none⟩ = some (.int .i64 0) := by rw [cell_of_row wz Z 5 _ _ _ hzz]; rfl
     have z6 : wz.cell? ⟨Z, 6, none⟩ = some (.int .i64 0) := by rw [cell_of_row wz Z 6 _ _ _ hzz]; rfl
     have z7 : wz.cell? ⟨Z, 7, none⟩ = some (.int .i64 0) := by rw [cell_of_row wz Z 7 _ _ _ hzz]; rfl
     have z8 : wz.cell? ⟨Z, 8, none⟩ = some (.slice (some ⟨gq, 0, none⟩) 1 cq) := by rw [cell_of_row wz Z 8 _ _ _ hzz]; rfl
     have HSUB := Lib.hid (impl_sub (cx := cx) (cq := cq) (w := wz.drew) HS.out.2.1.1.kind HS.out.2.1.2 (by have h1 := HS.out.2.1.1.len; have h2 := HS.out.2.1.1.s0; omega) (by have h1 := HS.out.2.1.1.len; have h2 := HS.out.2.1.1.s1; omega) (HS.out.2.2.1.below (w' := wz.drew) (by rw [hZ]; exact hbz.drew)) (cell_below (w := wr) (w' := wz.drew) (by rw [hZ]; exact hbz.drew) HS.out.2.2.2))
     obtain ⟨ip, hp0, hp1, hp2, hp3⟩ := info_psub
     have HP := Lib.hid (And.intro hp0 (And.intro hp1 (And.intro hp2 hp3)))
     have HBZ := Lib.hid hbz
     have HZB := Lib.hid hzz
     have HZZ := Lib.hid (And.intro hzs hZ)
     rw [hwz, hZ]
     clear hp0 hp1 hp2 hp3 hbz hzz hzs hZ g6w n0 n1 n2 n3 n4 n5 n6 n7 n8 hwz
     refine wp_region_K 11 (fun w' => w'.cell? ⟨M + 1, 6, none⟩ = some sv ∧ w'.cell? ⟨Z, 0, none⟩ = some (.int .i64 s.K) ∧ w'.cell? ⟨Z, 1, none⟩ = some (.int .i64 s.o) ∧ w'.cell? ⟨Z, 2, none⟩ = some (.int .i64 0) ∧ w'.cell? ⟨Z, 3, none⟩ = some (.slice (some ⟨gx, 0, none⟩) s.xs.length cx) ∧ w'.cell? ⟨Z, 4, none⟩ = some (.slice none 0 0) ∧ w'.cell? ⟨Z, 5, none⟩ = some (.int .i64 0) ∧ w'.cell? ⟨Z, 6, none⟩ = some (.int .i64 0) ∧ w'.cell? ⟨Z, 7, none⟩ = some (.int .i64 0) ∧ w'.cell? ⟨Z, 8, none⟩ = some (.slice (some ⟨gq, 0, none⟩) 1 cq)) (by kernel_rfl) (⟨g6, z0, z1, z2, z3, z4, z5, z6, z7, z8⟩) (fun HS0 => ?_)
     refine wpAnyK_take (i := 0) (oi := ⟨some 57, .move (.tmp 11), 73, "flac.go:157", #[], none⟩) (v := ?vb1) rfl (by kernel_rfl) (by kernel_rfl) (by kernel_rfl) (by kernel_rfl) (fun _ _ _ h => h) (Or.inl ⟨by rfl, ?yb1⟩) HS0 ?rb1
     case yb1 =>
      intro w' hSw
      (try dsimp only at hSw)
      obtain ⟨q6, p0, p1, p2, p3, p4, p5, p6, p7, p8⟩ := hSw
      go_simp
      all_goals (with_reducible rfl)
     (try simp only [Act.put, List.setIfInBounds_toArray, List.set_cons_zero, List.set_cons_succ])
     refine wpAnyK_take (i := 1) (oi := ⟨some 58, .move (.tmp 11), 73, "flac.go:157", #[], none⟩) (v := ?vb2) rfl (by kernel_rfl) (by kernel_rfl) (by kernel_rfl) (by kernel_rfl) (fun _ _ _ h => h) (Or.inl ⟨by rfl, ?yb2⟩) HS0 ?rb2
     case yb2 =>
      intro w' hSw
      (try dsimp only at hSw)
      obtain ⟨q6, p0, p1, p2, p3, p4, p5, p6, p7, p8⟩ := hSw
      go_simp
      all_goals (with_reducible rfl)
     (try simp only [Act.put, List.setIfInBounds_toArray, List.set_cons_zero, List.set_cons_succ])
     refine wpAnyK_take (i := 2) (oi := ⟨some 59, .nilCheck (.tmp 58), 0, "flac.go:157", #[⟨1, .data⟩], none⟩) (v := ?vb3) rfl (by kernel_rfl) (by kernel_rfl) (by kernel_rfl) (by kernel_rfl) (fun _ _ _ h => h) (Or.inl ⟨by rfl, ?yb3⟩) HS0 ?rb3
     case yb3 =>
      intro w' hSw
      (try dsimp only at hSw)
      obtain ⟨q6, p0, p1, p2, p3, p4, p5, p6, p7, p8⟩ := hSw
      go_simp
      all_goals (with_reducible rfl)
     (try simp only [Act.put, List.setIfInBounds_toArray, List.set_cons_zero, List.set_cons_succ])
     refine wpAnyK_take (i := 3) (oi := ⟨some 60, .fieldAddr 85 (.tmp 59) 1, 0, "flac.go:157", #[⟨2, .data⟩], none⟩) (v := ?vb4) rfl (by kernel_rfl) (by kernel_rfl) (by kernel_rfl) (by kernel_rfl) (fun _ _ _ h => h) (Or.inl ⟨by rfl, ?yb4⟩) HS0 ?rb4
     case yb4 =>
      intro w' hSw
      (try dsimp only at hSw)
      obtain ⟨q6, p0, p1, p2, p3, p4, p5, p6, p7, p8⟩ := hSw
      go_simp
      all_goals (with_reducible rfl)
     (try simp only [Act.put, List.setIfInBounds_toArray, List.set_cons_zero, List.set_cons_succ])
     refine wpAnyK_take (i := 4) (oi := ⟨some 61, .load 78 (.tmp 60), 78, "flac.go:157", #[⟨3, .data⟩], none⟩) (v := ?vb5) rfl (by kernel_rfl) (by kernel_rfl) (by kernel_rfl) (by kernel_rfl) (fun _ _ _ h => h) (Or.inl ⟨by rfl, ?yb5⟩) HS0 ?rb5
     case yb5 =>
      intro w' hSw
      (try dsimp only at hSw)
      obtain ⟨q6, p0, p1, p2, p3, p4, p5, p6, p7, p8⟩ := hSw
      go_simp
      all_goals (with_reducible rfl)
     (try simp only [Act.put, List.setIfInBounds_toArray, List.set_cons_zero, List.set_cons_succ])
     refine wpAnyK_take (i := 5) (oi := ⟨some 62, .load 59 (.tmp 13), 59, "flac.go:157", #[], none⟩) (v := ?vb6) rfl (by kernel_rfl) (by kernel_rfl) (by kernel_rfl) (by kernel_rfl) (fun _ _ _ h => h) (Or.inl ⟨by rfl, ?yb6⟩) HS0 ?rb6
     case yb6 =>
      intro w' hSw
      (try dsimp only at hSw)
      obtain ⟨q6, p0, p1, p2, p3, p4, p5, p6, p7, p8⟩ := hSw
      go_simp
      all_goals (with_reducible rfl)
     (try simp only [Act.put, List.setIfInBounds_toArray, List.set_cons_zero, List.set_cons_succ])
     refine wpAnyK_one (i := 6) (o := ⟨some 63, .call ⟨.value (.func 17), #[.tmp 62], #[59]⟩, 86, "flac.go:157", #[⟨5, .data⟩], none⟩) (by kernel_rfl) rfl (fun KK hKK => ?_)
     go_simp
     refine HSUB.out.mono ?_
     rintro e w6 ⟨hb6', gs, ga, gr, gp, rfl, hgs, hsm6⟩
     have hb6 : Below wz.heap.size wz w6 := ⟨hb6'.os, hb6'.tape, hb6'.output, hb6'.size, hb6'.block⟩
     clear hb6'
     have g6b := cell_below (w := wz) hb6 g6
     have z0b := cell_below (w := wz) hb6 z0
     have z1b := cell_below (w := wz) hb6 z1
     have z2b := cell_below (w := wz) hb6 z2
     have z3b := cell_below (w := wz) hb6 z3
     have z4b := cell_below (w := wz) hb6 z4
     have z5b := cell_below (w := wz) hb6 z5
     have z6b := cell_below (w := wz) hb6 z6
     have z7b := cell_below (w := wz) hb6 z7
     have z8b := cell_below (w := wz) hb6 z8
     go_wp2_with fail
     refine hKK.out _ _ (⟨g6b, z0b, z1b, z2b, z3b, z4b, z5b, z6b, z7b, z8b⟩) (fun HS1 => ?_)
     clear hKK KK
     (try simp only [Act.put, List.setIfInBounds_toArray, List.set_cons_zero, List.set_cons_succ])
     obtain ⟨w7, hw7⟩ : ∃ w7, w6.alloc (.cells #[.pointer (some ⟨gs, 0, none⟩)] 86) = w7 := ⟨_, rfl⟩
     have hb7 : Below w6.heap.size w6 w7 := by rw [← hw7]; exact below_alloc (Below.refl _ _) _
     have nb7 : w7.heap[w6.heap.size]? = some (.cells #[.pointer (some ⟨gs, 0, none⟩)] 86 (0, 0)) := by rw [← hw7]; exact heap_alloc_new _ _
     have hz7 : w7.heap.size = w6.heap.size + 1 := by rw [← hw7, World.size_alloc]
     have g6c := cell_below hb7 g6b
     have z0c := cell_below hb7 z0b
     have z1c := cell_below hb7 z1b
     have z2c := cell_below hb7 z2b
     have z3c := cell_below hb7 z3b
     have z4c := cell_below hb7 z4b
     have z5c := cell_below hb7 z5b
     have z6c := cell_below hb7 z6b
     have z7c := cell_below hb7 z7b
     have z8c := cell_below hb7 z8b
     have HN7 := Lib.hid (World.news_of_block nb7)
     have hsm7 := hsm6.below hb7
     have hbo7 : Below Z wr w7 := HBZ.out.trans ⟨hb7.os.trans hb6.os, hb7.tape.trans hb6.tape, hb7.output.trans hb6.output, Nat.le_trans hb6.size hb7.size, fun k hk => (hb7.block k (by have := hb6.size; have := HZZ.out.1; omega)).trans (hb6.block k (by have := HZZ.out.1; omega))⟩
     have hown7 := own_touch Y.out.2.2.1 (Touch.of_below (S := []) (by rw [HZZ.out.2]; exact hbo7)) (by simp)
     have H7 := Lib.hid (And.intro hown7 (And.intro hsm7 hbo7))
     clear hsm6 hsm7 hbo7 hown7 nb7
     refine wpAnyK_one (i := 7) (o := ⟨some 64, .buildSlice 78 1 #[(0, .tmp 63)], 78, "flac.go:157", #[⟨6, .data⟩], none⟩) (by kernel_rfl) rfl (fun KK hKK => ?_)
     go_simp
     refine hKK.out _ _ (⟨g6c, z0c, z1c, z2c, z3c, z4c, z5c, z6c, z7c, z8c⟩) (fun HS2 => ?_)
     clear hKK KK
     (try simp only [Act.put, List.setIfInBounds_toArray, List.set_cons_zero, List.set_cons_succ])
     refine wpAnyK_one (i := 8) (o := ⟨some 65, .call ⟨.builtin .append, #[.tmp 61, .tmp 64], #[78, 78]⟩, 78, "flac.go:157", #[⟨4, .data⟩, ⟨7, .data⟩, ⟨6, .chain⟩], none⟩) (by kernel_rfl) rfl (fun KK hKK => ?_)
     refine step_append_lies _ rfl (.tmp 61) (.tmp 64) 78 rfl M 86 ip (.pointer none) 1 8 Tryz.underlying78 HP.out.1 HP.out.2.1 HP.out.2.2.1 HP.out.2.2.2 rfl (by decide) sv j ps rfl H7.out.1 ⟨w6.heap.size, 0, none⟩ 1 1 [.pointer (some ⟨gs, 0, none⟩)] rfl rfl HN7.out (by simp [Value.oneCell']) (by decide) (by unfold maxLen; omega) (by omega) (by have h1 := hb6.size; have h2 := hb7.size; have h3 := HZZ.out.1; omega) _ rfl ?_
     intro gsb cb8 w8 hO8 hG8 hA8 hL8
     have hgf7 := H7.out.2.2.block (M + 1) hM1Z ▸ Y.out.2.1
     have hzz7 : w7.heap[Z]? = some (.cells #[.int .i64 s.K, .int .i64 s.o, .int .i64 0, .slice (some ⟨gx, 0, none⟩) s.xs.length cx, .slice none 0 0, .int .i64 0, .int .i64 0, .int .i64 0, .slice (some ⟨gq, 0, none⟩) 1 cq] 59 (0, 0)) := by
      have h1 := HZB.out
      have h2 := (Array.getElem?_eq_some_iff.1 h1).1
      exact (hb7.block Z (by have := hb6.size; omega)).trans ((hb6.block Z h2).trans h1)
     have hty := own_ty H7.out.1
     have hn1 : some (M + 1) ≠ sv.ownBlock := own_ne H7.out.1 hgf7 (by decide)
     have hn2 : some Z ≠ sv.ownBlock := own_ne H7.out.1 hzz7 (by decide)
     have hgf8 : w8.heap[M + 1]? = some (.cells (mkCells f.vr f.sz rt ch bp sv) 85 (0, 0)) := (hG8.block _ (Array.getElem?_eq_some_iff.1 hgf7).1 hn1).trans hgf7
     have hzz8 : w8.heap[Z]? = some (.cells #[.int .i64 s.K, .int .i64 s.o, .int .i64 0, .slice (some ⟨gx, 0, none⟩) s.xs.length cx, .slice none 0 0, .int .i64 0, .int .i64 0, .int .i64 0, .slice (some ⟨gq, 0, none⟩) 1 cq] 59 (0, 0)) := (hG8.block _ (Array.getElem?_eq_some_iff.1 hzz7).1 hn2).trans hzz7
     have g6d : w8.cell? ⟨M + 1, 6, none⟩ = some sv := by rw [cell_of_row w8 (M + 1) 6 _ _ _ hgf8]; rfl
     have fz6 : w8.frozen? ⟨M + 1, 6, none⟩ = false := by simp [World.frozen?, hgf8]
     have z0d : w8.cell? ⟨Z, 0, none⟩ = some (.int .i64 s.K) := by rw [cell_of_row w8 Z 0 _ _ _ hzz8]; rfl
     have z1d : w8.cell? ⟨Z, 1, none⟩ = some (.int .i64 s.o) := by rw [cell_of_row w8 Z 1 _ _ _ hzz8]; rfl
     have z2d : w8.cell? ⟨Z, 2, none⟩ = some (.int .i64 0) := by rw [cell_of_row w8 Z 2 _ _ _ hzz8]; rfl
     have z3d : w8.cell? ⟨Z, 3, none⟩ = some (.slice (some ⟨gx, 0, none⟩) s.xs.length cx) := by rw [cell_of_row w8 Z 3 _ _ _ hzz8]; rfl
     have z4d : w8.cell? ⟨Z, 4, none⟩ = some (.slice none 0 0) := by rw [cell_of_row w8 Z 4 _ _ _ hzz8]; rfl
     have z5d : w8.cell? ⟨Z, 5, none⟩ = some (.int .i64 0) := by rw [cell_of_row w8 Z 5 _ _ _ hzz8]; rfl
     have z6d : w8.cell? ⟨Z, 6, none⟩ = some (.int .i64 0) := by rw [cell_of_row w8 Z 6 _ _ _ hzz8]; rfl
     have z7d : w8.cell? ⟨Z, 7, none⟩ = some (.int .i64 0) := by rw [cell_of_row w8 Z 7 _ _ _ hzz8]; rfl
     have z8d : w8.cell? ⟨Z, 8, none⟩ = some (.slice (some ⟨gq, 0, none⟩) 1 cq) := by rw [cell_of_row w8 Z 8 _ _ _ hzz8]; rfl
     have H8 := Lib.hid (And.intro hO8 (And.intro (grown_touch hG8) (And.intro hgf8 (And.intro hgf7 hty))))
     clear hO8 hG8 hA8 hgf7 hzz7 hgf8 hzz8 hn1 hn2 hty
     refine hKK.out _ _ (⟨g6d, z0d, z1d, z2d, z3d, z4d, z5d, z6d, z7d, z8d⟩) (fun HS3 => ?_)
     clear hKK KK
     (try simp only [Act.put, List.setIfInBounds_toArray, List.set_cons_zero, List.set_cons_succ])
     refine wpAnyK_one (i := 9) (o := ⟨some 66, .nilCheck (.tmp 57), 0, "flac.go:157", #[⟨0, .data⟩, ⟨0, .phase⟩, ⟨1, .phase⟩, ⟨2, .phase⟩, ⟨3, .phase⟩, ⟨4, .phase⟩, ⟨5, .phase⟩, ⟨6, .phase⟩, ⟨7, .phase⟩, ⟨8, .phase⟩], none⟩) (by kernel_rfl) rfl (fun KK hKK => ?_)
     go_simp
     refine hKK.out _ _ (⟨g6d, z0d, z1d, z2d, z3d, z4d, z5d, z6d, z7d, z8d⟩) (fun HS4 => ?_)
     clear hKK KK
     (try simp only [Act.put, List.setIfInBounds_toArray, List.set_cons_zero, List.set_cons_succ])
     refine wpAnyK_one (i := 10) (o := ⟨some 67, .fieldAddr 85 (.tmp 66) 1, 0, "flac.go:157", #[⟨9, .data⟩, ⟨0, .phase⟩, ⟨1, .phase⟩, ⟨2, .phase⟩, ⟨3, .phase⟩, ⟨4, .phase⟩, ⟨5, .phase⟩, ⟨6, .phase⟩, ⟨7, .phase⟩, ⟨8, .phase⟩], none⟩) (by kernel_rfl) rfl (fun KK hKK => ?_)
     go_simp
     refine hKK.out _ _ (⟨g6d, z0d, z1d, z2d, z3d, z4d, z5d, z6d, z7d, z8d⟩) (fun HS5 => ?_)
     clear hKK KK
     (try simp only [Act.put, List.setIfInBounds_toArray, List.set_cons_zero, List.set_cons_succ])
     refine wpAnyK_last (o := ⟨none, .store 78 (.tmp 67) (.tmp 65), 0, "flac.go:157", #[⟨10, .data⟩, ⟨8, .data⟩, ⟨8, .chain⟩, ⟨0, .phase⟩, ⟨1, .phase⟩, ⟨2, .phase⟩, ⟨3, .phase⟩, ⟨4, .phase⟩, ⟨5, .phase⟩, ⟨6, .phase⟩, ⟨7, .phase⟩, ⟨8, .phase⟩], none⟩) (by kernel_rfl) rfl (fun KK hKK => ?_)
     go_simp
     refine hKK.out _ _ ?_
     clear hKK KK
     (try simp only [Act.put, List.setIfInBounds_toArray, List.set_cons_zero, List.set_cons_succ])
     refine wpAnyK_done (by kernel_rfl) ?_ _
     go_wp2_with fail
     have hs7 : f.subs.getD ps.length ⟨0, 0, []⟩ = s := by rw [Y.out.1]; exact HS.out.1
     have hp7 := (Y.out.2.2.2.1.below (w' := w7) (by rw [HZZ.out.2]; exact H7.out.2.2)).snoc hs7 H7.out.2.1
     have hT7 : TyF w7 ((M + 1) :: sv.ownBlock.toList) := by
      intro k hk
      rcases List.mem_cons.1 hk with rfl | hk
      ·exact ⟨_, _, _, H8.out.2.2.2.1, by decide⟩
      ·obtain ⟨_, cs, h⟩ := H8.out.2.2.2.2 k hk; exact ⟨_, _, _, h, by decide⟩
     have t78 : Touch ((M + 1) :: sv.ownBlock.toList) w7 w8 := H8.out.2.1.mono (fun k _ hk => by simp [hk])
     have t79 := t78.setCell (p := ⟨M + 1, 6, none⟩) (.inl (by simp)) (.slice (some ⟨gsb, 0, none⟩) (j + 1) cb8)
     have hb7o : Below M wo w7 := Y.out.2.2.2.2.trans ⟨H7.out.2.2.os, H7.out.2.2.tape, H7.out.2.2.output, H7.out.2.2.size, fun k hk => H7.out.2.2.block k (by omega)⟩
     have hne : gsb ≠ M + 1 := by
      obtain ⟨_, cs, h⟩ := own_ty H8.out.1 gsb (by simp [Value.ownBlock])
      exact blk_ne h H8.out.2.2.1 (by decide)
     refine ⟨⟨j + 1, .slice (some ⟨gsb, 0, none⟩) (j + 1) cb8, ps ++ [.pointer (some ⟨gs, 0, none⟩)], by omega, by simp, by simp [Y.out.1], by rw [blk_set H8.out.2.2.1 6]; rfl, own_touch H8.out.1 ((Touch.refl [M + 1] w8).setCell (p := ⟨M + 1, 6, none⟩) (.inl (by simp)) _) (fun k hk => by
      simp [Value.ownBlock] at hk
      subst hk
      simpa using hne), hp7.touch t79 hT7, ?_⟩, by simp [intOf]; omega⟩
     have h9 := t79.below (w0 := wo) (by rw [HM.out]; exact hb7o) (fun k hk => by
      rw [HM.out]
      rcases List.mem_cons.1 hk with rfl | hk
      ·omega
      ·exact (H8.out.2.2.2.2 k hk).1)
     rw [HM.out] at h9; exact h9
    ·obtain rfl : j = n := by omega
     have hj0 : 0 < j := by have h1 := HN.out; have h2 := HF.out.2.1.n; omega
     obtain ⟨gsb, cap, cs, hv, hgsb, hcsb, hcs⟩ := own_cells Y.out.2.2.1 hj0
     subst hv
     have hjnc : j = nc := by have h1 := HN.out; have h2 := HF.out.2.1.n; have h3 := HNC.out; omega
     have hsub : SubsMem wr cs f.subs := fun k hk => by
      obtain ⟨gs, ga, gr, gp, h1, h2⟩ := Y.out.2.2.2.1 k (by rw [Y.out.1, ← HN.out]; exact hk)
      refine ⟨gs, ga, gr, gp, ?_, ?_⟩
      ·rw [hcs k (by rw [← HN.out]; exact hk), List.getElem?_eq_getElem (by rw [Y.out.1, ← HN.out]; exact hk), h1]
      ·rw [List.getD_eq_getElem?_getD, List.getElem?_eq_getElem hk] at h2; exact h2
     subst hjnc
     have hbo : Below wo.heap.size wo wr := by rw [HM.out]; exact Y.out.2.2.2.2
     have hbufr := X.out.2.2.1.move (U := []) (Touch.of_below hbo) (by simp)
     have hEr := X.out.2.2.2.1.below hbo
     have HWF := Lib.hid (write_frame (gf := M + 1) (vr := f.vr) (sz := f.sz) (nm := 0) hEr Y.out.2.1 hcsb hsub hbufr)
     have hil : i < fs.length := by rw [HNF.out]; exact hlt
     have hI : (I ++ Fs.flatten).length ≤ 1000000000000 := by
      have h1 := frames_len X.out.2.1 HH.out.2.2.1 hch (by rw [X.out.1, HNF.out]; omega)
      have h2 := congrArg List.length X3.out.2.2.2.1
      have h3 := infoBits_len rt j bp ns
      rw [bytesBits_len] at h2
      rw [List.length_append]
      have h4 := X.out.1
      omega
     have hwf := HWF.out (by rw [← HSZ.out]; exact Nat.le_trans X.out.2.2.2.2.size hbo.size) hgeN (by have := X.out.2.2.2.2.size; have h2 := HM.out; have h3 := HSZ.out; omega) hI HF.out.2.1.s0 HF.out.2.1.s1 HH.out.1 hch HH.out.2.1 HNC.out.symm HN.out HF.out.2.1.ok (by have := curAt_le fs ch bp HH.out.2.2.1 i; omega) (by have := samAt_le fs ch bp HH.out.2.2.1 i; omega) (NCh.below (NCh.below HH.out.2.2.2.2 X.out.2.2.2.2 (by rw [← HSZ.out]; exact HH.out.2.2.2.2.lt)) (B := N) ⟨hbo.os, hbo.tape, hbo.output, hbo.size, fun k hk => hbo.block k (Nat.lt_of_lt_of_le hk (by rw [← HSZ.out]; exact X.out.2.2.2.2.size))⟩ (by rw [← HSZ.out]; exact HH.out.2.2.2.2.lt)) (by rw [← HSZ.out]; exact HH.out.2.2.2.2.lt)
     have HWF2 := Lib.hid hwf
     clear hwf HWF hI hbufr hEr hbo hsub hcsb hcs
     go_wp2_with fail
     refine HWF2.out.mono ?_
     rintro e w9 ⟨rfl, F, hF, hbuf9, hE9, hk9⟩
     have X9 := Lib.hid (And.intro hF (And.intro hbuf9 (And.intro hE9 hk9)))
     clear hF hbuf9 hE9 hk9 HWF2
     go_wp2_with fail
     have hFl : FrameIs F (fs.getD Fs.length ⟨false, 0, []⟩).vr (fs.getD Fs.length ⟨false, 0, []⟩).sz rt ch bp (curAt fs Fs.length) (fs.getD Fs.length ⟨false, 0, []⟩).subs := by rw [X.out.1, HF.out.1]; exact X9.out.1
     have hbw : Below N w w9 := X.out.2.2.2.2.trans (Below.trans ⟨by rw [← HSZ.out] at *; exact Y.out.2.2.2.2.os, Y.out.2.2.2.2.tape, Y.out.2.2.2.2.output, Y.out.2.2.2.2.size, fun k hk => Y.out.2.2.2.2.block k (Nat.lt_of_lt_of_le hk (by rw [← HSZ.out, ← HM.out]; exact X.out.2.2.2.2.size))⟩ X9.out.2.2.2.bel)
     refine ⟨⟨i + 1, Fs ++ [F], by omega, by simp, by simp [X.out.1], X.out.2.1.snoc hFl, ?_, ?_, hbw⟩, by simp [intOf]; omega⟩
     ·have h := X9.out.2.1
      rw [List.flatten_append, List.flatten_cons, List.flatten_nil, List.append_nil, ← List.append_assoc]; exact h
     ·rw [curAt, samAt, HF.out.1]; exact X9.out.2.2.1
  ·obtain rfl : i = nf := by omega
   go_wp2_with fail
   have hXl := X.out.1
   obtain ⟨P, hP⟩ : ∃ P, I ++ Fs.flatten = P := ⟨_, rfl⟩
   have hPl : P.length ≤ 1000000000000 := by
    have h1 := frames_len X.out.2.1 HH.out.2.2.1 hch (by rw [X.out.1, HNF.out]; omega)
    have h2 := congrArg List.length X3.out.2.2.2.1
    have h3 := infoBits_len rt nc bp ns
    rw [bytesBits_len] at h2
    rw [← hP, List.length_append]
    omega
   have hbufP := X.out.2.2.1
   rw [hP] at hbufP
   have HP := Lib.hid hP
   have hb2 : Buf N (N + 1) (wo.alloc (.cells #[] 5)) P := Lib.IsBuffer.alloc hbufP _
   have hbe2 : Below wo.heap.size wo (wo.alloc (.cells #[] 5)) := below_alloc (Below.refl _ _) _
   have hlit := World.ownsRow_lit (base := wo.heap.size) (e := 5) (size := 1) wo #[] 0 (Nat.le_refl _) (by unfold maxLen; omega) (by simp)
   have HB2 := Lib.hid hb2
   have HBE2 := Lib.hid hbe2
   have HLIT := Lib.hid hlit
   clear hb2 hbe2 hlit hP hbufP
   refine (Tryz.Buffer_Bytes N (N + 1) (nums .u8 P) _ HB2.out).mono ?_
   rintro e w3 ⟨x, rfl, hox, q, rfl⟩
   rw [nums_length] at hox
   obtain ⟨A2, c2, rfl, hR2⟩ := own_reads hox
   have HR2 := Lib.hid hR2
   clear hox hR2
   go_wp2_with (with_reducible refine stop_dst (N := 80) rfl ?_)
   refine unstop ?_
   refine print_append_row (w0 := wo) wo.heap.size rfl (.tmp 78) (.tmp 79) 23 5 .u8 1 rfl Tryz.underlying23 infoU8 (by decide) _ [] P A2 P.length c2 rfl rfl ?aO ?aR ?aB ?aS ?aL ?_
   case aO => exact HLIT.out
   case aR => exact HR2.out
   case aB => exact below_drewN HBE2.out q
   case aS => exact HBE2.out.size
   case aL => simp; omega
   intro v3 w3 hO3 hB3 _ _
   rw [List.nil_append] at hO3
   obtain ⟨q1, q2, k1, k2, e1⟩ := X.out.2.2.2.1.enc
   have e3 := (hB3.block ge (Array.getElem?_eq_some_iff.1 e1).1).trans e1
   have cl1 : w3.cell? ⟨ge, 1, none⟩ = some (.iface 69 (.pointer (some ⟨N + 1, 0, none⟩))) := by rw [cell_of_row w3 ge 1 _ _ _ e3]; rfl
   have HCL := Lib.hid (enc_close ge (N + 1) w3 cl1)
   have X4 := Lib.hid (And.intro hO3 hB3)
   clear hO3 hB3 e1 e3 cl1
   go_wp2_with fail
   refine HCL.out.mono ?_
   rintro e w4 ⟨rfl, rfl⟩
   go_wp2_with fail
   refine (code_nil _).mono ?_
   rintro e w4 ⟨rfl, rfl⟩
   go_wp2_with fail
   go_ret2
   have hbw : Below w.heap.size w w3 := by
    have h1 := X.out.2.2.2.2
    have h2 := X4.out.2
    rw [HSZ.out]
    exact h1.trans ⟨h2.os, h2.tape, h2.output, h2.size, fun k hk => h2.block k (Nat.lt_of_lt_of_le hk (by rw [← HSZ.out]; exact h1.size))⟩
   obtain ⟨hn3, hrow⟩ := X4.out.1
   have hown : w3.ownsRow w.heap.size 5 1 v3 P.length (nums .u8 P) := ⟨hn3, hrow.imp id (fun ⟨g, cap, cur, k1, k2, k3⟩ => ⟨g, cap, cur, k1, Nat.le_trans X.out.2.2.2.2.size k2, k3⟩)⟩
   refine ⟨hbw, v3, I, Fs, rfl, X3.out.2.2.2.1, X3.out.2.2.2.2, X.out.1, X.out.2.1, ?_⟩
   rw [HP.out]; exact hown
end Go.Proofs.YtmcllndnjdemaaaGreatDoor.Walk
