/- io.TeeReader: a source whose bytes are handed on to a sum; the two sums as such receivers. -/
import Derived.Test.YtcdfbcanebjmfaaDoorFull
import Derived.Test.YtcdfbcanebjmfaaDoorCrcB
import Derived.Deep.RegionWith
namespace Go.Proofs.YtcdfbcanebjmfaaDoor.Walk
set_option linter.unusedVariables false
set_option linter.unusedSimpArgs false
open Go Go.RowKit Go.Proofs.YtcdfbcanebjmfaaDoorW.PrintWords Go.Proofs.YtcdfbcanebjmfaaDoor.Crc

/-- A receiver of bytes: a value of dynamic type ty at block g, whose method Write is function fn; Kt w ys: in w it has had the bytes ys. -/
structure Snk (ty fn g : Nat) (S D : List Nat) (Kt : World → List Int → Prop) : Prop where
  nilA : ∀ w : World, (nilAhead 264 ty (.pointer (some ⟨g, 0, none⟩)) "Write").run Tryd.prog w = .ok (some false) w
  meth : ∀ w : World, (method 264 ty (.pointer (some ⟨g, 0, none⟩)) "Write").run Tryd.prog w = .ok (fn, .pointer (some ⟨g, 0, none⟩)) w
  call : ∀ (args : Array Value) (w : World), Sem.run Tryd.prog (callFunc fn args) w = .ok (Next.enter fn args) w
  move : ∀ (U : List Nat) (w w' : World) (ys : List Int), Kt w ys → (∀ k ∈ U, k ∉ D) → Touch U w w' → Kt w' ys
  sub : ∀ k ∈ S, k ∈ D
  write : ∀ (w : World) (ys xs : List Int) (A : Addr) (n c : Nat), Kt w ys → (∀ x ∈ xs, 0 ≤ x ∧ x ≤ 255) → ReadsInt w .u8 (some A) n xs →
    Calls Tryd.prog fn #[.pointer (some ⟨g, 0, none⟩), .slice (some A) n c] w fun e w' => e = .returned (.tuple #[.int .i64 n, .nilIface]) ∧ Touch S w w' ∧ Kt w' (ys ++ xs)

theorem up8_append (t : Nat → Int) (c : Int) (a b : List Int) : up8 t (up8 t c a) b = up8 t c (a ++ b) := by unfold up8; rw [List.foldl_append]
theorem up16_append (t : Nat → Int) (c : Int) (a b : List Int) : up16 t (up16 t c a) b = up16 t c (a ++ b) := by unfold up16; rw [List.foldl_append]
/-- The sum of a header at block gd, with its table at block gt. -/
def Dig8 (gd gt : Nat) (w : World) (ys : List Int) : Prop :=
  w.heap[gd]? = some (.cells #[.int .u8 (up8 (f8 7) 0 ys), .pointer (some ⟨gt, 0, none⟩)] 138 (0, 0)) ∧ w.heap[gt]? = some (.cells (tabA .u8 (f8 7) 256) 140 (0, 0))
def Dig16 (gd gt : Nat) (w : World) (ys : List Int) : Prop :=
  w.heap[gd]? = some (.cells #[.int .u16 (up16 (f16 32773) 0 ys), .pointer (some ⟨gt, 0, none⟩)] 119 (0, 0)) ∧ w.heap[gt]? = some (.cells (tabA .u16 (f16 32773) 256) 121 (0, 0))

set_option maxHeartbeats 2000000 in
set_option maxRecDepth 100000 in
theorem dig8_snk (gd gt : Nat) (hne : gd ≠ gt) : Snk 136 79 gd [gd] [gd, gt] (Dig8 gd gt) where
  nilA := fun w => by kernel_rfl
  meth := fun w => by kernel_rfl
  call := fun args w => by kernel_rfl
  move := by
    rintro U w w' ys ⟨h1, h2⟩ hU ht
    exact ⟨ht.heap h1 (fun hm => hU _ hm (by simp)), ht.heap h2 (fun hm => hU _ hm (by simp))⟩
  sub := by simp
  write := by
    rintro w ys xs A n c ⟨h1, h2⟩ hb hr
    have c0 : w.cell? ⟨gd, 0, none⟩ = some (.int .u8 (up8 (f8 7) 0 ys)) := by rw [cell_of_row w gd 0 _ _ _ h1]; rfl
    have c1 : w.cell? ⟨gd, 1, none⟩ = some (.pointer (some ⟨gt, 0, none⟩)) := by rw [cell_of_row w gd 1 _ _ _ h1]; rfl
    have f0 : w.frozen? ⟨gd, 0, none⟩ = false := by simp [World.frozen?, h1]
    have hup := upd8 (f8 7) (up8 (f8 7) 0 ys) gt (some A) n c xs w.drew hr h2
    rw [up8_append] at hup
    have hup2 := hup.mono (R' := fun e w'' => e = _ ∧ w'' = w.drew) (fun e w' h => ⟨h.1, h.2.symm⟩)
    have HUP := Lib.hid hup2
    clear hup2
    have H1 := Lib.hid h1
    have H2 := Lib.hid h2
    clear h1 h2 hb hr hup
    go_enter Tryd.func79, Tryd.ntmps79
    go_wp2_with fail
    refine wp_region_still_tail 11 (by kernel_rfl) (by kernel_rfl) ?_
    simp only [List.take_succ_cons, List.take_zero, List.drop_succ_cons, List.drop_zero]
    repeat still_step
    still_call HUP.out
    refine wpStill_nil ?_
    change wpList _ _ _ _ _ w.drew
    obtain ⟨wd, hwd⟩ : ∃ wd, w.drew = wd := ⟨_, rfl⟩
    have f0' : wd.frozen? ⟨gd, 0, none⟩ = false := by rw [← hwd]; exact f0
    have c0' : ∃ v, wd.cell? ⟨gd, 0, none⟩ = some v := by rw [← hwd]; exact ⟨_, c0⟩
    obtain ⟨v0, c0'⟩ := c0'
    have h1' := H1.out
    have h2' := H2.out
    change w.drew.heap[gd]? = _ at h1'
    change w.drew.heap[gt]? = _ at h2'
    rw [hwd] at h1' h2'
    have H1' := Lib.hid h1'
    have H2' := Lib.hid h2'
    clear h1' h2'
    have HT := Lib.hid (show Touch [gd] w wd by rw [← hwd]; exact (Touch.refl _ _).drew)
    rw [hwd]
    clear hwd c0 c1 f0
    go_wp2_with fail
    go_ret2
    refine ⟨rfl, HT.out.setCell (.inl (by simp)) _, ?_, ?_⟩
    · rw [blk_set H1'.out 0]; rfl
    · exact blk_far H2'.out (Ne.symm hne) _

set_option maxHeartbeats 2000000 in
set_option maxRecDepth 100000 in
theorem dig16_snk (gd gt : Nat) (hne : gd ≠ gt) : Snk 117 71 gd [gd] [gd, gt] (Dig16 gd gt) where
  nilA := fun w => by kernel_rfl
  meth := fun w => by kernel_rfl
  call := fun args w => by kernel_rfl
  move := by
    rintro U w w' ys ⟨h1, h2⟩ hU ht
    exact ⟨ht.heap h1 (fun hm => hU _ hm (by simp)), ht.heap h2 (fun hm => hU _ hm (by simp))⟩
  sub := by simp
  write := by
    rintro w ys xs A n c ⟨h1, h2⟩ hb hr
    have c0 : w.cell? ⟨gd, 0, none⟩ = some (.int .u16 (up16 (f16 32773) 0 ys)) := by rw [cell_of_row w gd 0 _ _ _ h1]; rfl
    have c1 : w.cell? ⟨gd, 1, none⟩ = some (.pointer (some ⟨gt, 0, none⟩)) := by rw [cell_of_row w gd 1 _ _ _ h1]; rfl
    have f0 : w.frozen? ⟨gd, 0, none⟩ = false := by simp [World.frozen?, h1]
    have hup := upd16 (f16 32773) (up16 (f16 32773) 0 ys) (up16_range _ _ (by decide) _) gt (some A) n c xs w.drew hr hb h2
    rw [up16_append] at hup
    have hup2 := hup.mono (R' := fun e w'' => e = _ ∧ w'' = w.drew) (fun e w' h => ⟨h.1, h.2.symm⟩)
    have HUP := Lib.hid hup2
    clear hup2
    have H1 := Lib.hid h1
    have H2 := Lib.hid h2
    clear h1 h2 hb hr hup
    go_enter Tryd.func71, Tryd.ntmps71
    go_wp2_with fail
    refine wp_region_still_tail 11 (by kernel_rfl) (by kernel_rfl) ?_
    simp only [List.take_succ_cons, List.take_zero, List.drop_succ_cons, List.drop_zero]
    repeat still_step
    still_call HUP.out
    refine wpStill_nil ?_
    change wpList _ _ _ _ _ w.drew
    obtain ⟨wd, hwd⟩ : ∃ wd, w.drew = wd := ⟨_, rfl⟩
    have f0' : wd.frozen? ⟨gd, 0, none⟩ = false := by rw [← hwd]; exact f0
    have c0' : ∃ v, wd.cell? ⟨gd, 0, none⟩ = some v := by rw [← hwd]; exact ⟨_, c0⟩
    obtain ⟨v0, c0'⟩ := c0'
    have h1' := H1.out
    have h2' := H2.out
    change w.drew.heap[gd]? = _ at h1'
    change w.drew.heap[gt]? = _ at h2'
    rw [hwd] at h1' h2'
    have H1' := Lib.hid h1'
    have H2' := Lib.hid h2'
    clear h1' h2'
    have HT := Lib.hid (show Touch [gd] w wd by rw [← hwd]; exact (Touch.refl _ _).drew)
    rw [hwd]
    clear hwd c0 c1 f0
    go_wp2_with fail
    go_ret2
    refine ⟨rfl, HT.out.setCell (.inl (by simp)) _, ?_, ?_⟩
    · rw [blk_set H1'.out 0]; rfl
    · exact blk_far H2'.out (Ne.symm hne) _

/-- A tee at block gt: what is read of the source at g is handed on to the receiver at k. -/
def TeeSt (gt ty g kty k : Nat) (l : List Int) (St : World → Nat → Prop) (Kt : World → List Int → Prop) (w : World) (p : Nat) : Prop :=
  w.heap[gt]? = some (.cells #[.iface ty (.pointer (some ⟨g, 0, none⟩)), .iface kty (.pointer (some ⟨k, 0, none⟩))] 90 (0, 0)) ∧ St w p ∧ Kt w (l.take p)

theorem reads_splice {w : World} {gb off k : Nat} {cur : List Value} {T : Nat} (xs : List Int) (hb : w.heap[gb]? = some (.cells (splice cur off (nums .u8 xs)).toArray T (0, 0))) (hk : xs.length = k) (hoff : off ≤ cur.length) (hm : k ≤ 9223372036854775807) :
    ReadsInt w .u8 (some ⟨gb, off, none⟩) k xs := by
  refine ⟨hk, hm, fun _ => ⟨_, rfl, fun j hj => ?_⟩⟩
  rw [add_at, cell_of_row w gb _ _ _ _ hb, List.getElem?_toArray]
  unfold splice
  rw [List.getElem?_append_right (by rw [List.length_take]; omega), List.length_take, Nat.min_eq_left hoff, Nat.add_sub_cancel_left,
    List.getElem?_append_left (by rw [nums_length]; omega)]
  simp only [nums, List.getElem?_map, List.getD_eq_getElem?_getD]
  rw [List.getElem?_eq_getElem (by omega)]; rfl

set_option maxHeartbeats 4000000 in
set_option maxRecDepth 100000 in
theorem tee_src {ty fn g kty kfn k gt : Nat} {S D S2 D2 : List Nat} {l : List Int} {St : World → Nat → Prop} {Kt : World → List Int → Prop} (R : Src ty fn g S D l St) (K : Snk kty kfn k S2 D2 Kt)
    (hby : ∀ x ∈ l, 0 ≤ x ∧ x ≤ 255) (hlen : l.length ≤ 9223372036854775807) (hgt : gt ∉ D) (hgt2 : gt ∉ D2) (hdj : ∀ a ∈ D, a ∉ D2) :
    Src 88 65 gt (S ++ S2) (gt :: (D ++ D2)) l (TeeSt gt ty g kty k l St Kt) where
  nilA := fun w => by kernel_rfl
  meth := fun w => by kernel_rfl
  call := fun args w => by kernel_rfl
  move := by
    rintro U w w' p ⟨h1, h2, h3⟩ hU ht
    exact ⟨ht.heap h1 (fun hm => hU _ hm (by simp)), R.move U w w' p h2 (fun k hk hd => hU k hk (by simp [hd])) ht, K.move U w w' _ h3 (fun k hk hd => hU k hk (by simp [hd])) ht⟩
  sub := by
    intro k hk
    rcases List.mem_append.1 hk with h | h
    · simp [R.sub k h]
    · simp [K.sub k h]
  le := by rintro w p ⟨_, h, _⟩; exact R.le w p h
  read := by
    rintro w p gb off m cb cur T ⟨h1, h2, h3⟩ hlt hb hfit hm hcb hg
    have hg1 : gb ≠ gt ∧ gb ∉ D ∧ gb ∉ D2 := by
      refine ⟨fun e => hg (by simp [e]), fun e => hg (by simp [e]), fun e => hg (by simp [e])⟩
    have hle := R.le w p h2
    obtain ⟨n, hn⟩ : ∃ n, min m (l.length - p) = n := ⟨_, rfl⟩
    have hn0 : 0 < n := by omega
    have hnm : n ≤ m := by omega
    obtain ⟨xs, hxs⟩ : ∃ xs, (l.drop p).take m = xs := ⟨_, rfl⟩
    have hxl : xs.length = n := by rw [← hxs, List.length_take, List.length_drop]; exact hn
    have c0 : w.cell? ⟨gt, 0, none⟩ = some (.iface ty (.pointer (some ⟨g, 0, none⟩))) := by rw [cell_of_row w gt 0 _ _ _ h1]; rfl
    have hrd := R.read w p gb off m cb cur T h2 hlt hb hfit hm hcb hg1.2.1
    rw [hn, hxs] at hrd
    have hbx : ∀ x ∈ xs, 0 ≤ x ∧ x ≤ 255 := fun x hx => hby x (by rw [← hxs] at hx; exact List.mem_of_mem_drop (List.mem_of_mem_take hx))
    have htk : l.take p ++ xs = l.take (p + n) := by
      rw [List.take_add, ← hxs]
      congr 1
      rw [List.take_eq_take_iff, List.length_drop]; omega
    have q1 := R.nilA
    have q2 := R.meth
    have q3 := R.call
    have q4 := K.nilA
    have q5 := K.meth
    have q6 := K.call
    have hcut : ∀ W : World, (Instr.slice 25 (.slice (some ⟨gb, off, none⟩) m cb) none (some (.int .i64 (n : Int))) none).run Tryd.prog W = .ok (.slice (some ⟨gb, off, none⟩) n cb) W := by
      obtain ⟨i0, hi, hz⟩ := Option.map_eq_some_iff.1 sizeU8
      have h := cut_to (P := Tryd.prog) 25 5 .i64 Tryd.underlying25 hi (some ⟨gb, off, none⟩) m cb (n : Int) (by omega) (by omega) hcb
      rw [Int.toNat_natCast] at h; exact h
    have hpos : decide ((0 : Int) < (n : Int)) = true := decide_eq_true (by omega)
    have HN63 := Lib.hid (show n ≤ 9223372036854775807 by omega)
    rw [hn, hxs]
    have HRD := Lib.hid hrd
    have H1 := Lib.hid h1
    have H3 := Lib.hid h3
    have HBX := Lib.hid hbx
    have HTK := Lib.hid htk
    have HXL := Lib.hid hxl
    clear hrd h1 h2 h3 hb hg hn hxs hxl hbx htk hby hlen
    go_enter Tryd.func65, Tryd.ntmps65
    go_wp2_with fail
    refine HRD.out.mono ?_
    rintro e w1 ⟨rfl, ht, hs, hb1⟩
    have h1' := ht.heap H1.out (fun hm => by
      rcases List.mem_cons.1 hm with h | h
      · exact hg1.1 h.symm
      · exact hgt (R.sub _ h))
    have c1 : w1.cell? ⟨gt, 1, none⟩ = some (.iface kty (.pointer (some ⟨k, 0, none⟩))) := by rw [cell_of_row w1 gt 1 _ _ _ h1']; rfl
    have h3' := K.move (gb :: S) w w1 _ H3.out (fun a ha => by
      rcases List.mem_cons.1 ha with h | h
      · rw [h]; exact hg1.2.2
      · exact hdj a (R.sub a h)) ht
    have hr1 := reads_splice xs hb1 HXL.out (by omega) HN63.out
    have hwr := K.write w1.drew (l.take p) xs ⟨gb, off, none⟩ n cb (K.move [] w1 _ _ h3' (by simp) ((Touch.refl _ _).drew)) HBX.out hr1
    rw [HTK.out] at hwr
    have HWR := Lib.hid hwr
    have X := Lib.hid (And.intro ht (And.intro hs (And.intro hb1 h1')))
    clear ht hs hb1 h1' h3' hr1 hwr c0
    go_wp2_with fail
    go_region_with (first | (refine HWR.out.mono ?_; rintro e w2 ⟨rfl, ht2, hk2⟩))
    all_goals
      have Y := Lib.hid (And.intro ht2 hk2)
      clear ht2 hk2
      go_wp2_with fail
      go_ret2
      have tw : Touch (gb :: (S ++ S2)) w w2 := (X.out.1.mono (fun a _ ha => by
        rcases List.mem_cons.1 ha with h | h
        · simp [h]
        · simp [h])).trans (((Touch.refl _ _).drew).trans (Y.out.1.mono (fun a _ ha => by simp [ha])))
      have t2 : Touch S2 w1 w2 := ((Touch.refl S2 w1).drew).trans Y.out.1
      refine ⟨rfl, tw, ⟨?_, ?_, Y.out.2⟩, ?_⟩
      · exact t2.heap X.out.2.2.2 (fun hm => hgt2 (K.sub _ hm))
      · exact R.move S2 w1 w2 _ X.out.2.1 (fun a ha hd => hdj a hd (K.sub a ha)) t2
      · exact t2.heap X.out.2.2.1 (fun hm => hg1.2.2 (K.sub _ hm))
  eof := by
    rintro w p b E ⟨h1, h2, h3⟩ hle hE
    have c0 : w.cell? ⟨gt, 0, none⟩ = some (.iface ty (.pointer (some ⟨g, 0, none⟩))) := by rw [cell_of_row w gt 0 _ _ _ h1]; rfl
    have q1 := R.nilA
    have q2 := R.meth
    have q3 := R.call
    have HRD := Lib.hid (R.eof w p b E h2 hle hE)
    have H1 := Lib.hid h1
    have H3 := Lib.hid h3
    clear h1 h2 h3
    go_enter Tryd.func65, Tryd.ntmps65
    go_wp2_with fail
    refine HRD.out.mono ?_
    rintro e w1 ⟨rfl, ht, hs⟩
    have X := Lib.hid (And.intro ht hs)
    clear ht hs
    go_wp2_with fail
    go_ret2
    refine ⟨rfl, X.out.1.mono (fun k _ hk => by simp [hk]), X.out.1.heap H1.out (fun hm => hgt (R.sub _ hm)), X.out.2, K.move S w w1 _ H3.out (fun k hk => hdj k (R.sub k hk)) X.out.1⟩
end Go.Proofs.YtcdfbcanebjmfaaDoor.Walk
