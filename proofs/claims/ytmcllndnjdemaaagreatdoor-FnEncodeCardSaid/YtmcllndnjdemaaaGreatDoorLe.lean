/- The law FnEncode. -/
import Derived.Test.YtmcllndnjdemaaaGreatDoorEcLe
import Derived.Test.YtmcllndnjdemaaaGreatDoorEc
import Derived.Test.YtmcllndnjdemaaaGreatDoorSt
namespace Go.Proofs.YtmcllndnjdemaaaGreatDoor.Walk
set_option linter.unusedVariables false
set_option linter.unusedSimpArgs false
open Go Go.RowKit Go.Proofs.YtmcllndnjdemaaaGreatDoorW.PrintWords Go.Proofs.YtmcllndnjdemaaaGreatDoorW.PrintLast Go.Proofs.YtmcllndnjdemaaaGreatDoorW.PrintMore Go.Proofs.YtmcllndnjdemaaaGreatDoor.Num Go.Proofs.YtmcllndnjdemaaaGreatDoor.Crc Go.Proofs.YtmcllndnjdemaaaGreatDoor.PFnEncode
theorem own_capMax {w : World} {base size n g c : Nat} {e : TypeId} {xs : List Value} (h : w.ownsRow base e size (.slice (some ⟨g, 0, none⟩) n c) n xs) : c ≤ 9223372036854775807 := by
 rcases h.2 with ⟨h0, _⟩ | ⟨g', cap, cur, hv, _, _, _, hc, _⟩
 ·cases h0
 ·injection hv with _ _ h3
  unfold maxLen at hc; omega
theorem flat_bytes {Fs : List (List Int)} (h : ∀ F ∈ Fs, ∀ x ∈ F, 0 ≤ x ∧ x ≤ 255) : ∀ x ∈ Fs.flatten, 0 ≤ x ∧ x ≤ 255 := fun x hx => by
 obtain ⟨F, h1, h2⟩ := List.mem_flatten.1 hx
 exact h F h1 x h2
theorem enc_cells {w : World} {N N2 N3 N4 gh ch ga ca gh2 ch2 ga2 ca2 m asg bp nch : Nat} {hs vs hs2 vs2 : List Value} {fs fe : List Fr} (oh : w.ownsRow N 32 6 (.slice (some ⟨gh, 0, none⟩) m ch) m hs) (hf : HeadsFull hs fs asg bp m) (oa : w.ownsRow N2 38 1 (.slice (some ⟨ga, 0, none⟩) m ca) m vs) (ra : AllRows w N2 vs fs m)
  (oh2 : w.ownsRow N3 32 6 (.slice (some ⟨gh2, 0, none⟩) m ch2) m hs2) (hf2 : HeadsAre hs2 fe m) (oa2 : w.ownsRow N4 38 1 (.slice (some ⟨ga2, 0, none⟩) m ca2) m vs2) (ra2 : AllRows w N4 vs2 fe m) (hfl : fs.length = m) (hraw : ∀ f ∈ fs, FrRaw f nch bp) (hel : fe.length = m) (hok : ∀ f ∈ fe, FrOk f asg bp)
  (heq : ∀ i, i < m → (fe.getD i F0).sz = (fs.getD i F0).sz ∧ ∀ q, q < nch → ((fe.getD i F0).subs.getD q ⟨0, 0, []⟩).xs = ((fs.getD i F0).subs.getD q ⟨0, 0, []⟩).xs) (hnch : nch = asg + 1) (k : Nat) (hk : k < m) :
  ∃ sz gk ck gs cs, 0 < sz ∧ sz ≤ 256 ∧ w.cell? ⟨gh, k * 6 + 1, none⟩ = some (.int .i64 (sz : Nat)) ∧ w.cell? ⟨gh2, k * 6 + 1, none⟩ = some (.int .i64 (sz : Nat)) ∧ w.cell? ⟨ga, k, none⟩ = some (.slice (some ⟨gk, 0, none⟩) nch ck) ∧ w.cell? ⟨ga2, k, none⟩ = some (.slice (some ⟨gs, 0, none⟩) nch cs) ∧
   ∀ q, q < nch → ∃ gx cx gy cy, w.cell? ⟨gk, q, none⟩ = some (.slice (some ⟨gx, 0, none⟩) sz cx) ∧ w.cell? ⟨gs, q, none⟩ = some (.slice (some ⟨gy, 0, none⟩) sz cy) ∧ ∀ j, j < sz → ∃ x, w.cell? ⟨gx, j, none⟩ = some (.int .i64 x) ∧ w.cell? ⟨gy, j, none⟩ = some (.int .i64 x) := by
 have m1 : fs.getD k F0 ∈ fs := by rw [List.getD_eq_getElem?_getD, List.getElem?_eq_getElem (by omega)]; exact List.getElem_mem (by omega)
 have m2 : fe.getD k F0 ∈ fe := by rw [List.getD_eq_getElem?_getD, List.getElem?_eq_getElem (by omega)]; exact List.getElem_mem (by omega)
 have r1 := hraw _ m1
 have r2 := hok _ m2
 have h1 := (heq k hk).1
 obtain ⟨sz, hsz⟩ : ∃ sz, (fs.getD k F0).sz = sz := ⟨_, rfl⟩
 have hs0 : 0 < sz := by rw [← hsz]; exact r1.s0
 obtain ⟨gk, ck, a1, a2⟩ := rows_cells oa ra k hk r1.n (by omega) hs0 (fun s hs => by rw [← hsz]; exact (r1.ok s hs).1)
 obtain ⟨gs, cs, a3, a4⟩ := rows_cells oa2 ra2 k hk (r2.n.trans hnch.symm) (by omega) hs0 (fun s hs => by rw [← hsz, ← h1]; exact (r2.ok s hs).1.len)
 refine ⟨sz, gk, ck, gs, cs, hs0, by rw [← hsz]; exact r1.s1, ?_, ?_, a1, a3, fun q hq => ?_⟩
 ·obtain ⟨_, _, _, k1, _⟩ := hf k hk
  rw [show (fs.getD k ⟨false, 0, []⟩).sz = sz from hsz] at k1
  exact own_cell oh k1
 ·have k1 := hf2 k hk
  rw [show (fe.getD k ⟨false, 0, []⟩).sz = sz from h1.trans hsz] at k1
  exact own_cell oh2 k1
 ·obtain ⟨gx, cx, b1, b2⟩ := a2 q hq
  obtain ⟨gy, cy, b3, b4⟩ := a4 q hq
  refine ⟨gx, cx, gy, cy, b1, b3, fun j hj => ⟨_, b2 j hj, ?_⟩⟩
  rw [← (heq k hk).2 q hq]; exact b4 j hj
set_option maxHeartbeats 16000000 in
set_option maxRecDepth 100000 in
theorem law_encode {flags n1 n2 n3 c1 c2 c3 : Nat} {A1 A2 A3 : Option Addr} {sizes data kinds : List Int} {w : World} (hfl : flags < 4294967296) (hs : ReadsInt w .u8 A1 n1 sizes) (hsc : n1 ≤ c1) (hsb : ∀ x ∈ sizes, 0 ≤ x ∧ x ≤ 255) (hd : ReadsInt w .u8 A2 n2 data) (hdc : n2 ≤ c2) (hdb : ∀ x ∈ data, 0 ≤ x ∧ x ≤ 255)
  (hk : ReadsInt w .u8 A3 n3 kinds) (hkc : n3 ≤ c3) (hkb : ∀ x ∈ kinds, 0 ≤ x ∧ x ≤ 255) (hnc : NCh w) :
  Calls Tryz.prog 3 #[.int .u32 flags, .slice A1 n1 c1, .slice A2 n2 c2, .slice A3 n3 c3] w fun e w' => e = .returned (.bool true) ∧ Below w.heap.size w w' := by
 have HA := Lib.hid (And.intro hs (And.intro hsb (And.intro hd (And.intro hdb (And.intro hk (And.intro hkb hnc))))))
 clear hs hsb hd hdb hk hkb hnc
 by_cases g1 : 2147483647 < n1
 ·go_enter Tryz.func3, Tryz.ntmps3
  go_wp2_with fail
  go_ret
  exact ⟨rfl, Below.refl _ _⟩
 by_cases g2 : 2147483647 < n2
 ·go_enter Tryz.func3, Tryz.ntmps3
  go_wp2_with fail
  go_ret
  exact ⟨rfl, Below.refl _ _⟩
 by_cases g3 : 2147483647 < n3
 ·go_enter Tryz.func3, Tryz.ntmps3
  go_wp2_with fail
  go_ret
  exact ⟨rfl, Below.refl _ _⟩
 by_cases g4 : 1000 < n2
 ·go_enter Tryz.func3, Tryz.ntmps3
  go_wp2_with fail
  go_ret
  exact ⟨rfl, Below.refl _ _⟩
 by_cases g5 : 100 < n3
 ·go_enter Tryz.func3, Tryz.ntmps3
  go_wp2_with fail
  go_ret
  exact ⟨rfl, Below.refl _ _⟩
 obtain ⟨N, hN⟩ : ∃ N, w.heap.size = N := ⟨_, rfl⟩
 obtain ⟨m, hm⟩ : ∃ m, min n1 3 = m := ⟨_, rfl⟩
 have hm3 : m ≤ 3 := by omega
 have HST := Lib.hid (stream_call (w := w) hfl HA.out.1 hsc HA.out.2.1 HA.out.2.2.1 hdc HA.out.2.2.2.1 (by omega) (by omega))
 rw [hm] at HST
 rw [hN] at HST ⊢
 clear hm
 go_enter Tryz.func3, Tryz.ntmps3
 go_wp2_with fail
 refine HST.out.mono ?_
 rintro e w1 ⟨hb1, rt, bp, asg, nch, d, fs, hs, vs, hv, av, ov, rfl, hrt, hbp, hasg, hnch, hd, hfl, oh, hhf, oa, hra, hfr, h16⟩
 obtain ⟨Ah, ch, rfl⟩ := own_slice oh
 obtain ⟨Aa, ca, rfl⟩ := own_slice oa
 have O0 := Lib.hid (And.intro oh oa)
 clear oh oa
 go_upto_region 6 with fail
 have oh := O0.out.1
 have oa := O0.out.2
 clear O0
 obtain ⟨G, hG⟩ : ∃ G, w1.heap.size = G := ⟨_, rfl⟩
 obtain ⟨w2, hw2⟩ : ∃ w2, w1.alloc (.cells #[.int .i64 16, .int .i64 4096, .int .i64 0, .int .i64 0, .int .i64 rt, .int .i64 nch, .int .i64 bp, .int .u64 d, .slice none 0 0] 26) = w2 := ⟨_, rfl⟩
 have hb2 : Below N w w2 := by rw [← hw2]; have h := hb1.alloc (by rw [← hN] at *; exact hb1.size) (.cells #[.int .i64 16, .int .i64 4096, .int .i64 0, .int .i64 0, .int .i64 rt, .int .i64 nch, .int .i64 bp, .int .u64 d, .slice none 0 0] 26); exact h
 have hG2 : w2.heap[G]? = some (.cells #[.int .i64 16, .int .i64 4096, .int .i64 0, .int .i64 0, .int .i64 rt, .int .i64 nch, .int .i64 bp, .int .u64 d, .slice none 0 0] 26 (0, 0)) := by rw [← hw2, ← hG]; exact heap_alloc_new _ _
 have t12 : Touch [] w1 w2 := by rw [← hw2]; exact (Touch.refl _ _).alloc _
 have hs2 : w2.heap.size = G + 1 := by rw [← hw2, World.size_alloc, hG]
 rw [hw2, hG]
 have oh2 := own_touch oh t12 (by simp)
 have oa2 := own_touch oa t12 (by simp)
 have hra2 := hra.touch t12 (by simp)
 have X2 := Lib.hid (And.intro hb2 (And.intro hG2 (And.intro oh2 (And.intro hhf (And.intro oa2 (And.intro hra2 (And.intro hfr h16)))))))
 have X3 := Lib.hid (And.intro hrt (And.intro hbp (And.intro hnch (And.intro hfl hs2))))
 clear hw2 hG hb1 hb2 hG2 t12 hs2 oh oh2 oa oa2 hra hra2 hhf hfr h16 hrt hbp hnch hfl HST
 by_cases hm0 : m = 0
 ·have em : ((m : Int) == 0) = true := by simp; omega
  go_wp2_with fail
  go_ret
  exact ⟨rfl, X2.out.1⟩
 have em : ((m : Int) == 0) = false := by simp; omega
 obtain ⟨gh, chh, hvh, hgh, hghl⟩ := X2.out.2.2.1.form (by omega)
 injection hvh with hvh1 hvh2 hvh3
 subst hvh1
 obtain ⟨ga, chaa, hva, hga, hgal⟩ := X2.out.2.2.2.2.1.form (by omega)
 injection hva with hva1 hva2 hva3
 subst hva1
 have a3 : w2.cell? ⟨gh, 3, none⟩ = some (.int .i64 asg) := by
  obtain ⟨rt2, nm, _, _, _, k3, _⟩ := X2.out.2.2.2.1 0 (by omega)
  exact own_cell X2.out.2.2.1 k3
 clear hvh2 hvh3 hva2 hva3 hgh hghl hga
 by_cases h7 : 7 < asg
 ·have e7 : decide ((7 : Int) < (asg : Int)) = true := by simp; omega
  go_wp2_with fail
  go_ret
  exact ⟨rfl, X2.out.1⟩
 have e7 : decide ((7 : Int) < (asg : Int)) = false := by simp; omega
 obtain ⟨M, hM⟩ : ∃ M, w2.heap.size = M := ⟨_, rfl⟩
 have hgaM : ga < M := by omega
 have hNM : N ≤ M := by have h := X2.out.1.size; omega
 have hGM : G < M := by have h := X3.out.2.2.2.2; omega
 have hnch1 : nch = asg + 1 := by have h := X3.out.2.2.1; unfold nchOf at h; rw [if_neg (by omega)] at h; omega
 have hn0 : 0 < nch := by omega
 have hn8 : nch ≤ 8 := by omega
 have HNC := Lib.hid hnch1
 clear hnch1 hgal
 go_wp2_with fail
 obtain ⟨w3, hw3⟩ : ∃ w3, w2.alloc (.cells #[] 36) = w3 := ⟨_, rfl⟩
 have hb3 : Below M w2 w3 := by rw [← hw3, ← hM]; exact below_alloc (Below.refl _ _) _
 have ol3 : w3.ownsRow M 36 7 (.slice (some ⟨M, 0, none⟩) 0 0) 0 [] := by
  have h := World.ownsRow_made (base := M) (e := 36) (size := 7) w2 #[] 0 (by omega) (by decide) rfl
  rw [hM, hw3] at h; exact h
 rw [hw3]
 have X4 := Lib.hid (And.intro hb3 (And.intro ol3 hM))
 clear hw3 hb3 ol3 hM a3
 go_loopw [13, 68] (fun lv iv wx => ∃ (k : Nat) (ls : List Value) (fe : List Fr), iv = .int .i64 k ∧ k ≤ m ∧ wx.ownsRow M 36 7 lv k ls ∧ fe.length = k ∧ FrsAre wx M ls fe rt asg bp k ∧ (∀ f ∈ fe, FrOk f asg bp) ∧
  (∀ i, i < k → (fe.getD i F0).sz = (fs.getD i F0).sz ∧ ∀ q, q < nch → ((fe.getD i F0).subs.getD q ⟨0, 0, []⟩).xs = ((fs.getD i F0).subs.getD q ⟨0, 0, []⟩).xs) ∧ Below M w2 wx) (fun _ iv _ => m - (intOf iv).toNat)
 case atStart => exact ⟨0, [], [], rfl, by omega, X4.out.2.1, rfl, fun i hi => absurd hi (by omega), by simp, fun i hi => absurd hi (by omega), X4.out.1⟩
 case round =>
  obtain ⟨k, ls, fe, rfl, hk, hol, hfel, hfa, hfok, hfeq, hbel⟩ := hrel
  have Y := Lib.hid (And.intro hol (And.intro hfel (And.intro hfa (And.intro hfok (And.intro hfeq hbel)))))
  clear hol hfel hfa hfok hfeq hbel
  by_cases hlt : k < m
  ·skip
   obtain ⟨⟨vr, sz, subs⟩, hfe⟩ : ∃ f, fs.getD k F0 = f := ⟨_, rfl⟩
   have hkl : k < fs.length := by rw [X3.out.2.2.2.1]; exact hlt
   have hmem : (⟨vr, sz, subs⟩ : Fr) ∈ fs := by
    rw [← hfe, List.getD_eq_getElem?_getD, List.getElem?_eq_getElem hkl]; exact List.getElem_mem hkl
   have hraw := X2.out.2.2.2.2.2.2.1 _ hmem
   obtain ⟨hs0, hs1, hrn, hrok⟩ := hraw
   dsimp only at hs0 hs1 hrn hrok
   obtain ⟨rt2, nm, k0, k1, k2, k3, k4, k5⟩ := X2.out.2.2.2.1 k hlt
   rw [show fs.getD k ⟨false, 0, []⟩ = ⟨vr, sz, subs⟩ from hfe] at k0 k1
   obtain ⟨u, hu1, hu2⟩ := X2.out.2.2.2.2.2.1 k hlt
   rw [show fs.getD k ⟨false, 0, []⟩ = ⟨vr, sz, subs⟩ from hfe] at hu2
   have hu3 := hu2
   obtain ⟨us, hu4, _⟩ := hu3
   rw [show (⟨vr, sz, subs⟩ : Fr).subs.length = nch from hrn] at hu4
   obtain ⟨gk, ck, rfl, _, _⟩ := hu4.form hn0
   have hb2r : Below w2.heap.size w2 wr := by rw [X4.out.2.2]; exact Y.out.2.2.2.2.2
   have tr : Touch [] w2 wr := Touch.of_below hb2r
   have ohr := own_touch X2.out.2.2.1 tr (by simp)
   have oar := own_touch X2.out.2.2.2.2.1 tr (by simp)
   have e0 := own_cell ohr k0
   have e1 := own_cell ohr k1
   have e2 := own_cell ohr k2
   have e3 := own_cell ohr k3
   have e4 := own_cell ohr k4
   have e5 := own_cell ohr k5
   have ea := own_cell oar hu1
   have hGr := tr.heap X2.out.2.1 (by simp)
   dsimp only at e0 e1
   have HEN := Lib.hid (fun W (b : Below w2.heap.size w2 W) => encodable_call (w := W) (vr := vr) (rt2 := rt2) (asg := asg) (nm := nm) (rt := rt) (nch := nch) (d := d) (ck := c3) (hu2.touch (Touch.of_below (S := []) b) (by simp)) hrn hrok (HA.out.2.2.2.2.1.below (by
    rw [hN]
    exact X2.out.1.trans ⟨b.os, b.tape, b.output, b.size, fun j hj => b.block j (by rw [X4.out.2.2]; omega)⟩)) HA.out.2.2.2.2.2.1 (by omega) hs0 hs1 X3.out.2.1 hn0 hn8)
   have X5 := Lib.hid (And.intro hfe (And.intro hrn (And.intro hrok (And.intro hGr (And.intro hb2r tr)))))
   clear hfe hkl hmem hrn hrok k0 k1 k2 k3 k4 k5 hu1 hu2 hu4 hb2r tr ohr oar hGr
   go_upto_region 12 with fail
   obtain ⟨H, hH⟩ : ∃ H, wr.heap.size = H := ⟨_, rfl⟩
   obtain ⟨w4, hw4⟩ : ∃ w4, wr.alloc (.cells #[.bool vr, .int .i64 sz, .int .i64 rt2, .int .i64 asg, .int .i64 bp, .int .u64 nm] 32) = w4 := ⟨_, rfl⟩
   have tH : Touch [] wr w4 := by rw [← hw4]; exact (Touch.refl _ _).alloc _
   have hH4 : w4.drew.heap[H]? = some (.cells #[.bool vr, .int .i64 sz, .int .i64 rt2, .int .i64 asg, .int .i64 bp, .int .u64 nm] 32 (0, 0)) := by rw [← hw4, ← hH]; exact heap_alloc_new _ _
   have hG4 : w4.drew.heap[G]? = some (.cells #[.int .i64 16, .int .i64 4096, .int .i64 0, .int .i64 0, .int .i64 rt, .int .i64 nch, .int .i64 bp, .int .u64 d, .slice none 0 0] 26 (0, 0)) := tH.heap X5.out.2.2.2.1 (by simp)
   have ha4 : w4.drew.cell? ⟨ga, k, none⟩ = some (.slice (some ⟨gk, 0, none⟩) nch ck) := tH.cell ea (by simp)
   have ol4 := own_touch Y.out.1 tH (by simp)
   have b4 : Below w2.heap.size w2 w4 := tH.below (w0 := w2) X5.out.2.2.2.2.1 (by simp)
   have hM4 : M ≤ w4.heap.size := Nat.le_trans (by rw [← X4.out.2.2]; exact X5.out.2.2.2.2.1.size) tH.size
   have hF4 := Y.out.2.2.1.touch tH (by simp)
   have Y4 := Lib.hid (And.intro hF4 (And.intro ol4 (And.intro b4 hM4)))
   rw [hw4, hH]
   clear hw4 tH ol4 b4 hM4 hF4 e0 e1 e2 e3 e4 e5 ea hH
   refine wp_region_held_drew (S := fun w' => w'.heap[H]? = some (.cells #[.bool vr, .int .i64 sz, .int .i64 rt2, .int .i64 asg, .int .i64 bp, .int .u64 nm] 32 (0, 0)) ∧ w'.heap[G]? = some (.cells #[.int .i64 16, .int .i64 4096, .int .i64 0, .int .i64 0, .int .i64 rt, .int .i64 nch, .int .i64 bp, .int .u64 d, .slice none 0 0] 26 (0, 0)) ∧ w'.cell? ⟨ga, k, none⟩ = some (.slice (some ⟨gk, 0, none⟩) nch ck)) (by kernel_rfl) ⟨hH4, hG4, ha4⟩ (fun HS0 => ?_)
   refine wpAnyH_take (i := 0) (oi := ⟨some 73, .move (.tmp 13), 33, "flac.go:293", #[], none⟩) (v := ?vle1) rfl (by kernel_rfl) (by kernel_rfl) (by kernel_rfl) (fun _ _ _ h => h) (Or.inl ⟨by rfl, ?yle1⟩) HS0 ?rle1
   case yle1 =>
    intro w' hSw
    (try dsimp only at hSw)
    go_simp
    all_goals (with_reducible rfl)
   (try simp only [Act.put, List.setIfInBounds_toArray, List.set_cons_zero, List.set_cons_succ])
   refine wpAnyH_take (i := 1) (oi := ⟨some 74, .load 32 (.tmp 15), 32, "flac.go:293", #[], none⟩) (v := ?vle2) rfl (by kernel_rfl) (by kernel_rfl) (by kernel_rfl) (fun _ _ _ h => h) (Or.inl ⟨by rfl, ?yle2⟩) HS0 ?rle2
   case yle2 =>
    intro w' hSw
    (try dsimp only at hSw)
    obtain ⟨q1, q2, q3⟩ := hSw
    have p0 : w'.cell? ⟨H, 0, none⟩ = some (.bool vr) := by rw [cell_of_row w' H 0 _ _ _ q1]; rfl
    have p1 : w'.cell? ⟨H, 1, none⟩ = some (.int .i64 sz) := by rw [cell_of_row w' H 1 _ _ _ q1]; rfl
    have p2 : w'.cell? ⟨H, 2, none⟩ = some (.int .i64 rt2) := by rw [cell_of_row w' H 2 _ _ _ q1]; rfl
    have p3 : w'.cell? ⟨H, 3, none⟩ = some (.int .i64 asg) := by rw [cell_of_row w' H 3 _ _ _ q1]; rfl
    have p4 : w'.cell? ⟨H, 4, none⟩ = some (.int .i64 bp) := by rw [cell_of_row w' H 4 _ _ _ q1]; rfl
    have p5 : w'.cell? ⟨H, 5, none⟩ = some (.int .u64 nm) := by rw [cell_of_row w' H 5 _ _ _ q1]; rfl
    go_simp
    all_goals (with_reducible rfl)
   (try simp only [Act.put, List.setIfInBounds_toArray, List.set_cons_zero, List.set_cons_succ])
   refine wpAnyH_take (i := 2) (oi := ⟨some 75, .move (.tmp 11), 28, "flac.go:293", #[], none⟩) (v := ?vle3) rfl (by kernel_rfl) (by kernel_rfl) (by kernel_rfl) (fun _ _ _ h => h) (Or.inl ⟨by rfl, ?yle3⟩) HS0 ?rle3
   case yle3 =>
    intro w' hSw
    (try dsimp only at hSw)
    go_simp
    all_goals (with_reducible rfl)
   (try simp only [Act.put, List.setIfInBounds_toArray, List.set_cons_zero, List.set_cons_succ])
   refine wpAnyH_take (i := 3) (oi := ⟨some 76, .move (.tmp 14), 3, "flac.go:293", #[], none⟩) (v := ?vle4) rfl (by kernel_rfl) (by kernel_rfl) (by kernel_rfl) (fun _ _ _ h => h) (Or.inl ⟨by rfl, ?yle4⟩) HS0 ?rle4
   case yle4 =>
    intro w' hSw
    (try dsimp only at hSw)
    go_simp
    all_goals (with_reducible rfl)
   (try simp only [Act.put, List.setIfInBounds_toArray, List.set_cons_zero, List.set_cons_succ])
   refine wpAnyH_take (i := 4) (oi := ⟨some 77, .indexAddr 28 (.tmp 75) (.tmp 76), 0, "flac.go:293", #[⟨2, .data⟩, ⟨3, .data⟩], none⟩) (v := ?vle5) rfl (by kernel_rfl) (by kernel_rfl) (by kernel_rfl) (fun _ _ _ h => h) (Or.inl ⟨by rfl, ?yle5⟩) HS0 ?rle5
   case yle5 =>
    intro w' hSw
    (try dsimp only at hSw)
    go_simp
    all_goals (with_reducible rfl)
   (try simp only [Act.put, List.setIfInBounds_toArray, List.set_cons_zero, List.set_cons_succ])
   refine wpAnyH_take (i := 5) (oi := ⟨some 78, .load 38 (.tmp 77), 38, "flac.go:293", #[⟨4, .data⟩], none⟩) (v := ?vle6) rfl (by kernel_rfl) (by kernel_rfl) (by kernel_rfl) (fun _ _ _ h => h) (Or.inl ⟨by rfl, ?yle6⟩) HS0 ?rle6
   case yle6 =>
    intro w' hSw
    (try dsimp only at hSw)
    obtain ⟨q1, q2, q3⟩ := hSw
    go_simp
    all_goals (with_reducible rfl)
   (try simp only [Act.put, List.setIfInBounds_toArray, List.set_cons_zero, List.set_cons_succ])
   refine wpAnyH_take (i := 6) (oi := ⟨some 79, .move (.tmp 3), 23, "flac.go:293", #[], none⟩) (v := ?vle7) rfl (by kernel_rfl) (by kernel_rfl) (by kernel_rfl) (fun _ _ _ h => h) (Or.inl ⟨by rfl, ?yle7⟩) HS0 ?rle7
   case yle7 =>
    intro w' hSw
    (try dsimp only at hSw)
    go_simp
    all_goals (with_reducible rfl)
   (try simp only [Act.put, List.setIfInBounds_toArray, List.set_cons_zero, List.set_cons_succ])
   refine wpAnyH_take (i := 7) (oi := ⟨some 80, .load 26 (.tmp 9), 26, "flac.go:293", #[], none⟩) (v := ?vle8) rfl (by kernel_rfl) (by kernel_rfl) (by kernel_rfl) (fun _ _ _ h => h) (Or.inl ⟨by rfl, ?yle8⟩) HS0 ?rle8
   case yle8 =>
    intro w' hSw
    (try dsimp only at hSw)
    obtain ⟨q1, q2, q3⟩ := hSw
    have p0 : w'.cell? ⟨G, 0, none⟩ = some (.int .i64 16) := by rw [cell_of_row w' G 0 _ _ _ q2]; rfl
    have p1 : w'.cell? ⟨G, 1, none⟩ = some (.int .i64 4096) := by rw [cell_of_row w' G 1 _ _ _ q2]; rfl
    have p2 : w'.cell? ⟨G, 2, none⟩ = some (.int .i64 0) := by rw [cell_of_row w' G 2 _ _ _ q2]; rfl
    have p3 : w'.cell? ⟨G, 3, none⟩ = some (.int .i64 0) := by rw [cell_of_row w' G 3 _ _ _ q2]; rfl
    have p4 : w'.cell? ⟨G, 4, none⟩ = some (.int .i64 rt) := by rw [cell_of_row w' G 4 _ _ _ q2]; rfl
    have p5 : w'.cell? ⟨G, 5, none⟩ = some (.int .i64 nch) := by rw [cell_of_row w' G 5 _ _ _ q2]; rfl
    have p6 : w'.cell? ⟨G, 6, none⟩ = some (.int .i64 bp) := by rw [cell_of_row w' G 6 _ _ _ q2]; rfl
    have p7 : w'.cell? ⟨G, 7, none⟩ = some (.int .u64 d) := by rw [cell_of_row w' G 7 _ _ _ q2]; rfl
    have p8 : w'.cell? ⟨G, 8, none⟩ = some (.slice none 0 0) := by rw [cell_of_row w' G 8 _ _ _ q2]; rfl
    go_simp
    all_goals (with_reducible rfl)
   (try simp only [Act.put, List.setIfInBounds_toArray, List.set_cons_zero, List.set_cons_succ])
   refine wpAnyH_ready (rs := [8]) (by kernel_rfl) (by simp) ?_
   refine (AllReadyH.cons (o := ⟨some 81, .call ⟨.value (.func 5), #[.tmp 74, .tmp 78, .tmp 79, .tmp 80], #[32, 38, 23, 26]⟩, 36, "flac.go:293", #[⟨1, .data⟩, ⟨5, .data⟩, ⟨6, .data⟩, ⟨7, .data⟩], none⟩) rfl (fun K hK => ?kle12) AllReadyH.nil)
   case kle12 =>
    go_simp
    refine (HEN.out _ (by first | exact Y4.out.2.2.1 | exact Y4.out.2.2.1.drew)).mono ?_
    rintro e w6 ⟨hb6, sv, ss, fs', rfl, ho6, hS6, hfl6, hx6, hok6⟩
    obtain ⟨Asv, csv, rfl⟩ := own_slice ho6
    go_wp2_with fail
    have HS6 := And.intro ((hb6.block H (Array.getElem?_eq_some_iff.1 HS0.1).1).trans HS0.1) (And.intro ((hb6.block G (Array.getElem?_eq_some_iff.1 HS0.2.1).1).trans HS0.2.1) (cell_below hb6 HS0.2.2))
    refine hK.out _ _ HS6 (fun HS6 => ?_)
    clear hK K
    (try simp only [Act.put, List.setIfInBounds_toArray, List.set_cons_zero, List.set_cons_succ])
    refine wpAnyH_ready (rs := [9]) (by kernel_rfl) (by simp) ?_
    refine (AllReadyH.cons (o := ⟨some 82, .buildSlice 33 1 #[(0, .tmp 81)], 33, "flac.go:293", #[⟨8, .data⟩], none⟩) rfl (fun K hK => ?kle11) AllReadyH.nil)
    case kle11 =>
     go_simp
     obtain ⟨w7, hw7⟩ : ∃ w7, w6.alloc (.cells #[.bool vr, .int .i64 sz, .int .i64 rt, .int .i64 asg, .int .i64 bp, .int .u64 nm, .slice Asv nch csv] 36) = w7 := ⟨_, rfl⟩
     have nb7 : w7.heap[w6.heap.size]? = some (.cells #[.bool vr, .int .i64 sz, .int .i64 rt, .int .i64 asg, .int .i64 bp, .int .u64 nm, .slice Asv nch csv] 36 (0, 0)) := by rw [← hw7]; exact heap_alloc_new _ _
     have hb7 : Below w6.heap.size w6 w7 := by rw [← hw7]; exact below_alloc (Below.refl _ _) _
     rw [hw7]
     have HS7 := And.intro ((hb7.block H (Array.getElem?_eq_some_iff.1 HS6.1).1).trans HS6.1) (And.intro ((hb7.block G (Array.getElem?_eq_some_iff.1 HS6.2.1).1).trans HS6.2.1) (cell_below hb7 HS6.2.2))
     refine hK.out _ _ HS7 (fun HS7 => ?_)
     clear hK K hw7
     (try simp only [Act.put, List.setIfInBounds_toArray, List.set_cons_zero, List.set_cons_succ])
     refine wpAnyH_ready (rs := [10]) (by kernel_rfl) (by simp) ?_
     refine (AllReadyH.cons (o := ⟨some 83, .call ⟨.builtin .append, #[.tmp 73, .tmp 82], #[33, 33]⟩, 33, "flac.go:293", #[⟨0, .data⟩, ⟨9, .data⟩, ⟨8, .chain⟩], none⟩) rfl (fun K hK => ?kle10) AllReadyH.nil)
     case kle10 =>
      obtain ⟨ip, hp0, hp1, hp2, hp3⟩ := info_any (t := 36) (z := .agg #[.bool false, .int .i64 0, .int .i64 0, .int .i64 0, .int .i64 0, .int .u64 0, .slice none 0 0]) (s := 7) (b := 72) (by kernel_rfl)
      have t47 : Touch [] w4 w7 := by
       have h := (Touch.of_below (S := []) hb6).trans (Touch.of_below hb7)
       exact ⟨h.os, h.tape, h.output, h.size, h.block⟩
      have ol7 := own_touch Y4.out.2.1 t47 (by simp)
      have hM7 : M ≤ w7.heap.size := Nat.le_trans Y4.out.2.2.2 t47.size
      refine step_append_lies _ rfl (.tmp 73) (.tmp 82) 33 rfl M 36 ip _ 7 72 Tryz.underlying33 hp0 hp1 hp2 hp3 rfl (by decide) u13 k ls rfl ol7 ⟨w6.heap.size, 0, none⟩ 1 1 [.bool vr, .int .i64 sz, .int .i64 rt, .int .i64 asg, .int .i64 bp, .int .u64 nm, .slice Asv nch csv] rfl rfl (World.news_of_block nb7) (by simp [Value.oneCell']) (by decide) (by unfold maxLen; omega) (by omega) hM7 _ rfl ?_
      intro gv cap w8 hO8 hG8 hA8 hL8
      have t8 := grown_touch hG8
      have nH : H ∉ u13.ownBlock.toList := fun hm => by obtain ⟨_, cs, h⟩ := own_ty ol7 H hm; exact blk_ne HS7.1 h (by decide) rfl
      have nG : G ∉ u13.ownBlock.toList := fun hm => by obtain ⟨_, cs, h⟩ := own_ty ol7 G hm; exact blk_ne HS7.2.1 h (by decide) rfl
      have nA : ga ∉ u13.ownBlock.toList := fun hm => by have h1 := own_base ol7 ga (by simpa using hm); omega
      refine hK.out _ _ ⟨t8.heap HS7.1 nH, t8.heap HS7.2.1 nG, t8.cell HS7.2.2 nA⟩ (fun HS8 => ?_)
      clear hK K
      (try simp only [Act.put, List.setIfInBounds_toArray, List.set_cons_zero, List.set_cons_succ])
      refine wpAnyH_take (i := 11) (oi := ⟨some 13, .assign (.tmp 83), 33, "flac.go:293", #[⟨10, .data⟩, ⟨10, .chain⟩, ⟨0, .phase⟩, ⟨1, .phase⟩, ⟨2, .phase⟩, ⟨3, .phase⟩, ⟨4, .phase⟩, ⟨5, .phase⟩, ⟨6, .phase⟩, ⟨7, .phase⟩, ⟨8, .phase⟩, ⟨9, .phase⟩, ⟨10, .phase⟩], none⟩) (v := ?vle9) rfl (by kernel_rfl) (by kernel_rfl) (by kernel_rfl) (fun _ _ _ h => h) (Or.inl ⟨by rfl, ?yle9⟩) HS8 ?rle9
      case yle9 =>
       intro w' hSw
       (try dsimp only at hSw)
       go_simp
       all_goals (with_reducible rfl)
      (try simp only [Act.put, List.setIfInBounds_toArray, List.set_cons_zero, List.set_cons_succ])
      refine wpAnyH_done (by kernel_rfl) ?_ _
      go_wp2_with fail
      go_roundw
      case rel =>
       have hM4 : M ≤ w4.drew.heap.size := Y4.out.2.2.2
       have ho7 := own_touch ho6 (Touch.of_below (S := []) hb7) (by simp)
       have ho8 := own_weak (own_touch ho7 t8 (own_far2 ho7 ol7 (by decide))) hM4
       have hS7 := hS6.touch (Touch.of_below (S := []) hb7) (by simp)
       have hS8 := hS7.touch t8 (fun q hq => by obtain ⟨_, cs, h⟩ := own_ty ol7 q hq; exact ⟨_, _, _, h, by decide, by decide⟩)
       have hF7 := Y4.out.1.touch t47 (by simp)
       have hF8 := hF7.touch t8 (fun q hq => by obtain ⟨_, cs, h⟩ := own_ty ol7 q hq; exact ⟨_, _, _, h, by decide, by decide, by decide⟩)
       have hfl := Y.out.2.1
       have hll : ls.length = k * 7 := Y.out.1.1
       refine ⟨k + 1, ls ++ [.bool vr, .int .i64 sz, .int .i64 rt, .int .i64 asg, .int .i64 bp, .int .u64 nm, .slice Asv nch csv], fe ++ [⟨vr, sz, fs'⟩], by go_num, by omega, hO8, by simp [hfl], ?_, ?_, ?_, ?_⟩
       ·exact FrsAre.snoc (f := ⟨vr, sz, fs'⟩) hF8 hll hfl (show w8.ownsRow M 59 9 (.slice Asv nch csv) fs'.length ss by rw [hfl6]; exact ho8) (show SubsAre w8 ss fs' fs'.length by rw [hfl6]; exact hS8)
       ·intro f hf
        rcases List.mem_append.1 hf with hf | hf
        ·exact Y.out.2.2.2.1 f hf
        ·rw [List.mem_singleton.1 hf]
         exact ⟨hs0, hs1, show fs'.length = asg + 1 by rw [hfl6]; exact HNC.out, hok6⟩
       ·intro i hi
        by_cases hik : i < k
        ·have e : (fe ++ [(⟨vr, sz, fs'⟩ : Fr)]).getD i F0 = fe.getD i F0 := by rw [List.getD_eq_getElem?_getD, List.getD_eq_getElem?_getD, List.getElem?_append_left (by omega)]
         rw [e]; exact Y.out.2.2.2.2.1 i hik
        ·obtain rfl : i = k := by omega
         have e : (fe ++ [(⟨vr, sz, fs'⟩ : Fr)]).getD i F0 = ⟨vr, sz, fs'⟩ := by rw [List.getD_eq_getElem?_getD, List.getElem?_append_right (by omega), hfl, Nat.sub_self]; rfl
         rw [e, X5.out.1]
         exact ⟨rfl, hx6⟩
       ·rw [← X4.out.2.2]
        exact below_touch2 Y4.out.2.2.1 t47 t8 (Nat.le_refl _) (fun q hq => by rw [X4.out.2.2]; exact own_base ol7 q (by simpa using hq))
      case measure => simp [intOf]; omega
  ·obtain rfl : m = k := by omega
   obtain ⟨gl, cl, rfl, _, _⟩ := Y.out.1.form (by omega)
   have hb2r : Below w2.heap.size w2 wr := by rw [X4.out.2.2]; exact Y.out.2.2.2.2.2
   have tr : Touch [] w2 wr := Touch.of_below hb2r
   have hGr := tr.heap X2.out.2.1 (by simp)
   have i0 : wr.cell? ⟨G, 0, none⟩ = some (.int .i64 16) := by rw [cell_of_row wr G 0 _ _ _ hGr]; rfl
   have i1 : wr.cell? ⟨G, 1, none⟩ = some (.int .i64 4096) := by rw [cell_of_row wr G 1 _ _ _ hGr]; rfl
   have i4 : wr.cell? ⟨G, 4, none⟩ = some (.int .i64 rt) := by rw [cell_of_row wr G 4 _ _ _ hGr]; rfl
   have i5 : wr.cell? ⟨G, 5, none⟩ = some (.int .i64 nch) := by rw [cell_of_row wr G 5 _ _ _ hGr]; rfl
   have i6 : wr.cell? ⟨G, 6, none⟩ = some (.int .i64 bp) := by rw [cell_of_row wr G 6 _ _ _ hGr]; rfl
   have i7 : wr.cell? ⟨G, 7, none⟩ = some (.int .u64 d) := by rw [cell_of_row wr G 7 _ _ _ hGr]; rfl
   have hbr : Below N w wr := X2.out.1.trans ⟨hb2r.os, hb2r.tape, hb2r.output, hb2r.size, fun j hj => hb2r.block j (by rw [X4.out.2.2]; omega)⟩
   have hfel := Y.out.2.1
   have HIE := Lib.hid (impl_encode (w := wr) (gl := gl) (cl := cl) (rt := rt) (ch := asg) (bp := bp) (ns := d) (fs := fe) X3.out.1 (by omega) X3.out.2.1 (by omega) (by omega) Y.out.2.2.2.1
    (Y.out.2.2.1.imp Y.out.1 hfel (fun f hf => by have h := (Y.out.2.2.2.1 f hf).n; omega)) (HA.out.2.2.2.2.2.2.below hbr (by rw [← hN]; exact NCh.lt HA.out.2.2.2.2.2.2)))
   rw [hfel, ← HNC.out] at HIE
   have Y2 := Lib.hid (And.intro tr hbr)
   clear hb2r tr hGr hbr hfel
   go_wp2_with fail
   refine HIE.out.mono ?_
   rintro e w5 ⟨hb5, v, I, Fs, rfl, hI, hIb, hFl, hFA, ho5⟩
   have hI42 : I.length = 42 := by
    have h := congrArg List.length hI
    rw [bytesBits_len, infoBits_len] at h; omega
   have hFi : ∀ F ∈ Fs, F.length ≤ 60000000000 ∧ ∀ x ∈ F, 0 ≤ x ∧ x ≤ 255 := fun F hF => by
    obtain ⟨i, hi, rfl⟩ := List.mem_iff_getElem.1 hF
    have h1 := hFA i hi
    rw [show Fs.getD i [] = Fs[i] by rw [List.getD_eq_getElem?_getD, List.getElem?_eq_getElem hi]; rfl] at h1
    have hil : i < fe.length := by rw [Y.out.2.1]; omega
    have h2 := Y.out.2.2.2.1 _ (List.getElem_mem hil)
    rw [show fe.getD i ⟨false, 0, []⟩ = fe[i] by rw [List.getD_eq_getElem?_getD, List.getElem?_eq_getElem hil]; rfl] at h1
    refine ⟨frame_len h1 h2.ok (by have h := h2.n; omega), ?_⟩
    obtain ⟨_, _, _, _, h3, _⟩ := h1
    exact h3
   have hfll := flat_len 60000000000 Fs (fun F hF => (hFi F hF).1)
   have hflb := flat_bytes (fun F hF => (hFi F hF).2)
   obtain ⟨L, hL⟩ : ∃ L, I ++ Fs.flatten = L := ⟨_, rfl⟩
   obtain ⟨nl, hnl⟩ : ∃ nl, L.length = nl := ⟨_, rfl⟩
   have hnlb : 42 ≤ nl ∧ nl ≤ 200000000000 := by
    have h := congrArg List.length hL
    rw [List.length_append, hI42] at h
    have h2 : Fs.length ≤ 3 := by omega
    have h3 : 60000000000 * Fs.length ≤ 180000000000 := by omega
    omega
   have hLb : ∀ x ∈ L, 0 ≤ x ∧ x ≤ 255 := fun x hx => by
    rw [← hL] at hx
    rcases List.mem_append.1 hx with h | h
    ·exact hIb x h
    ·exact hflb x h
   rw [hL, hnl] at ho5
   obtain ⟨gv, cv, rfl, _, _⟩ := ho5.form (by omega)
   obtain ⟨Av, cv', hve, hr5⟩ := own_reads ho5
   injection hve with hve1 hve2 hve3
   subst hve1 hve3
   have hcv := own_cap' ho5
   have hcv2 := own_capMax ho5
   have hfel := Y.out.2.1
   have HRA := Lib.hid (read_all (w := w5) (fs := fe) hr5 hcv (by omega) hcv2 hLb hL.symm (by rw [← HNC.out]; exact hI) hFA (by omega) Y.out.2.2.2.1 (by omega) (fun i hi => by
    rw [show (fe.getD i ⟨false, 0, []⟩).sz = (fs.getD i ⟨false, 0, []⟩).sz from (Y.out.2.2.2.2.1 i (by omega)).1]
    exact X2.out.2.2.2.2.2.2.2 i (by omega)) X3.out.1 (by omega) X3.out.2.1 (by omega))
   rw [hfel] at HRA
   have Y5 := Lib.hid hb5
   clear hI42 hFi hfll hflb hL hnl hnlb hLb hr5 hcv hcv2 hfel hb5 hI hIb hFl hFA ho5 i0 i1 i4 i5 i6 i7 HIE
   go_wp2_with fail
   refine HRA.out.mono ?_
   rintro e w6 ⟨hb6, z, ms, cs_, As, hv, av, hs2, vs2, rfl, oh6, hh6, oa6, ra6⟩
   obtain ⟨gh2, ch2, rfl, _, _⟩ := oh6.form (by omega)
   obtain ⟨ga2, ca2, rfl, _, _⟩ := oa6.form (by omega)
   have Y6 := Lib.hid (And.intro hb6 (And.intro oh6 (And.intro hh6 (And.intro oa6 ra6))))
   clear hb6 oh6 hh6 oa6 ra6 HRA
   have emm : ((m : Int) != (m : Int)) = false := by simp
   go_upto_region 18 with fail
   obtain ⟨w7, hw7⟩ : ∃ w7, w6.alloc (.cells #[.int .i64 16, .int .i64 4096, .int .i64 0, .int .i64 0, .int .i64 rt, .int .i64 z, .int .i64 bp, .int .u64 d, .slice As ms cs_] 26) = w7 := ⟨_, rfl⟩
   have t67 : Touch [] w6 w7 := by rw [← hw7]; exact (Touch.refl _ _).alloc _
   rw [hw7]
   have tr7 : Touch [] w2 w7 := ((Y2.out.1.trans (Touch.of_below Y5.out)).trans (Touch.of_below Y6.out.1)).trans t67
   have b7 : Below N w w7 := by
    have h := (((Touch.of_below (S := []) Y5.out).trans (Touch.of_below Y6.out.1)).trans t67).below (w0 := w) (by rw [hN]; exact Y2.out.2) (by simp)
    rw [hN] at h; exact h
   have CM := Lib.hid (enc_cells (own_touch X2.out.2.2.1 tr7 (by simp)) X2.out.2.2.2.1 (own_touch X2.out.2.2.2.2.1 tr7 (by simp)) (X2.out.2.2.2.2.2.1.touch tr7 (by simp)) (own_touch Y6.out.2.1 t67 (by simp)) Y6.out.2.2.1 (own_touch Y6.out.2.2.2.1 t67 (by simp)) (Y6.out.2.2.2.2.touch t67 (by simp)) X3.out.2.2.2.1 X2.out.2.2.2.2.2.2.1 Y.out.2.1 Y.out.2.2.2.1 Y.out.2.2.2.2.1 HNC.out)
   have B7 := Lib.hid b7
   clear hw7 t67 tr7 b7
   go_wp2_with fail
   go_loopw [125] (fun iv wx => ∃ k : Nat, iv = .int .i64 k ∧ k ≤ m ∧ Touch [] w7 wx) (fun iv _ => m - (intOf iv).toNat)
   case atStart => exact ⟨0, rfl, by omega, Touch.refl _ _⟩
   case round =>
    obtain ⟨k, rfl, hk, tw⟩ := hrel
    have TW := Lib.hid tw
    clear tw
    by_cases hlt : k < m
    ·obtain ⟨sz, gk, ck, gs, cs, hs0, hs1, c1, c2, c3', c4, hq⟩ := CM.out k hlt
     have d1 := TW.out.cell c1 (by simp)
     have d2 := TW.out.cell c2 (by simp)
     have d3 := TW.out.cell c3' (by simp)
     have esz : ((sz : Int) != (sz : Int)) = false := by simp
     have HQ := Lib.hid (And.intro c3' (And.intro c4 hq))
     clear c1 c2 c3' c4 hq
     go_upto_region 21 with fail
     go_quiet (fail)
     go_wp2_with fail
     rename World => wo
     go_loopw [144] (fun iv wx => ∃ q : Nat, iv = .int .i64 q ∧ q ≤ nch ∧ Touch [] w7 wx) (fun iv _ => nch - (intOf iv).toNat)
     case atStart => exact ⟨0, rfl, by omega, TW.out.drewN _⟩
     case round =>
      obtain ⟨q, rfl, hqn, tw⟩ := hrel
      have TW2 := Lib.hid tw
      clear tw d1 d2 d3
      by_cases hlq : q < nch
      ·obtain ⟨gx, cx, gy, cy, c5, c6, hj⟩ := HQ.out.2.2 q hlq
       have d3 := TW2.out.cell HQ.out.1 (by simp)
       have d5 := TW2.out.cell c5 (by simp)
       have HJ := Lib.hid (And.intro c5 (And.intro c6 hj))
       clear c5 c6 hj
       go_wp2_with fail
       rename World => wp
       go_loopw [155] (fun iv wx => ∃ j : Nat, iv = .int .i64 j ∧ j ≤ sz ∧ Touch [] w7 wx) (fun iv _ => sz - (intOf iv).toNat)
       case atStart => exact ⟨0, rfl, by omega, TW2.out⟩
       case round =>
        obtain ⟨j, rfl, hjn, tw⟩ := hrel
        have TW3 := Lib.hid tw
        clear tw d3 d5
        by_cases hlj : j < sz
        ·obtain ⟨x, c7, c8⟩ := HJ.out.2.2 j hlj
         have d3 := TW3.out.cell HQ.out.1 (by simp)
         have d4 := TW3.out.cell HQ.out.2.1 (by simp)
         have d5 := TW3.out.cell HJ.out.1 (by simp)
         have d6 := TW3.out.cell HJ.out.2.1 (by simp)
         have d7 := TW3.out.cell c7 (by simp)
         have d8 := TW3.out.cell c8 (by simp)
         have ex : (x != x) = false := by simp
         clear c7 c8
         go_upto_region 29 with fail
         go_quiet (fail)
         go_wp2_with fail
         go_roundw
         case rel => exact ⟨j + 1, by go_num, by omega, TW3.out.drewN _⟩
         case measure => simp [intOf]; omega
        ·obtain rfl : sz = j := by omega
         go_wp2_with fail
         go_roundw
         case rel => exact ⟨q + 1, by go_num, by omega, TW3.out⟩
         case measure => simp [intOf]; omega
      ·obtain rfl : nch = q := by omega
       go_wp2_with fail
       go_roundw
       case rel => exact ⟨k + 1, by go_num, by omega, TW2.out⟩
       case measure => simp [intOf]; omega
    ·obtain rfl : m = k := by omega
     go_wp2_with fail
     go_ret
     refine ⟨rfl, ?_⟩
     have h := TW.out.below (w0 := w) (by rw [hN]; exact B7.out) (by simp)
     rw [hN] at h; exact h
theorem u8_wf {l : List Int} (hb : ∀ x ∈ l, (Lit.int .u8 x).wf = true) : ∀ x ∈ l, 0 ≤ x ∧ x ≤ 255 := fun x hx => by
 have h0 := hb x hx
 have h1 : IntKind.u8.min = 0 := rfl
 have h2 : IntKind.u8.max = 255 := rfl
 simp only [Lit.wf, Bool.and_eq_true, decide_eq_true_eq] at h0
 exact ⟨by omega, by omega⟩
theorem topEn (w : World) (a0 : Int) (A1 : Option Addr) (c1 : Nat) (l1 : List Int) (A2 : Option Addr) (c2 : Nat) (l2 : List Int) (A3 : Option Addr) (c3 : Nat) (l3 : List Int) (w0 : (Lit.int .u32 a0).wf = true)
  (r1 : ReadsInt w .u8 A1 l1.length l1) (k1 : l1.length ≤ c1) (y1 : l1.length * 1 ≤ 140737488351232) (w1 : ∀ x ∈ l1, (Lit.int .u8 x).wf = true)
  (r2 : ReadsInt w .u8 A2 l2.length l2) (k2 : l2.length ≤ c2) (y2 : l2.length * 1 ≤ 140737488351232) (w2 : ∀ x ∈ l2, (Lit.int .u8 x).wf = true)
  (r3 : ReadsInt w .u8 A3 l3.length l3) (k3 : l3.length ≤ c3) (y3 : l3.length * 1 ≤ 140737488351232) (w3 : ∀ x ∈ l3, (Lit.int .u8 x).wf = true) (hN : NCh w) :
  Calls Tryz.prog 3 #[.int .u32 a0, .slice A1 l1.length c1, .slice A2 l2.length c2, .slice A3 l3.length c3] w fun e w' => e = .returned (.bool true) ∧ Below w.heap.size w w' := by
 have h1 : IntKind.u32.min = 0 := rfl
 have h2 : IntKind.u32.max = 4294967295 := rfl
 simp only [Lit.wf, Bool.and_eq_true, decide_eq_true_eq] at w0
 obtain ⟨n, rfl⟩ : ∃ n : Nat, a0 = (n : Int) := ⟨a0.toNat, by omega⟩
 exact law_encode (by omega) r1 k1 (u8_wf w1) r2 k2 (u8_wf w2) r3 k3 (u8_wf w3) hN
end Go.Proofs.YtmcllndnjdemaaaGreatDoor.Walk
