/- spec.WriteInfo and spec.WriteBlock: they end, with some bytes. Printed by wip/wi.py. -/
import Derived.Test.YtmcllndnjdemaaaGreatDoorWh
import Derived.Test.YtmcllndnjdemaaaGreatDoorWAll
namespace Go.Proofs.YtmcllndnjdemaaaGreatDoor.Walk
set_option linter.unusedVariables false
set_option linter.unusedSimpArgs false
open Go Go.RowKit Go.Proofs.YtmcllndnjdemaaaGreatDoorW.PrintWords Go.Proofs.YtmcllndnjdemaaaGreatDoorW.PrintLast Go.Proofs.YtmcllndnjdemaaaGreatDoorW.PrintMore Go.Proofs.YtmcllndnjdemaaaGreatDoor.Num Go.Proofs.YtmcllndnjdemaaaGreatDoor.Crc Go.Proofs.YtmcllndnjdemaaaGreatDoor.PFnEncode
theorem own_add (g j : Nat) : (⟨g, 0, none⟩ : Addr).add j = ⟨g, j, none⟩ := by unfold Addr.add; split <;> simp_all
theorem wpl_zeros {ops : Array Oper} {rest : List Oper} {o : Oper} {a : Act} {Q : Exit → Act → World → Prop} {W : World} (base : Nat) (hgd : o.guard = none) (s x : Operand) (ho : o.op = .call { callee := .builtin .append, args := #[s, x], argTypes := #[23, 3] })
  (v : Value) (n m : Nat) (xs : List Value) (hs : a.eval s = v) (hx : a.eval x = .int .i64 m) (HO : W.ownsRow base 5 1 v n xs) (hbase : base ≤ W.heap.size) (hm : n + m ≤ 1000000)
  (h : ∀ v1 w1, w1.ownsRow base 5 1 v1 (n + m) (xs ++ nums .u8 (List.replicate m 0)) → W.grownBy w1 v.ownBlock → wpList Tryz.prog ops Q rest (a.put o.dst v1) w1) : wpList Tryz.prog ops Q (o :: rest) a W := by
 obtain ⟨ip, hp0, hp1, hp2, hp3⟩ := info_any (t := 5) (z := .int .u8 0) (s := 1) (b := 1) (by kernel_rfl)
 have hz8 : (Builtin.zeroCells (Value.int .u8 0).cells m).toList = nums .u8 (List.replicate m 0) := by
  refine List.ext_getElem? fun i => ?_
  simp [Builtin.zeroCells, Value.cells, nums, Nat.mod_one, List.getElem?_range]
  by_cases hi : i < m <;> simp [hi]
 obtain ⟨v1, w1, hr1, h1, hg, hat⟩ := run_append_zeros (P := Tryz.prog) W base 23 3 o.type 5 ip (.int .u8 0) 1 1 Tryz.underlying23 Tryz.underlying3 hp0 hp1 hp2 hp3 rfl (by decide) (by decide) v n xs HO .i64 m (by
  intro u hu
  rw [hz8] at hu
  simp [nums] at hu
  rw [hu.2]; rfl) (by omega) hbase
 rw [hz8] at h1
 refine wpList_plain hgd fun K hK => ?_
 unfold Oper.wp execOp
 simp only [ho, resolve, invoke, builtin, Sem.run_bind, Sem.run_pure, Result.andThen_ok, List.map_toArray, List.map_cons, List.map_nil, hs, hx, hr1]
 exact hK _ _ (h v1 w1 h1 hg)
set_option maxHeartbeats 16000000 in
set_option maxRecDepth 100000 in
theorem write_info_any {rt nc bp ns : Nat} {last : Bool} {w : World} (hrt : rt ≤ 655350) (hnc0 : 0 < nc) (hnc : nc ≤ 8) (hbp0 : 0 < bp) (hbp : bp ≤ 24) (hns : ns ≤ 1000000) :
  Calls Tryz.prog 12 #[.agg #[.int .i64 16, .int .i64 4096, .int .i64 0, .int .i64 0, .int .i64 rt, .int .i64 nc, .int .i64 bp, .int .u64 ns, .slice none 0 0], .bool last] w fun e w' => Below w.heap.size w w' ∧ ∃ x l, e = .returned x ∧ w'.ownsRow w.heap.size 5 1 x l.length (nums .u8 l) ∧ l.length ≤ 100 := by
 obtain ⟨N, hN⟩ : ∃ N, w.heap.size = N := ⟨_, rfl⟩
 rw [hN]
 go_enter Tryz.func12, Tryz.ntmps12
 go_upto_region 2 with fail
 obtain ⟨wh, hwh⟩ : ∃ wh, w.alloc (.cells #[.int .i64 16, .int .i64 4096, .int .i64 0, .int .i64 0, .int .i64 rt, .int .i64 nc, .int .i64 bp, .int .u64 ns, .slice none 0 0] 26) = wh := ⟨_, rfl⟩
 have hsh : wh.heap.size = N + 1 := by rw [← hwh, World.size_alloc, hN]
 have hh0 : wh.heap[N]? = some (.cells #[.int .i64 16, .int .i64 4096, .int .i64 0, .int .i64 0, .int .i64 rt, .int .i64 nc, .int .i64 bp, .int .u64 ns, .slice none 0 0] 26 (0, 0)) := by rw [← hwh, ← hN]; exact heap_alloc_new _ _
 have hbh : Below N w wh := by rw [← hwh, ← hN]; exact below_alloc (Below.refl _ _) _
 obtain ⟨w1, hw1⟩ : ∃ w1, wh.alloc (.cells #[.slice none 0 0, .int .i64 0] 101) = w1 := ⟨_, rfl⟩
 have hs1 : w1.heap.size = N + 2 := by rw [← hw1, World.size_alloc, hsh]
 have hb1 : Below (N + 1) wh w1 := by rw [← hw1, ← hsh]; exact below_alloc (Below.refl _ _) _
 have hk1 : Wk [] (N + 1) (N + 1) 0 w1 := ⟨⟨[], 0, 0⟩, ⟨⟨show 0 < 8 by decide, show 0 < 2 ^ 0 by decide⟩, Nat.le_refl _, .slice none 0 0, by rw [← hw1, ← hsh]; exact heap_alloc_new _ _, World.ownsRow_nil _ _ _ _, by simp [Value.ownBlock], by simp⟩, rfl, by simp⟩
 rw [hwh, hw1]
 have hcv := fun (w : World) (C : Array Value) (n c : Nat) => Lib.run_convert_bytes_const (P := Tryz.prog) w 23 5 C n c Tryz.underlying23 Tryz.underlying5
 have HS1 := Lib.hid (And.intro hs1 (And.intro hwh (And.intro hw1 (And.intro hsh (And.intro hh0 hbh)))))
 clear hs1 hwh hw1 hsh hh0 hbh
 go_wp2_with fail
 clear hcv
 obtain ⟨hs1, hwh, hw1, hsh, hh0, hbh⟩ := HS1.out
 rw [hs1]
 obtain ⟨w2, hw2⟩ : ∃ w2, w1.alloc (.cells #[.int .u8 102, .int .u8 76, .int .u8 97, .int .u8 67] 5 (4, 5)) = w2 := ⟨_, rfl⟩
 have hm2 : w2.heap[N + 2]? = some (.cells #[.int .u8 102, .int .u8 76, .int .u8 97, .int .u8 67] 5 (4, 5)) := by rw [← hw2, ← hs1]; exact heap_alloc_new _ _
 have hb12 : Below w1.heap.size w1 w2 := by rw [← hw2]; exact below_alloc (Below.refl _ _) _
 have hk2 := hk1.pin (g := N + 2) (Touch.of_below hb12) (Nat.le_of_eq hs1) hm2
 have hb2 : Below (N + 1) wh w2 := hb1.touch0 (Touch.of_below (S := []) hb12) (by omega)
 have HD := Lib.hid (fun wx (hb : Below (N + 1) wh wx) => show wx.cell? ⟨N, 0, none⟩ = some (.int .i64 16) ∧ wx.cell? ⟨N, 1, none⟩ = some (.int .i64 4096) ∧ wx.cell? ⟨N, 2, none⟩ = some (.int .i64 0) ∧ wx.cell? ⟨N, 3, none⟩ = some (.int .i64 0) ∧ wx.cell? ⟨N, 4, none⟩ = some (.int .i64 rt) ∧ wx.cell? ⟨N, 5, none⟩ = some (.int .i64 nc) ∧ wx.cell? ⟨N, 6, none⟩ = some (.int .i64 bp) ∧ wx.cell? ⟨N, 7, none⟩ = some (.int .u64 ns) ∧ wx.cell? ⟨N, 8, none⟩ = some (.slice none 0 0) by
  have h := (hb.block N (by omega)).trans hh0
  exact ⟨by rw [cell_of_row wx N 0 _ _ _ h]; rfl, by rw [cell_of_row wx N 1 _ _ _ h]; rfl, by rw [cell_of_row wx N 2 _ _ _ h]; rfl, by rw [cell_of_row wx N 3 _ _ _ h]; rfl, by rw [cell_of_row wx N 4 _ _ _ h]; rfl, by rw [cell_of_row wx N 5 _ _ _ h]; rfl, by rw [cell_of_row wx N 6 _ _ _ h]; rfl, by rw [cell_of_row wx N 7 _ _ _ h]; rfl, by rw [cell_of_row wx N 8 _ _ _ h]; rfl⟩)
 have HSH := Lib.hid (And.intro hsh hbh)
 have X0 := Lib.hid (And.intro hk2 hb2)
 rw [hw2]
 clear HS1 hwh hw1 hw2 hsh hh0 hbh hs1 hb1 hk1 hm2 hb12 hk2 hb2
 go_loopw [15] (fun iv wx => ∃ i : Nat, iv = .int .i64 i ∧ i ≤ 4 ∧ Wk [(N + 2, .cells #[.int .u8 102, .int .u8 76, .int .u8 97, .int .u8 67] 5 (4, 5))] (N + 1) (N + 1) (8 * i) wx ∧ Below (N + 1) wh wx) (fun iv _ => 4 - (intOf iv).toNat)
 case atStart => exact ⟨0, rfl, by omega, X0.out.1, X0.out.2⟩
 case round =>
  obtain ⟨i, rfl, hi, hk, hb⟩ := hrel
  have X := Lib.hid (And.intro hk hb)
  have hm := hk.pinned (q := (N + 2, .cells #[.int .u8 102, .int .u8 76, .int .u8 97, .int .u8 67] 5 (4, 5))) (by simp)
  dsimp only at hm
  by_cases hlt : i < 4
  ·obtain ⟨y, hy, e1⟩ : ∃ y : Nat, y < 256 ∧ wr.cell? ⟨N + 2, i, none⟩ = some (.int .u8 y) := by
    rw [cell_of_row wr (N + 2) i _ _ _ hm]
    rcases i with _ | _ | _ | _ | i
    ·exact ⟨102, by decide, rfl⟩
    ·exact ⟨76, by decide, rfl⟩
    ·exact ⟨97, by decide, rfl⟩
    ·exact ⟨67, by decide, rfl⟩
    ·omega
   clear hk hb hm
   go_wp2_with fail
   refine (wk_word _ (N + 1) (N + 1) 8 _ y wh _ X.out.1 X.out.2 (by omega) (by omega) (by decide) (by omega)).mono ?_
   rintro e w5 ⟨rfl, hk, hb⟩
   go_wp2_with fail
   go_roundw
   case rel => exact ⟨i + 1, by go_num, by omega, hk, hb⟩
   case measure => simp [intOf]; omega
  ·obtain rfl : i = 4 := by omega
   have X2 := Lib.hid (And.intro X.out.1.unpin X.out.2)
   clear hk hb hm X
   go_upto_if 24 with fail
   go_cut [8] (fun y wx => (∃ v : Nat, v < 2 ∧ y = .int .i64 v) ∧ wx = wr)
   case first =>
    cases last
    ·go_wp2_with fail
     go_meet
     exact ⟨⟨0, by decide, rfl⟩, rfl⟩
    ·go_wp2_with fail
     go_meet
     exact ⟨⟨1, by decide, rfl⟩, rfl⟩
   case rest =>
    obtain ⟨⟨v0, hv0, rfl⟩, rfl⟩ := hcut
    obtain ⟨c1, hc1⟩ : ∃ c1, nc - 1 = c1 := ⟨_, rfl⟩
    obtain ⟨b1, hb1⟩ : ∃ b1, bp - 1 = b1 := ⟨_, rfl⟩
    have ec1 : (nc : Int) - 1 = (c1 : Int) := by omega
    have eb1 : (bp : Int) - 1 = (b1 : Int) := by omega
    have hc1b : c1 < 8 := by omega
    have hb1b : b1 < 24 := by omega
    clear hc1 hb1
    go_wp2_with fail
    refine (wk_word _ (N + 1) (N + 1) 1 _ v0 wh _ X2.out.1 X2.out.2 (by omega) (by omega) (by decide) (by omega)).mono ?_
    rintro e w3 ⟨rfl, hk, hb⟩
    have X3 := Lib.hid (And.intro hk hb)
    obtain ⟨i0, i1, i2, i3, i4, i5, i6, i7, i8⟩ := HD.out w3 hb
    clear hk hb X2
    go_wp2_with fail
    clear i0 i1 i2 i3 i4 i5 i6 i7 i8
    refine (wk_word _ (N + 1) (N + 1) 7 _ 0 wh _ X3.out.1 X3.out.2 (by omega) (by omega) (by decide) (by omega)).mono ?_
    rintro e w4 ⟨rfl, hk, hb⟩
    have X4 := Lib.hid (And.intro hk hb)
    obtain ⟨i0, i1, i2, i3, i4, i5, i6, i7, i8⟩ := HD.out w4 hb
    clear hk hb X3
    go_wp2_with fail
    clear i0 i1 i2 i3 i4 i5 i6 i7 i8
    refine (wk_word _ (N + 1) (N + 1) 24 _ 34 wh _ X4.out.1 X4.out.2 (by omega) (by omega) (by decide) (by omega)).mono ?_
    rintro e w5 ⟨rfl, hk, hb⟩
    have X5 := Lib.hid (And.intro hk hb)
    obtain ⟨i0, i1, i2, i3, i4, i5, i6, i7, i8⟩ := HD.out w5 hb
    clear hk hb X4
    go_wp2_with fail
    clear i0 i1 i2 i3 i4 i5 i6 i7 i8
    refine (wk_word _ (N + 1) (N + 1) 16 _ 16 wh _ X5.out.1 X5.out.2 (by omega) (by omega) (by decide) (by omega)).mono ?_
    rintro e w6 ⟨rfl, hk, hb⟩
    have X6 := Lib.hid (And.intro hk hb)
    obtain ⟨i0, i1, i2, i3, i4, i5, i6, i7, i8⟩ := HD.out w6 hb
    clear hk hb X5
    go_wp2_with fail
    clear i0 i1 i2 i3 i4 i5 i6 i7 i8
    refine (wk_word _ (N + 1) (N + 1) 16 _ 4096 wh _ X6.out.1 X6.out.2 (by omega) (by omega) (by decide) (by omega)).mono ?_
    rintro e w7 ⟨rfl, hk, hb⟩
    have X7 := Lib.hid (And.intro hk hb)
    obtain ⟨i0, i1, i2, i3, i4, i5, i6, i7, i8⟩ := HD.out w7 hb
    clear hk hb X6
    go_wp2_with fail
    clear i0 i1 i2 i3 i4 i5 i6 i7 i8
    refine (wk_word _ (N + 1) (N + 1) 24 _ 0 wh _ X7.out.1 X7.out.2 (by omega) (by omega) (by decide) (by omega)).mono ?_
    rintro e w8 ⟨rfl, hk, hb⟩
    have X8 := Lib.hid (And.intro hk hb)
    obtain ⟨i0, i1, i2, i3, i4, i5, i6, i7, i8⟩ := HD.out w8 hb
    clear hk hb X7
    go_wp2_with fail
    clear i0 i1 i2 i3 i4 i5 i6 i7 i8
    refine (wk_word _ (N + 1) (N + 1) 24 _ 0 wh _ X8.out.1 X8.out.2 (by omega) (by omega) (by decide) (by omega)).mono ?_
    rintro e w9 ⟨rfl, hk, hb⟩
    have X9 := Lib.hid (And.intro hk hb)
    obtain ⟨i0, i1, i2, i3, i4, i5, i6, i7, i8⟩ := HD.out w9 hb
    clear hk hb X8
    go_wp2_with fail
    clear i0 i1 i2 i3 i4 i5 i6 i7 i8
    refine (wk_word _ (N + 1) (N + 1) 20 _ rt wh _ X9.out.1 X9.out.2 (by omega) (by omega) (by decide) (by omega)).mono ?_
    rintro e w10 ⟨rfl, hk, hb⟩
    have X10 := Lib.hid (And.intro hk hb)
    obtain ⟨i0, i1, i2, i3, i4, i5, i6, i7, i8⟩ := HD.out w10 hb
    clear hk hb X9
    go_wp2_with fail
    clear i0 i1 i2 i3 i4 i5 i6 i7 i8
    refine (wk_word _ (N + 1) (N + 1) 3 _ c1 wh _ X10.out.1 X10.out.2 (by omega) (by omega) (by decide) (by omega)).mono ?_
    rintro e w11 ⟨rfl, hk, hb⟩
    have X11 := Lib.hid (And.intro hk hb)
    obtain ⟨i0, i1, i2, i3, i4, i5, i6, i7, i8⟩ := HD.out w11 hb
    clear hk hb X10
    go_wp2_with fail
    clear i0 i1 i2 i3 i4 i5 i6 i7 i8
    refine (wk_word _ (N + 1) (N + 1) 5 _ b1 wh _ X11.out.1 X11.out.2 (by omega) (by omega) (by decide) (by omega)).mono ?_
    rintro e w12 ⟨rfl, hk, hb⟩
    have X12 := Lib.hid (And.intro hk hb)
    obtain ⟨i0, i1, i2, i3, i4, i5, i6, i7, i8⟩ := HD.out w12 hb
    clear hk hb X11
    go_wp2_with fail
    clear i0 i1 i2 i3 i4 i5 i6 i7 i8
    refine (wk_word _ (N + 1) (N + 1) 36 _ ns wh _ X12.out.1 X12.out.2 (by omega) (by omega) (by decide) (by omega)).mono ?_
    rintro e w13 ⟨rfl, hk, hb⟩
    have X13 := Lib.hid (And.intro hk hb)
    obtain ⟨i0, i1, i2, i3, i4, i5, i6, i7, i8⟩ := HD.out w13 hb
    clear hk hb X12
    clear i0 i1 i2 i3 i4 i5 i6 i7
    have HO := Lib.hid (World.ownsRow_lit (base := w13.heap.size) (e := 5) (size := 1) w13 #[] 0 (Nat.le_refl _) (by unfold maxLen; omega) (by simp))
    have i8b : (w13.alloc (.cells #[] 5)).cell? ⟨N, 8, none⟩ = some (.slice none 0 0) := cell_al i8
    obtain ⟨ip, hp0, hp1, hp2, hp3⟩ := info_any (t := 5) (z := .int .u8 0) (s := 1) (b := 1) (by kernel_rfl)
    have HI := Lib.hid (And.intro hp0 (And.intro hp1 (And.intro hp2 hp3)))
    clear hp0 hp1 hp2 hp3 i8
    go_wp2_with (with_reducible refine stop_dst (N := 70) rfl ?_)
    refine unstop ?_
    refine wpList_append_own_none rfl (.tmp 67) (.tmp 69) 23 rfl w13.heap.size 5 ip 1 Tryz.underlying23 HI.out.1 _ 0 [] rfl HO.out rfl ?_
    go_wp2_with (with_reducible refine stop_dst (N := 71) rfl ?_)
    refine unstop ?_
    refine wpl_zeros w13.heap.size rfl (.tmp 70) (.const (.int .i64 16)) rfl (.slice (some ⟨w13.heap.size, 0, none⟩) 0 0) 0 16 [] rfl rfl HO.out (by simp) (by decide) ?_
    intro v9 w9 hO9 hG9
    have hB9 : Below w13.heap.size w13 w9 := by
     have h := hG9
     exact ⟨h.os, h.tape, h.output, Nat.le_trans (by simp) h.size, fun k hk => (h.block k (by simp; omega) (fun e => by simp [Value.ownBlock] at e; omega)).trans (Below.heap_alloc _ _ _ hk)⟩
    rw [List.nil_append, Nat.zero_add] at hO9
    have hk9 := X13.out.1.move (U := []) (Touch.of_below hB9) (by simp) (by simp)
    have hb9 : Below (N + 1) wh w9 := X13.out.2.touch0 (Touch.of_below (S := []) hB9) (by rw [HSH.out.1]; exact Nat.le_refl _)
    obtain ⟨vl, l, hg9, ho9, hlb9, hll9, _, _⟩ := hk9.row
    obtain ⟨A9, c9, rfl, _⟩ := own_reads ho9
    obtain ⟨g9, cp9, rfl, _, _⟩ := hO9.form (by decide)
    have hl26 : l.length = 26 := by omega
    rw [hl26] at ho9 hg9
    have q0 : w9.cell? ⟨N + 1, 0, none⟩ = some (.slice A9 26 c9) := by rw [cell_of_row w9 (N + 1) 0 _ _ _ hg9]; rfl
    have hcp : 16 ≤ cp9 := own_cap' hO9
    have hcpi : (16 : Int) ≤ (cp9 : Int) := by omega
    have hbw9 : Below N w w9 := HSH.out.2.trans ⟨hb9.os, hb9.tape, hb9.output, hb9.size, fun k hk => hb9.block k (by omega)⟩
    have HN := Lib.hid (show ∀ j u, (nums .u8 (List.replicate 16 0))[j]? = some u → w9.cell? ((⟨g9, 0, none⟩ : Addr).add j) = some u from fun j u hu => by
     rw [own_add, hO9.cellAt j (by have := (List.getElem?_eq_some_iff.1 hu).1; simpa [nums] using this)]; exact hu)
    have H1 := Lib.hid (show ∀ u ∈ nums .u8 (List.replicate 16 0), u.oneCell' = true from fun u hu => by
     obtain ⟨x, _, rfl⟩ := List.mem_map.1 hu; rfl)
    have HR := Lib.hid (own_weak ho9 (show N ≤ N + 1 by omega))
    have HB9 := Lib.hid (And.intro hbw9 hl26)
    have HZ9 := Lib.hid (show N ≤ w9.heap.size by rw [← hN]; exact hbw9.size)
    clear hO9 hG9 hB9 hk9 hb9 hg9 ho9 hlb9 hll9 hl26 hbw9 HO i8b
    go_wp2_with fail
    go_region_law (refine step_append_lies _ rfl (.tmp 75) (.tmp 77) 23 rfl N 5 ip (.int .u8 0) 1 1 Tryz.underlying23 HI.out.1 HI.out.2.1 HI.out.2.2.1 HI.out.2.2.2 rfl (by decide) (.slice A9 26 c9) 26 (nums .u8 l) (by simp [Act.eval, Act.put]) HR.out ⟨g9, 0, none⟩ 16 cp9 (nums .u8 (List.replicate 16 0)) (by simp [Act.eval, Act.put]) (by rfl) HN.out H1.out (by decide) (by unfold maxLen; omega) (by omega) HZ9.out _ rfl ?_; intro ga ca w10 hO10 hG10 hA10 hL10)
    all_goals
     go_wp2_with fail
     go_ret
     have hG : w9.grownBy w10 (Value.slice A9 26 c9).ownBlock := ⟨hG10.os, hG10.tape, hG10.output, hG10.size, hG10.block⟩
     have tG := grown_touch hG
     have hb := tG.below (w0 := w) (by rw [hN]; exact HB9.out.1) (fun k hk => by rw [hN]; exact own_base HR.out k (by simpa using hk))
     rw [hN] at hb
     refine ⟨hb, _, l ++ List.replicate 16 0, rfl, ?_, by have := HB9.out.2; simp; omega⟩
     have e : nums .u8 (l ++ List.replicate 16 0) = nums .u8 l ++ nums .u8 (List.replicate 16 0) := by simp [nums]
     rw [e, List.length_append, HB9.out.2]
     exact hO10
set_option maxHeartbeats 16000000 in
set_option maxRecDepth 100000 in
theorem write_block_any {A : Option Addr} {m c : Nat} {ys : List Int} {w : World} (hr : ReadsInt w .u8 A m ys) (hm : m ≤ 1000) :
  Calls Tryz.prog 13 #[.int .i64 1, .slice A m c, .bool true] w fun e w' => Below w.heap.size w w' ∧ ∃ x l, e = .returned x ∧ w'.ownsRow w.heap.size 5 1 x l.length (nums .u8 l) ∧ l.length ≤ 2000 := by
 obtain ⟨N, hN⟩ : ∃ N, w.heap.size = N := ⟨_, rfl⟩
 rw [hN]
 have HR := Lib.hid hr
 clear hr
 go_enter Tryz.func13, Tryz.ntmps13
 go_wp2_with fail
 obtain ⟨w1, hw1⟩ : ∃ w1, w.alloc (.cells #[.slice none 0 0, .int .i64 0] 101) = w1 := ⟨_, rfl⟩
 have hb1 : Below N w w1 := by rw [← hw1, ← hN]; exact below_alloc (Below.refl _ _) _
 have hk1 : Wk [] N N 0 w1 := ⟨⟨[], 0, 0⟩, ⟨⟨show 0 < 8 by decide, show 0 < 2 ^ 0 by decide⟩, Nat.le_refl _, .slice none 0 0, by rw [← hw1, ← hN]; exact heap_alloc_new _ _, World.ownsRow_nil _ _ _ _, by simp [Value.ownBlock], by simp⟩, rfl, by simp⟩
 have X1 := Lib.hid (And.intro hk1 hb1)
 rw [hw1]
 clear hw1 hb1 hk1
 refine (wk_word _ N N 1 _ 1 w _ X1.out.1 X1.out.2 (by omega) (by omega) (by decide) (by omega)).mono ?_
 rintro e w2 ⟨rfl, hk, hb⟩
 have X2 := Lib.hid (And.intro hk hb)
 clear hk hb X1
 go_wp2_with fail
 refine (wk_word _ N N 7 _ 1 w _ X2.out.1 X2.out.2 (by omega) (by omega) (by decide) (by omega)).mono ?_
 rintro e w3 ⟨rfl, hk, hb⟩
 have X3 := Lib.hid (And.intro hk hb)
 clear hk hb X2
 go_wp2_with fail
 refine (wk_word _ N N 24 _ m w _ X3.out.1 X3.out.2 (by omega) (by omega) (by decide) (by omega)).mono ?_
 rintro e w4 ⟨rfl, hk, hb⟩
 obtain ⟨vl, l, hg, ho, hlb, hll, _, _⟩ := hk.row
 obtain ⟨A9, c9, rfl, _⟩ := own_reads ho
 have q0 : w4.cell? ⟨N, 0, none⟩ = some (.slice A9 l.length c9) := by rw [cell_of_row w4 N 0 _ _ _ hg]; rfl
 have HO := Lib.hid (And.intro ho (And.intro hb (HR.out.below (by rw [hN]; exact hb))))
 have hll4 : l.length = 4 := hll
 clear hk hb hg ho hlb hll X3
 go_wp2_with (with_reducible refine stop_dst (N := 27) rfl ?_)
 refine unstop ?_
 refine print_append_row (w0 := w) N rfl (.tmp 25) (.tmp 26) 23 5 .u8 1 rfl Tryz.underlying23 infoU8 (by decide) (.slice A9 l.length c9) l ys A m c ?aS1 ?aS2 ?aO ?aR ?aB ?aS ?aL ?_
 case aS1 => simp [Act.eval, hll4]
 case aS2 => rfl
 case aO => exact HO.out.1
 case aR => exact HO.out.2.2
 case aB => exact HO.out.2.1
 case aS => rw [← hN]; exact HO.out.2.1.size
 case aL => have := HR.out.1; omega
 intro v9 w9 hO9 hB9 _ _
 go_wp2_with fail
 go_ret
 exact ⟨hB9, _, l ++ ys, rfl, hO9, by have := HR.out.1; simp; omega⟩
end Go.Proofs.YtmcllndnjdemaaaGreatDoor.Walk
