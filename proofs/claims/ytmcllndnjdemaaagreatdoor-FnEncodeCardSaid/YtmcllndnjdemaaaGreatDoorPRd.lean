/- Contracts that print.sh printed for this claim (spec_reader_word, spec_reader_unary, spec_reader_signed, spec_Unfolded, spec_fits, spec_fixedOf, spec_Channels, spec_sideOf), cut out and mended in places by wip/pcut.py. -/
import Derived.Test.YtmcllndnjdemaaaGreatDoorPFnEncodex0
namespace Go.Proofs.YtmcllndnjdemaaaGreatDoor.PFnEncode
open Go.RowKit Go.Proofs.YtmcllndnjdemaaaGreatDoorW.PrintWords Go.Proofs.YtmcllndnjdemaaaGreatDoorW.PrintLast Go.Proofs.YtmcllndnjdemaaaGreatDoorW.PrintMore
attribute [local go_sem] max2_int min2_int max_two min_two max_three min_three max_four min_four   -- for this text's walks alone
set_option linter.unusedVariables false
set_option linter.unusedSimpArgs false
def IsS156 (w0 W : World) (g : Nat) (f0 : List Int) (f1 : Int) (f2 : Bool) : Prop := ∃ A0 c0, W.heap[g]? = some (.cells #[.slice A0 f0.length c0, .int .i64 f1, .bool f2] 156 (0, 0)) ∧ w0.heap.size ≤ g ∧ Kd.C (Kd.int .u8) w0 A0 f0.length f0
theorem IsS156.grown {w0 W : World} {g : Nat} {f0 : List Int} {f1 : Int} {f2 : Bool} {W1 : World} {row : Option Nat} (h : IsS156 w0 W g f0 f1 f2) (hw : W.grownBy W1 row) (hne : some g ≠ row) : IsS156 w0 W1 g f0 f1 f2 := by
 obtain ⟨A0, c0, hb, hg, hr0⟩ := h
 exact ⟨A0, c0, blk_grown hb hw hne, hg, hr0⟩
theorem IsS156.kept {w0 W : World} {g : Nat} {f0 : List Int} {f1 : Int} {f2 : Bool} {W1 : World} {S : Nat → Prop} (h : IsS156 w0 W g f0 f1 f2) (hk : Kept W W1 S) (hne : ¬ S g) : IsS156 w0 W1 g f0 f1 f2 := by
 obtain ⟨A0, c0, hb, hg, hr0⟩ := h
 exact ⟨A0, c0, blk_kept hb hk hne, hg, hr0⟩
theorem IsS156.below {w0 W : World} {g : Nat} {f0 : List Int} {f1 : Int} {f2 : Bool} {W1 : World} (h : IsS156 w0 W g f0 f1 f2) (hw : Below W.heap.size W W1) : IsS156 w0 W1 g f0 f1 f2 := h.grown (grown_of_below hw none) (by simp)
theorem IsS156.alloc {w0 W : World} {g : Nat} {f0 : List Int} {f1 : Int} {f2 : Bool} (h : IsS156 w0 W g f0 f1 f2) (o : Obj) : IsS156 w0 (W.alloc o) g f0 f1 f2 := h.below (below_alloc (Below.refl _ _) o)
theorem IsS156.drewN {w0 W : World} {g : Nat} {f0 : List Int} {f1 : Int} {f2 : Bool} (h : IsS156 w0 W g f0 f1 f2) (m : Nat) : IsS156 w0 (W.drewN m) g f0 f1 f2 := h
theorem IsS156.drew {w0 W : World} {g : Nat} {f0 : List Int} {f1 : Int} {f2 : Bool} (h : IsS156 w0 W g f0 f1 f2) : IsS156 w0 W.drew g f0 f1 f2 := h
theorem IsS156.apart {w0 W : World} {g : Nat} {f0 : List Int} {f1 : Int} {f2 : Bool} {α : Type} {d : Kd α} {e : Nat} {base : Nat} {ok : Nat → Prop} {v : Value} {xs : List α} (h : IsS156 w0 W g f0 f1 f2) (ho : d.R e W base ok v xs) (ht : ∀ q, q ∈ e :: d.E → q ≠ 156) : d.R e W base (fun k => ok k ∧ k ≠ g) v xs := by
 obtain ⟨A0, c0, hb, hg, hr0⟩ := h
 exact Kd.R_types ho hb ht
theorem IsS156.lt {w0 W : World} {g : Nat} {f0 : List Int} {f1 : Int} {f2 : Bool} (h : IsS156 w0 W g f0 f1 f2) : g < W.heap.size := by
 obtain ⟨A0, c0, hb, hg, hr0⟩ := h
 exact blk_lt hb
theorem IsS156.ge {w0 W : World} {g : Nat} {f0 : List Int} {f1 : Int} {f2 : Bool} (h : IsS156 w0 W g f0 f1 f2) : w0.heap.size ≤ g := by
 obtain ⟨A0, c0, hb, hg, hr0⟩ := h
 exact hg
theorem cellS156_0 {W : World} {g : Nat} {A0 : Option Addr} {c0 : Nat} {f0 : List Int} {f1 : Int} {f2 : Bool} (h : W.heap[g]? = some (.cells #[.slice A0 f0.length c0, .int .i64 f1, .bool f2] 156 (0, 0))) : W.cell? ⟨g, 0, none⟩ = some (.slice A0 f0.length c0) := (blk_cell h 0).trans rfl
theorem cellS156_1 {W : World} {g : Nat} {A0 : Option Addr} {c0 : Nat} {f0 : List Int} {f1 : Int} {f2 : Bool} (h : W.heap[g]? = some (.cells #[.slice A0 f0.length c0, .int .i64 f1, .bool f2] 156 (0, 0))) : W.cell? ⟨g, 1, none⟩ = some (.int .i64 f1) := (blk_cell h 1).trans rfl
theorem IsS156.set_1 {w0 W : World} {g : Nat} {f0 : List Int} {f1 : Int} {f2 : Bool} (h : IsS156 w0 W g f0 f1 f2) (x : Int) : IsS156 w0 (W.setCell ⟨g, 1, none⟩ (.int .i64 x)) g f0 x f2 := by
 obtain ⟨A0, c0, hb, hg, hr0⟩ := h
 exact ⟨A0, c0, by simpa using blk_set hb 1 (.int .i64 x), hg, hr0⟩
theorem cellS156_2 {W : World} {g : Nat} {A0 : Option Addr} {c0 : Nat} {f0 : List Int} {f1 : Int} {f2 : Bool} (h : W.heap[g]? = some (.cells #[.slice A0 f0.length c0, .int .i64 f1, .bool f2] 156 (0, 0))) : W.cell? ⟨g, 2, none⟩ = some (.bool f2) := (blk_cell h 2).trans rfl
theorem IsS156.set_2 {w0 W : World} {g : Nat} {f0 : List Int} {f1 : Int} {f2 : Bool} (h : IsS156 w0 W g f0 f1 f2) (x : Bool) : IsS156 w0 (W.setCell ⟨g, 2, none⟩ (.bool x)) g f0 f1 x := by
 obtain ⟨A0, c0, hb, hg, hr0⟩ := h
 exact ⟨A0, c0, by simpa using blk_set hb 2 (.bool x), hg, hr0⟩
def spec_reader_word.l0 : Nat → Int → Int → Int → List Int → Int → Bool → Option (Int × Int × Bool)
 | 0, _, _, _, _, _, _ => none
 | k + 1, x5, x6, x7, x1000, x1001, x1002 => if x7 < x6 then (if (x1001 / 8) < (x1000.length : Int) then (if 0 ≤ (x1001 / 8) then (if 0 ≤ (wrap64 (7 - (Go.bits .and .i64 x1001 7))) then (spec_reader_word.l0 k (Go.bits .or .i64 (wrap64 (x5 * 2)) (Go.bits .and .i64 (shr .i64 (wrap64 (rd x1000 (x1001 / 8))) (wrap64 (7 - (Go.bits .and .i64 x1001 7)))) 1)) x6 (wrap64 (x7 + 1)) x1000 (wrap64 (x1001 + 1)) x1002) else (none)) else (none)) else (spec_reader_word.l0 k (wrap64 (x5 * 2)) x6 (wrap64 (x7 + 1)) x1000 (wrap64 (x1001 + 1)) true)) else (some (x5, x1001, x1002))
def spec_reader_word.f (k : Nat) (s0_0 : List Int) (s0_1 : Int) (s0_2 : Bool) (a1 : Int) : Option (Int × Int × Bool) := spec_reader_word.l0 k 0 a1 0 s0_0 s0_1 s0_2
theorem spec_reader_word.mono_l : ∀ k, (∀ y0 y1 y2 y3 y4 y5, LeO (spec_reader_word.l0 k y0 y1 y2 y3 y4 y5) (spec_reader_word.l0 (k + 1) y0 y1 y2 y3 y4 y5))
 | 0 => fun _ _ _ _ _ _ r h => by simp [spec_reader_word.l0] at h
 | k + 1 => by
  have ih0 := spec_reader_word.mono_l k
  ·intro y0 y1 y2 y3 y4 y5
   unfold spec_reader_word.l0
   repeat' first
   | (with_reducible exact ih0 _ _ _ _ _ _)
   | (with_reducible exact LeO.refl _)
   | (with_reducible exact LeO.none _)
   | (with_reducible refine LeO.ite ?_ ?_)
   | (with_reducible refine LeO.bind ?_ (fun _ => ?_))
   | exact ih0 _ _ _ _ _ _
   | exact LeO.none _
   | refine LeO.ite ?_ ?_
   | refine LeO.bind ?_ (fun _ => ?_)
theorem spec_reader_word.mono : ∀ a0 a1 a2 a3 k, LeO (spec_reader_word.f k a0 a1 a2 a3) (spec_reader_word.f (k + 1) a0 a1 a2 a3) := by
 intro a0 a1 a2 a3 k
 have ih0 := spec_reader_word.mono_l k
 unfold spec_reader_word.f
 repeat' first
   | (with_reducible exact ih0 _ _ _ _ _ _)
   | (with_reducible exact LeO.refl _)
   | (with_reducible exact LeO.none _)
   | (with_reducible refine LeO.ite ?_ ?_)
   | (with_reducible refine LeO.bind ?_ (fun _ => ?_))
   | exact ih0 _ _ _ _ _ _
   | exact LeO.none _
   | refine LeO.ite ?_ ?_
   | refine LeO.bind ?_ (fun _ => ?_)
set_option maxHeartbeats 8000000 in
set_option maxRecDepth 100000 in
theorem spec_reader_word.calls (k : Nat) (g : Nat) (s0_0 : List Int) (s0_1 : Int) (s0_2 : Bool) (a1 : Int) (r1 : Int) (r2 : Int) (r3 : Bool) (w0 w : World) (hI : IsS156 w0 w g s0_0 s0_1 s0_2) (hB : Below w0.heap.size w0 w) (h : spec_reader_word.f k s0_0 s0_1 s0_2 a1 = some (r1, r2, r3)) :
  Calls Tryz.prog 48 #[.pointer (some ⟨g, 0, none⟩), .int .i64 a1] w fun e w' => e = .returned (.int .i64 r1) ∧ IsS156 w0 w' g s0_0 r2 r3 ∧ Below w0.heap.size w0 w' ∧ KeepBut w w' g none := by
 have HI0 := Aside0.mk hI
 have HK := Aside0.mk (KeepBut.refl w g none)
 have HL := Aside0.mk hB.size
 clear hI
 have HW0 := Aside0.mk hB.size
 have HB := Aside0.mk hB
 clear hB
 have H : (spec_reader_word.l0 k 0 a1 0 s0_0 s0_1 s0_2) = some (r1, r2, r3) := h
 clear h
 have H' := Aside0.mk H
 clear H
 go_enter Tryz.func48, Tryz.ntmps48
 go_wp2
 repeat (go_quiet (fail); try go_wp2)
 go_loopg [5, 7] k (fun kq v5 v7 w' => ∃ (x5_1 : Int) (x7_1 : Int) (x1001_1 : Int) (x1002_1 : Bool), v5 = .int .i64 x5_1 ∧ v7 = .int .i64 x7_1 ∧ Aside0 (spec_reader_word.l0 kq x5_1 a1 x7_1 s0_0 x1001_1 x1002_1 = some (r1, r2, r3)) ∧ Aside0 (kq ≤ k) ∧ Aside0 (IsS156 w0 w' g s0_0 x1001_1 x1002_1) ∧ Aside0 (KeepBut w w' g none) ∧ Aside0 (Below w0.heap.size w0 w'))
 case atStart => exact ⟨(0), (0), (s0_1), (s0_2), (by first | rfl | (simp; done) | (simp [*]; done)), (by first | rfl | (simp; done) | (simp [*]; done)), H', ⟨Nat.le_refl _⟩, ⟨by repeat (first | (with_reducible first | exact HI0.out | apply IsS156.alloc | apply IsS156.drewN | apply IsS156.drew | apply IsS156.set_1 | apply IsS156.set_2) | exact HI0.out)⟩, ⟨by repeat (first | (with_reducible first | exact HK.out | apply KeepBut.set_ | apply keep_drewN | apply keep_drew | apply keep_alloc) | exact HK.out)⟩, ⟨by repeat (first | (with_reducible first | exact HB.out | apply below_alloc | apply pw_below_drewN | apply below_drew1 | refine below_set ?_ (IsS156.ge HI0.out)) | exact HB.out)⟩⟩
 case round =>
  clear H'
  try clear p2
  obtain ⟨x5_1, x7_1, x1001_1, x1002_1, rfl, rfl, HA, HK1, HI0, HK, HB⟩ := hrel
  cases gk with
  | zero => exact absurd HA.out (by simp [spec_reader_word.l0])
  | succ k1 =>
   have H := HA.out
   clear HA
   simp only [spec_reader_word.l0] at H
   by_cases c3 : x7_1 < a1
   ·rw [if_pos c3] at H
    have c3b0 : decide (x7_1 < a1) = true := decide_eq_true c3
    clear c3
    by_cases c4 : (x1001_1 / 8) < (s0_0.length : Int)
    ·rw [if_pos c4] at H
     have c4b0 : decide ((x1001_1 / 8) < (s0_0.length : Int)) = true := decide_eq_true c4
     clear c4
     obtain ⟨ji5, hji5⟩ : ∃ j_ : Int, (x1001_1 / 8) = j_ := ⟨_, rfl⟩
     replace H : (if 0 ≤ (ji5) then (if 0 ≤ (wrap64 (7 - (Go.bits .and .i64 x1001_1 7))) then (spec_reader_word.l0 k1 (Go.bits .or .i64 (wrap64 (x5_1 * 2)) (Go.bits .and .i64 (shr .i64 (wrap64 (rd s0_0 (ji5))) (wrap64 (7 - (Go.bits .and .i64 x1001_1 7)))) 1)) a1 (wrap64 (x7_1 + 1)) s0_0 (wrap64 (x1001_1 + 1)) x1002_1) else (none)) else (none)) = some (r1, r2, r3) := by first | (rw [hji5] at H; exact H) | (simp only [hji5] at H ⊢; exact H)
     (try rw [hji5] at c4b0)
     by_cases c6 : 0 ≤ (ji5)
     ·rw [if_pos c6] at H
      have c6b0 : decide (0 ≤ (ji5)) = true := decide_eq_true c6
      clear c6
      obtain ⟨ji7, hji7⟩ : ∃ j_ : Int, (wrap64 (7 - (Go.bits .and .i64 x1001_1 7))) = j_ := ⟨_, rfl⟩
      replace H : (if 0 ≤ (ji7) then (spec_reader_word.l0 k1 (Go.bits .or .i64 (wrap64 (x5_1 * 2)) (Go.bits .and .i64 (shr .i64 (wrap64 (rd s0_0 (ji5))) (ji7)) 1)) a1 (wrap64 (x7_1 + 1)) s0_0 (wrap64 (x1001_1 + 1)) x1002_1) else (none)) = some (r1, r2, r3) := by first | (rw [hji7] at H; exact H) | (simp only [hji7] at H ⊢; exact H)
      have hji7w : (IntKind.i64.wrap (7 - (Go.bits .and .i64 x1001_1 7))) = ji7 := (i64_w _).trans hji7
      by_cases c8 : 0 ≤ (ji7)
      ·rw [if_pos c8] at H
       have c8b0 := eq_true c8
       have c8b1 : decide (0 ≤ (ji7)) = true := decide_eq_true c8
       clear c8
       obtain ⟨ji9, hji9⟩ : ∃ j_ : Int, (shr .i64 (wrap64 (rd s0_0 (ji5))) (ji7)) = j_ := ⟨_, rfl⟩
       replace H : (spec_reader_word.l0 k1 (Go.bits .or .i64 (wrap64 (x5_1 * 2)) (Go.bits .and .i64 (ji9) 1)) a1 (wrap64 (x7_1 + 1)) s0_0 (wrap64 (x1001_1 + 1)) x1002_1) = some (r1, r2, r3) := by first | (rw [hji9] at H; exact H) | (simp only [hji9] at H ⊢; exact H)
       have hji9_ : ((wrap64 (rd s0_0 (ji5))) / 2 ^ min (ji7).toNat 64) = ji9 := hji9
       have hji9z : (ji7) ≤ 64 → ((wrap64 (rd s0_0 (ji5))) / 2 ^ (ji7).toNat) = ji9 := shr_small hji9
       have H' := Aside0.mk H
       clear H
       obtain ⟨ASz10_0, cSz10_0, HGz10, hgz10, HSz10_0⟩ := HI0.out
       have hcz10_0 := cellS156_0 HGz10
       have hcz10_1 := cellS156_1 HGz10
       have hcz10_2 := cellS156_2 HGz10
       have hfz10_1 := blk_frozen HGz10 1
       have hfz10_2 := blk_frozen HGz10 2
       clear HGz10 hgz10
       have p387 : 0 ≤ ((ji5) : Int) := of_decide_eq_true (by first | (with_reducible assumption) | assumption)
       have q387 : (ji5) < (s0_0.length : Int) := of_decide_eq_true (by first | (with_reducible assumption) | assumption)
       obtain ⟨ad387, e387, hx387_0⟩ := Kd.at_int HSz10_0 (ji5) p387 q387
       cases e387
       replace hx387_0 := pw_cell_below HB.out hx387_0
       replace p387 := eq_true p387
       replace q387 := eq_true q387
       go_wp2
       repeat (go_quiet (fail); try go_wp2)
       go_roundg k1
       case measure => have := HK1.out; omega
       case rel => exact ⟨(Go.bits .or .i64 (wrap64 (x5_1 * 2)) (Go.bits .and .i64 (ji9) 1)), (wrap64 (x7_1 + 1)), (wrap64 (x1001_1 + 1)), (x1002_1), (by first | rfl | (simp; done) | (simp only [← hji9] <;> (first | rfl | simp)) | (simp [*]; done)), (by first | rfl | (simp; done) | (simp [*]; done)), H', ⟨by have := HK1.out; omega⟩, ⟨by repeat (first | (with_reducible first | exact HI0.out | apply IsS156.alloc | apply IsS156.drewN | apply IsS156.drew | apply IsS156.set_1 | apply IsS156.set_2) | exact HI0.out)⟩, ⟨by repeat (first | (with_reducible first | exact HK.out | apply KeepBut.set_ | apply keep_drewN | apply keep_drew | apply keep_alloc) | exact HK.out)⟩, ⟨by repeat (first | (with_reducible first | exact HB.out | apply below_alloc | apply pw_below_drewN | apply below_drew1 | refine below_set ?_ (IsS156.ge HI0.out)) | exact HB.out)⟩⟩
      ·rw [if_neg c8] at H
       exact absurd H (by simp)
     ·rw [if_neg c6] at H
      exact absurd H (by simp)
    ·rw [if_neg c4] at H
     have c4b0 : decide ((x1001_1 / 8) < (s0_0.length : Int)) = false := decide_eq_false c4
     clear c4
     have H' := Aside0.mk H
     clear H
     obtain ⟨ASz11_0, cSz11_0, HGz11, hgz11, HSz11_0⟩ := HI0.out
     have hcz11_0 := cellS156_0 HGz11
     have hcz11_1 := cellS156_1 HGz11
     have hcz11_2 := cellS156_2 HGz11
     have hfz11_1 := blk_frozen HGz11 1
     have hfz11_2 := blk_frozen HGz11 2
     clear HGz11 hgz11
     go_wp2
     repeat (go_quiet (fail); try go_wp2)
     go_roundg k1
     case measure => have := HK1.out; omega
     case rel => exact ⟨(wrap64 (x5_1 * 2)), (wrap64 (x7_1 + 1)), (wrap64 (x1001_1 + 1)), (true), (by first | rfl | (simp; done) | (simp [*]; done)), (by first | rfl | (simp; done) | (simp [*]; done)), H', ⟨by have := HK1.out; omega⟩, ⟨by repeat (first | (with_reducible first | exact HI0.out | apply IsS156.alloc | apply IsS156.drewN | apply IsS156.drew | apply IsS156.set_1 | apply IsS156.set_2) | exact HI0.out)⟩, ⟨by repeat (first | (with_reducible first | exact HK.out | apply KeepBut.set_ | apply keep_drewN | apply keep_drew | apply keep_alloc) | exact HK.out)⟩, ⟨by repeat (first | (with_reducible first | exact HB.out | apply below_alloc | apply pw_below_drewN | apply below_drew1 | refine below_set ?_ (IsS156.ge HI0.out)) | exact HB.out)⟩⟩
   ·rw [if_neg c3] at H
    have c3b0 : decide (x7_1 < a1) = false := decide_eq_false c3
    clear c3
    simp only [Option.some.injEq, Prod.mk.injEq] at H
    obtain ⟨rfl, rfl, rfl⟩ := H
    go_wp2
    repeat (go_quiet (fail); try go_wp2)
    go_ret
    exact ⟨by first | rfl | (simp [errW_none, errW_some] <;> rfl) | (simp [*, errW_none, errW_some] <;> rfl), by repeat (first | (with_reducible first | exact HI0.out | apply IsS156.alloc | apply IsS156.drewN | apply IsS156.drew | apply IsS156.set_1 | apply IsS156.set_2) | exact HI0.out), by repeat (first | (with_reducible first | exact HB.out | apply below_alloc | apply pw_below_drewN | apply below_drew1 | refine below_set ?_ (IsS156.ge HI0.out)) | exact HB.out), by repeat (first | (with_reducible first | exact HK.out | apply KeepBut.set_ | apply keep_drewN | apply keep_drew | apply keep_alloc) | exact HK.out)⟩
def spec_reader_unary.l0 : Nat → Int → List Int → Int → Bool → Option (Int × Int × Bool)
 | 0, _, _, _, _ => none
 | k + 1, x3, x1000, x1001, x1002 => if x1002 = true then (some (x3, x1001, x1002)) else ((spec_reader_word.f k x1000 x1001 x1002 1).bind fun bt508 => (if bt508.1 = 0 then (spec_reader_unary.l0 k (wrap64 (x3 + 1)) x1000 bt508.2.1 bt508.2.2) else (some (x3, bt508.2.1, bt508.2.2))))
def spec_reader_unary.f (k : Nat) (s0_0 : List Int) (s0_1 : Int) (s0_2 : Bool) : Option (Int × Int × Bool) := spec_reader_unary.l0 k 0 s0_0 s0_1 s0_2
set_option maxHeartbeats 8000000 in
set_option maxRecDepth 100000 in
theorem spec_reader_unary.calls (k : Nat) (g : Nat) (s0_0 : List Int) (s0_1 : Int) (s0_2 : Bool) (r1 : Int) (r2 : Int) (r3 : Bool) (w0 w : World) (hI : IsS156 w0 w g s0_0 s0_1 s0_2) (hB : Below w0.heap.size w0 w) (h : spec_reader_unary.f k s0_0 s0_1 s0_2 = some (r1, r2, r3)) :
  Calls Tryz.prog 91 #[.pointer (some ⟨g, 0, none⟩)] w fun e w' => e = .returned (.int .i64 r1) ∧ IsS156 w0 w' g s0_0 r2 r3 ∧ Below w0.heap.size w0 w' ∧ KeepBut w w' g none := by
 have HI0 := Aside0.mk hI
 have HK := Aside0.mk (KeepBut.refl w g none)
 have HL := Aside0.mk hB.size
 clear hI
 have HW0 := Aside0.mk hB.size
 have HB := Aside0.mk hB
 clear hB
 have H : (spec_reader_unary.l0 k 0 s0_0 s0_1 s0_2) = some (r1, r2, r3) := h
 clear h
 have H' := Aside0.mk H
 clear H
 go_enter Tryz.func91, Tryz.ntmps91
 go_wp2
 go_loopg [3] k (fun kq v3 w' => ∃ (x3_1 : Int) (x1001_1 : Int) (x1002_1 : Bool), v3 = .int .i64 x3_1 ∧ Aside0 (spec_reader_unary.l0 kq x3_1 s0_0 x1001_1 x1002_1 = some (r1, r2, r3)) ∧ Aside0 (kq ≤ k) ∧ Aside0 (IsS156 w0 w' g s0_0 x1001_1 x1002_1) ∧ Aside0 (KeepBut w w' g none) ∧ Aside0 (Below w0.heap.size w0 w'))
 case atStart => exact ⟨(0), (s0_1), (s0_2), (by first | rfl | (simp; done) | (simp [*]; done)), H', ⟨Nat.le_refl _⟩, ⟨by repeat (first | (with_reducible first | exact HI0.out | apply IsS156.alloc | apply IsS156.drewN | apply IsS156.drew | apply IsS156.set_1 | apply IsS156.set_2) | exact HI0.out)⟩, ⟨by repeat (first | (with_reducible first | exact HK.out | apply KeepBut.set_ | apply keep_drewN | apply keep_drew | apply keep_alloc) | exact HK.out)⟩, ⟨by repeat (first | (with_reducible first | exact HB.out | apply below_alloc | apply pw_below_drewN | apply below_drew1 | refine below_set ?_ (IsS156.ge HI0.out)) | exact HB.out)⟩⟩
 case round =>
  clear H'
  obtain ⟨x3_1, x1001_1, x1002_1, rfl, HA, HK1, HI0, HK, HB⟩ := hrel
  cases gk with
  | zero => exact absurd HA.out (by simp [spec_reader_unary.l0])
  | succ k1 =>
   have H := HA.out
   clear HA
   simp only [spec_reader_unary.l0] at H
   by_cases c2 : x1002_1 = true
   ·subst c2
    have H1 : (some (x3_1, x1001_1, true)) = some (r1, r2, r3) := by rw [if_pos rfl] at H; exact H
    clear H
    have H := H1
    clear H1
    simp only [Option.some.injEq, Prod.mk.injEq] at H
    obtain ⟨rfl, rfl, rfl⟩ := H
    obtain ⟨ASz3_0, cSz3_0, HGz3, hgz3, HSz3_0⟩ := HI0.out
    have hcz3_0 := cellS156_0 HGz3
    have hcz3_1 := cellS156_1 HGz3
    have hcz3_2 := cellS156_2 HGz3
    have hfz3_1 := blk_frozen HGz3 1
    have hfz3_2 := blk_frozen HGz3 2
    clear HGz3 hgz3
    go_wp2
    go_ret
    exact ⟨by first | rfl | (simp [errW_none, errW_some] <;> rfl) | (simp [*, errW_none, errW_some] <;> rfl), by repeat (first | (with_reducible first | exact HI0.out | apply IsS156.alloc | apply IsS156.drewN | apply IsS156.drew | apply IsS156.set_1 | apply IsS156.set_2) | exact HI0.out), by repeat (first | (with_reducible first | exact HB.out | apply below_alloc | apply pw_below_drewN | apply below_drew1 | refine below_set ?_ (IsS156.ge HI0.out)) | exact HB.out), by repeat (first | (with_reducible first | exact HK.out | apply KeepBut.set_ | apply keep_drewN | apply keep_drew | apply keep_alloc) | exact HK.out)⟩
   ·replace c2 := Bool.eq_false_iff.mpr c2
    subst c2
    have H1 : ((spec_reader_word.f k1 s0_0 x1001_1 false 1).bind fun bt508 => (if bt508.1 = 0 then (spec_reader_unary.l0 k1 (wrap64 (x3_1 + 1)) s0_0 bt508.2.1 bt508.2.2) else (some (x3_1, bt508.2.1, bt508.2.2)))) = some (r1, r2, r3) := by rw [if_neg (show ¬ (false = true) by decide)] at H; exact H
    clear H
    have H := H1
    clear H1
    replace H := Option.bind_eq_some_iff.mp H
    obtain ⟨⟨t508, t509, t510⟩, A40, H⟩ := H
    replace H : (if t508 = 0 then (spec_reader_unary.l0 k1 (wrap64 (x3_1 + 1)) s0_0 t509 t510) else (some (x3_1, t509, t510))) = some (r1, r2, r3) := H
    have A4 := Aside0.mk A40
    clear A40
    by_cases c5 : t508 = 0
    ·rw [if_pos c5] at H
     have c5b0 : (t508 == 0) = true := beq_iff_eq.mpr c5
     have c5b1 : (t508 != 0) = false := bne_eq_false_iff_eq.mpr c5
     clear c5
     have H' := Aside0.mk H
     clear H
     obtain ⟨ASz6_0, cSz6_0, HGz6, hgz6, HSz6_0⟩ := HI0.out
     have hcz6_0 := cellS156_0 HGz6
     have hcz6_1 := cellS156_1 HGz6
     have hcz6_2 := cellS156_2 HGz6
     have hfz6_1 := blk_frozen HGz6 1
     have hfz6_2 := blk_frozen HGz6 2
     clear HGz6 hgz6
     go_wp2_with (first | (go_at_call 48; (with_reducible refine (spec_reader_word.calls k1 g s0_0 x1001_1 false 1 t508 t509 t510 w0 _ ?side1 ?side2 A4.out).mono ?_); (case side1 => repeat (first | (with_reducible first | exact HI0.out | apply IsS156.alloc | apply IsS156.drewN | apply IsS156.drew | apply IsS156.set_1 | apply IsS156.set_2) | exact HI0.out)); (case side2 => repeat (first | (with_reducible first | exact HB.out | apply below_alloc | apply pw_below_drewN | apply below_drew1 | refine below_set ?_ (IsS156.ge HI0.out)) | exact HB.out)); rintro e w7 ⟨rfl, hi, hb, hk⟩; have n0_ := Aside0.mk (KeepBut.trans (by repeat (first | (with_reducible first | exact HK.out | apply KeepBut.set_ | apply keep_drewN | apply keep_drew | apply keep_alloc) | exact HK.out)) hk (.inl rfl)); have n1_ := Aside0.mk (hb); have n2_ := Aside0.mk (hi); clear HK; clear HB; clear HI0; have HK := n0_; have HB := n1_; have HI0 := n2_; clear n0_ n1_ n2_; (try clear hb); (try clear hb2); (try clear hk); (try clear hi)))
     go_roundg k1
     case measure => have := HK1.out; omega
     case rel => exact ⟨(wrap64 (x3_1 + 1)), (t509), (t510), (by first | rfl | (simp; done) | (simp [*]; done)), H', ⟨by have := HK1.out; omega⟩, ⟨by repeat (first | (with_reducible first | exact HI0.out | apply IsS156.alloc | apply IsS156.drewN | apply IsS156.drew | apply IsS156.set_1 | apply IsS156.set_2) | exact HI0.out)⟩, ⟨by repeat (first | (with_reducible first | exact HK.out | apply KeepBut.set_ | apply keep_drewN | apply keep_drew | apply keep_alloc) | exact HK.out)⟩, ⟨by repeat (first | (with_reducible first | exact HB.out | apply below_alloc | apply pw_below_drewN | apply below_drew1 | refine below_set ?_ (IsS156.ge HI0.out)) | exact HB.out)⟩⟩
    ·rw [if_neg c5] at H
     have c5b0 : (t508 == 0) = false := beq_eq_false_iff_ne.mpr c5
     have c5b1 : (t508 != 0) = true := bne_iff_ne.mpr c5
     simp only [Option.some.injEq, Prod.mk.injEq] at H
     obtain ⟨rfl, rfl, rfl⟩ := H
     obtain ⟨ASz8_0, cSz8_0, HGz8, hgz8, HSz8_0⟩ := HI0.out
     have hcz8_0 := cellS156_0 HGz8
     have hcz8_1 := cellS156_1 HGz8
     have hcz8_2 := cellS156_2 HGz8
     have hfz8_1 := blk_frozen HGz8 1
     have hfz8_2 := blk_frozen HGz8 2
     clear HGz8 hgz8
     go_wp2_with (first | (go_at_call 48; (with_reducible refine (spec_reader_word.calls k1 g s0_0 x1001_1 false 1 t508 t509 t510 w0 _ ?side1 ?side2 A4.out).mono ?_); (case side1 => repeat (first | (with_reducible first | exact HI0.out | apply IsS156.alloc | apply IsS156.drewN | apply IsS156.drew | apply IsS156.set_1 | apply IsS156.set_2) | exact HI0.out)); (case side2 => repeat (first | (with_reducible first | exact HB.out | apply below_alloc | apply pw_below_drewN | apply below_drew1 | refine below_set ?_ (IsS156.ge HI0.out)) | exact HB.out)); rintro e w9 ⟨rfl, hi, hb, hk⟩; have n0_ := Aside0.mk (KeepBut.trans (by repeat (first | (with_reducible first | exact HK.out | apply KeepBut.set_ | apply keep_drewN | apply keep_drew | apply keep_alloc) | exact HK.out)) hk (.inl rfl)); have n1_ := Aside0.mk (hb); have n2_ := Aside0.mk (hi); clear HK; clear HB; clear HI0; have HK := n0_; have HB := n1_; have HI0 := n2_; clear n0_ n1_ n2_; (try clear hb); (try clear hb2); (try clear hk); (try clear hi)))
     go_ret
     exact ⟨by first | rfl | (simp [errW_none, errW_some] <;> rfl) | (simp [*, errW_none, errW_some] <;> rfl), by repeat (first | (with_reducible first | exact HI0.out | apply IsS156.alloc | apply IsS156.drewN | apply IsS156.drew | apply IsS156.set_1 | apply IsS156.set_2) | exact HI0.out), by repeat (first | (with_reducible first | exact HB.out | apply below_alloc | apply pw_below_drewN | apply below_drew1 | refine below_set ?_ (IsS156.ge HI0.out)) | exact HB.out), by repeat (first | (with_reducible first | exact HK.out | apply KeepBut.set_ | apply keep_drewN | apply keep_drew | apply keep_alloc) | exact HK.out)⟩
def spec_reader_signed.f (k : Nat) (s0_0 : List Int) (s0_1 : Int) (s0_2 : Bool) (a1 : Int) : Option (Int × Int × Bool) := (spec_reader_word.f k s0_0 s0_1 s0_2 a1).bind fun bt511 => (if a1 > 0 then (if 0 ≤ (wrap64 (a1 - 1)) then (if (shr .i64 bt511.1 (wrap64 (a1 - 1))) = 1 then (if 0 ≤ a1 then (some (wrap64 (bt511.1 - (shl .i64 1 a1)), bt511.2.1, bt511.2.2)) else (none)) else (some (bt511.1, bt511.2.1, bt511.2.2))) else (none)) else (some (bt511.1, bt511.2.1, bt511.2.2)))
set_option maxHeartbeats 8000000 in
set_option maxRecDepth 100000 in
theorem spec_reader_signed.calls (k : Nat) (g : Nat) (s0_0 : List Int) (s0_1 : Int) (s0_2 : Bool) (a1 : Int) (r1 : Int) (r2 : Int) (r3 : Bool) (w0 w : World) (hI : IsS156 w0 w g s0_0 s0_1 s0_2) (hB : Below w0.heap.size w0 w) (h : spec_reader_signed.f k s0_0 s0_1 s0_2 a1 = some (r1, r2, r3)) :
  Calls Tryz.prog 92 #[.pointer (some ⟨g, 0, none⟩), .int .i64 a1] w fun e w' => e = .returned (.int .i64 r1) ∧ IsS156 w0 w' g s0_0 r2 r3 ∧ Below w0.heap.size w0 w' ∧ KeepBut w w' g none := by
 have HI0 := Aside0.mk hI
 have HK := Aside0.mk (KeepBut.refl w g none)
 have HL := Aside0.mk hB.size
 clear hI
 have HW0 := Aside0.mk hB.size
 have HB := Aside0.mk hB
 clear hB
 have H : ((spec_reader_word.f k s0_0 s0_1 s0_2 a1).bind fun bt511 => (if a1 > 0 then (if 0 ≤ (wrap64 (a1 - 1)) then (if (shr .i64 bt511.1 (wrap64 (a1 - 1))) = 1 then (if 0 ≤ a1 then (some (wrap64 (bt511.1 - (shl .i64 1 a1)), bt511.2.1, bt511.2.2)) else (none)) else (some (bt511.1, bt511.2.1, bt511.2.2))) else (none)) else (some (bt511.1, bt511.2.1, bt511.2.2)))) = some (r1, r2, r3) := h
 clear h
 replace H := Option.bind_eq_some_iff.mp H
 obtain ⟨⟨t511, t512, t513⟩, A30, H⟩ := H
 replace H : (if a1 > 0 then (if 0 ≤ (wrap64 (a1 - 1)) then (if (shr .i64 t511 (wrap64 (a1 - 1))) = 1 then (if 0 ≤ a1 then (some (wrap64 (t511 - (shl .i64 1 a1)), t512, t513)) else (none)) else (some (t511, t512, t513))) else (none)) else (some (t511, t512, t513))) = some (r1, r2, r3) := H
 have A3 := Aside0.mk A30
 clear A30
 by_cases c4 : a1 > 0
 ·rw [if_pos c4] at H
  have c4b0 : decide (0 < a1) = true := decide_eq_true c4
  clear c4
  obtain ⟨ji5, hji5⟩ : ∃ j_ : Int, (wrap64 (a1 - 1)) = j_ := ⟨_, rfl⟩
  replace H : (if 0 ≤ (ji5) then (if (shr .i64 t511 (ji5)) = 1 then (if 0 ≤ a1 then (some (wrap64 (t511 - (shl .i64 1 a1)), t512, t513)) else (none)) else (some (t511, t512, t513))) else (none)) = some (r1, r2, r3) := by first | (rw [hji5] at H; exact H) | (simp only [hji5] at H ⊢; exact H)
  (try rw [hji5] at A3)
  have hji5w : (IntKind.i64.wrap (a1 - 1)) = ji5 := (i64_w _).trans hji5
  by_cases c6 : 0 ≤ (ji5)
  ·rw [if_pos c6] at H
   have c6b0 := eq_true c6
   have c6b1 : decide (0 ≤ (ji5)) = true := decide_eq_true c6
   clear c6
   obtain ⟨ji7, hji7⟩ : ∃ j_ : Int, (shr .i64 t511 (ji5)) = j_ := ⟨_, rfl⟩
   replace H : (if (ji7) = 1 then (if 0 ≤ a1 then (some (wrap64 (t511 - (shl .i64 1 a1)), t512, t513)) else (none)) else (some (t511, t512, t513))) = some (r1, r2, r3) := by first | (rw [hji7] at H; exact H) | (simp only [hji7] at H ⊢; exact H)
   (try rw [hji7] at A3)
   have hji7_ : (t511 / 2 ^ min (ji5).toNat 64) = ji7 := hji7
   have hji7z : (ji5) ≤ 64 → (t511 / 2 ^ (ji5).toNat) = ji7 := shr_small hji7
   by_cases c8 : (ji7) = 1
   ·rw [if_pos c8] at H
    have c8b0 : ((ji7) == 1) = true := beq_iff_eq.mpr c8
    have c8b1 : ((ji7) != 1) = false := bne_eq_false_iff_eq.mpr c8
    clear c8
    by_cases c9 : 0 ≤ a1
    ·rw [if_pos c9] at H
     have c9b0 := eq_true c9
     have c9b1 : decide (0 ≤ a1) = true := decide_eq_true c9
     clear c9
     obtain ⟨ji10, hji10⟩ : ∃ j_ : Int, (shl .i64 1 a1) = j_ := ⟨_, rfl⟩
     replace H : (some (wrap64 (t511 - (ji10)), t512, t513)) = some (r1, r2, r3) := by first | (rw [hji10] at H; exact H) | (simp only [hji10] at H ⊢; exact H)
     (try rw [hji10] at A3)
     have hji10_ : (IntKind.i64.wrap (1 * 2 ^ min a1.toNat 64)) = ji10 := hji10
     have hji10z : a1 ≤ 64 → (IntKind.i64.wrap (1 * 2 ^ a1.toNat)) = ji10 := shl_small hji10
     have hji10u : (IntKind.i64.wrap (2 ^ min a1.toNat 64)) = ji10 := by have h_ := hji10_; rw [Int.one_mul] at h_; exact h_
     have hji10v : a1 ≤ 64 → (IntKind.i64.wrap (2 ^ a1.toNat)) = ji10 := fun hle_ => by have h_ := hji10z hle_; rw [Int.one_mul] at h_; exact h_
     have hji10y : (wrap64 (1 * 2 ^ min a1.toNat 64)) = ji10 := (i64_w _).symm.trans hji10_
     have hji10x : a1 ≤ 64 → (wrap64 (1 * 2 ^ a1.toNat)) = ji10 := fun h_ => (i64_w _).symm.trans (hji10z h_)
     simp only [Option.some.injEq, Prod.mk.injEq] at H
     obtain ⟨rfl, rfl, rfl⟩ := H
     go_enter Tryz.func92, Tryz.ntmps92
     go_wp2_with (first | ((with_reducible refine gate_callee (f := 48) rfl ?_); refine goesL_ (some 8) rfl rfl Tryz.func48 (by kernel_rfl) rfl #[.pointer (some ⟨g, 0, none⟩), .int .i64 a1] rfl (by (try simp only [List.map_toArray, List.map_cons, List.map_nil]); first | done | rfl | (simp only [List.length_drop, List.length_take]; rfl)) ?_; (with_reducible refine (spec_reader_word.calls k g s0_0 s0_1 s0_2 a1 t511 t512 t513 w0 _ ?side1 ?side2 A3.out).mono ?_); (case side1 => repeat (first | (with_reducible first | exact HI0.out | apply IsS156.alloc | apply IsS156.drewN | apply IsS156.drew | apply IsS156.set_1 | apply IsS156.set_2) | exact HI0.out)); (case side2 => repeat (first | (with_reducible first | exact HB.out | apply below_alloc | apply pw_below_drewN | apply below_drew1 | refine below_set ?_ (IsS156.ge HI0.out)) | exact HB.out)); rintro e w11 ⟨rfl, hi, hb, hk⟩; refine ⟨_, rfl, ?_⟩; have n0_ := Aside0.mk (KeepBut.trans (by repeat (first | (with_reducible first | exact HK.out | apply KeepBut.set_ | apply keep_drewN | apply keep_drew | apply keep_alloc) | exact HK.out)) hk (.inl rfl)); have n1_ := Aside0.mk (hb); have n2_ := Aside0.mk (hi); clear HK; clear HB; clear HI0; have HK := n0_; have HB := n1_; have HI0 := n2_; clear n0_ n1_ n2_; (try clear hb); (try clear hb2); (try clear hk); (try clear hi)))
     go_ret
     exact ⟨by first | rfl | (simp [errW_none, errW_some] <;> rfl) | (simp only [← hji5, ← hji7, ← hji10]; first | rfl | (simp [errW_none, errW_some] <;> rfl)) | (simp [*, errW_none, errW_some] <;> rfl), by repeat (first | (with_reducible first | exact HI0.out | apply IsS156.alloc | apply IsS156.drewN | apply IsS156.drew | apply IsS156.set_1 | apply IsS156.set_2) | exact HI0.out), by repeat (first | (with_reducible first | exact HB.out | apply below_alloc | apply pw_below_drewN | apply below_drew1 | refine below_set ?_ (IsS156.ge HI0.out)) | exact HB.out), by repeat (first | (with_reducible first | exact HK.out | apply KeepBut.set_ | apply keep_drewN | apply keep_drew | apply keep_alloc) | exact HK.out)⟩
    ·rw [if_neg c9] at H
     exact absurd H (by simp)
   ·rw [if_neg c8] at H
    have c8b0 : ((ji7) == 1) = false := beq_eq_false_iff_ne.mpr c8
    have c8b1 : ((ji7) != 1) = true := bne_iff_ne.mpr c8
    simp only [Option.some.injEq, Prod.mk.injEq] at H
    obtain ⟨rfl, rfl, rfl⟩ := H
    go_enter Tryz.func92, Tryz.ntmps92
    go_wp2_with (first | ((with_reducible refine gate_callee (f := 48) rfl ?_); refine goesL_ (some 8) rfl rfl Tryz.func48 (by kernel_rfl) rfl #[.pointer (some ⟨g, 0, none⟩), .int .i64 a1] rfl (by (try simp only [List.map_toArray, List.map_cons, List.map_nil]); first | done | rfl | (simp only [List.length_drop, List.length_take]; rfl)) ?_; (with_reducible refine (spec_reader_word.calls k g s0_0 s0_1 s0_2 a1 t511 t512 t513 w0 _ ?side1 ?side2 A3.out).mono ?_); (case side1 => repeat (first | (with_reducible first | exact HI0.out | apply IsS156.alloc | apply IsS156.drewN | apply IsS156.drew | apply IsS156.set_1 | apply IsS156.set_2) | exact HI0.out)); (case side2 => repeat (first | (with_reducible first | exact HB.out | apply below_alloc | apply pw_below_drewN | apply below_drew1 | refine below_set ?_ (IsS156.ge HI0.out)) | exact HB.out)); rintro e w12 ⟨rfl, hi, hb, hk⟩; refine ⟨_, rfl, ?_⟩; have n0_ := Aside0.mk (KeepBut.trans (by repeat (first | (with_reducible first | exact HK.out | apply KeepBut.set_ | apply keep_drewN | apply keep_drew | apply keep_alloc) | exact HK.out)) hk (.inl rfl)); have n1_ := Aside0.mk (hb); have n2_ := Aside0.mk (hi); clear HK; clear HB; clear HI0; have HK := n0_; have HB := n1_; have HI0 := n2_; clear n0_ n1_ n2_; (try clear hb); (try clear hb2); (try clear hk); (try clear hi)))
    go_ret
    exact ⟨by first | rfl | (simp [errW_none, errW_some] <;> rfl) | (simp only [← hji5, ← hji7]; first | rfl | (simp [errW_none, errW_some] <;> rfl)) | (simp [*, errW_none, errW_some] <;> rfl), by repeat (first | (with_reducible first | exact HI0.out | apply IsS156.alloc | apply IsS156.drewN | apply IsS156.drew | apply IsS156.set_1 | apply IsS156.set_2) | exact HI0.out), by repeat (first | (with_reducible first | exact HB.out | apply below_alloc | apply pw_below_drewN | apply below_drew1 | refine below_set ?_ (IsS156.ge HI0.out)) | exact HB.out), by repeat (first | (with_reducible first | exact HK.out | apply KeepBut.set_ | apply keep_drewN | apply keep_drew | apply keep_alloc) | exact HK.out)⟩
  ·rw [if_neg c6] at H
   exact absurd H (by simp)
 ·rw [if_neg c4] at H
  have c4b0 : decide (0 < a1) = false := decide_eq_false c4
  clear c4
  simp only [Option.some.injEq, Prod.mk.injEq] at H
  obtain ⟨rfl, rfl, rfl⟩ := H
  go_enter Tryz.func92, Tryz.ntmps92
  go_wp2_with (first | ((with_reducible refine gate_callee (f := 48) rfl ?_); refine goesL_ (some 8) rfl rfl Tryz.func48 (by kernel_rfl) rfl #[.pointer (some ⟨g, 0, none⟩), .int .i64 a1] rfl (by (try simp only [List.map_toArray, List.map_cons, List.map_nil]); first | done | rfl | (simp only [List.length_drop, List.length_take]; rfl)) ?_; (with_reducible refine (spec_reader_word.calls k g s0_0 s0_1 s0_2 a1 t511 t512 t513 w0 _ ?side1 ?side2 A3.out).mono ?_); (case side1 => repeat (first | (with_reducible first | exact HI0.out | apply IsS156.alloc | apply IsS156.drewN | apply IsS156.drew | apply IsS156.set_1 | apply IsS156.set_2) | exact HI0.out)); (case side2 => repeat (first | (with_reducible first | exact HB.out | apply below_alloc | apply pw_below_drewN | apply below_drew1 | refine below_set ?_ (IsS156.ge HI0.out)) | exact HB.out)); rintro e w13 ⟨rfl, hi, hb, hk⟩; refine ⟨_, rfl, ?_⟩; have n0_ := Aside0.mk (KeepBut.trans (by repeat (first | (with_reducible first | exact HK.out | apply KeepBut.set_ | apply keep_drewN | apply keep_drew | apply keep_alloc) | exact HK.out)) hk (.inl rfl)); have n1_ := Aside0.mk (hb); have n2_ := Aside0.mk (hi); clear HK; clear HB; clear HI0; have HK := n0_; have HB := n1_; have HI0 := n2_; clear n0_ n1_ n2_; (try clear hb); (try clear hb2); (try clear hk); (try clear hi)))
  go_ret
  exact ⟨by first | rfl | (simp [errW_none, errW_some] <;> rfl) | (simp [*, errW_none, errW_some] <;> rfl), by repeat (first | (with_reducible first | exact HI0.out | apply IsS156.alloc | apply IsS156.drewN | apply IsS156.drew | apply IsS156.set_1 | apply IsS156.set_2) | exact HI0.out), by repeat (first | (with_reducible first | exact HB.out | apply below_alloc | apply pw_below_drewN | apply below_drew1 | refine below_set ?_ (IsS156.ge HI0.out)) | exact HB.out), by repeat (first | (with_reducible first | exact HK.out | apply KeepBut.set_ | apply keep_drewN | apply keep_drew | apply keep_alloc) | exact HK.out)⟩
def spec_Unfolded.f (a0 : Int) : Option (Int) := if (Go.bits .and .i64 a0 1) = 1 then (some (wrap64 ((wrap64 (-(a0 / 2))) - 1))) else (some (a0 / 2))
set_option maxHeartbeats 8000000 in
set_option maxRecDepth 100000 in
theorem spec_Unfolded.calls (a0 : Int) (r : Int) (w : World) (h : spec_Unfolded.f a0 = some r) :
  Calls Tryz.prog 111 #[.int .i64 a0] w fun e w' => e = .returned (.int .i64 r) ∧ Drawn0 w w' := by
 have H : (if (Go.bits .and .i64 a0 1) = 1 then (some (wrap64 ((wrap64 (-(a0 / 2))) - 1))) else (some (a0 / 2))) = some r := h
 clear h
 by_cases c2 : (Go.bits .and .i64 a0 1) = 1
 ·rw [if_pos c2] at H
  have c2b0 : ((Go.bits .and .i64 a0 1) == 1) = true := beq_iff_eq.mpr c2
  have c2b1 : ((Go.bits .and .i64 a0 1) != 1) = false := bne_eq_false_iff_eq.mpr c2
  clear c2
  obtain rfl := Option.some.inj H
  go_enter Tryz.func111, Tryz.ntmps111
  go_wp2
  go_ret
  exact ⟨by first | rfl | (simp; done) | (simp [*]; done), by repeat (first | exact Drawn0.refl _ | apply Drawn0.step)⟩
 ·rw [if_neg c2] at H
  have c2b0 : ((Go.bits .and .i64 a0 1) == 1) = false := beq_eq_false_iff_ne.mpr c2
  have c2b1 : ((Go.bits .and .i64 a0 1) != 1) = true := bne_iff_ne.mpr c2
  obtain rfl := Option.some.inj H
  go_enter Tryz.func111, Tryz.ntmps111
  go_wp2
  go_ret
  exact ⟨by first | rfl | (simp; done) | (simp [*]; done), by repeat (first | exact Drawn0.refl _ | apply Drawn0.step)⟩
def spec_fits.f (a0 : Int) (a1 : Int) : Option (Bool) := if 0 ≤ (wrap64 (a1 - 1)) then (if a0 ≥ (shl .i64 (-1) (wrap64 (a1 - 1))) then (some (decide (a0 < (shl .i64 1 (wrap64 (a1 - 1)))))) else (some false)) else (none)
set_option maxHeartbeats 8000000 in
set_option maxRecDepth 100000 in
theorem spec_fits.calls (a0 : Int) (a1 : Int) (r : Bool) (w : World) (h : spec_fits.f a0 a1 = some r) :
  Calls Tryz.prog 56 #[.int .i64 a0, .int .i64 a1] w fun e w' => e = .returned (.bool r) ∧ Drawn0 w w' := by
 have H : (if 0 ≤ (wrap64 (a1 - 1)) then (if a0 ≥ (shl .i64 (-1) (wrap64 (a1 - 1))) then (some (decide (a0 < (shl .i64 1 (wrap64 (a1 - 1)))))) else (some false)) else (none)) = some r := h
 clear h
 obtain ⟨ji3, hji3⟩ : ∃ j_ : Int, (wrap64 (a1 - 1)) = j_ := ⟨_, rfl⟩
 replace H : (if 0 ≤ (ji3) then (if a0 ≥ (shl .i64 (-1) (ji3)) then (some (decide (a0 < (shl .i64 1 (ji3))))) else (some false)) else (none)) = some r := by first | (rw [hji3] at H; exact H) | (simp only [hji3] at H ⊢; exact H)
 have hji3w : (IntKind.i64.wrap (a1 - 1)) = ji3 := (i64_w _).trans hji3
 by_cases c4 : 0 ≤ (ji3)
 ·rw [if_pos c4] at H
  have c4b0 := eq_true c4
  have c4b1 : decide (0 ≤ (ji3)) = true := decide_eq_true c4
  clear c4
  obtain ⟨ji5, hji5⟩ : ∃ j_ : Int, (shl .i64 (-1) (ji3)) = j_ := ⟨_, rfl⟩
  replace H : (if a0 ≥ (ji5) then (some (decide (a0 < (shl .i64 1 (ji3))))) else (some false)) = some r := by first | (rw [hji5] at H; exact H) | (simp only [hji5] at H ⊢; exact H)
  have hji5_ : (IntKind.i64.wrap ((-1) * 2 ^ min (ji3).toNat 64)) = ji5 := hji5
  have hji5z : (ji3) ≤ 64 → (IntKind.i64.wrap ((-1) * 2 ^ (ji3).toNat)) = ji5 := shl_small hji5
  have hji5y : (wrap64 ((-1) * 2 ^ min (ji3).toNat 64)) = ji5 := (i64_w _).symm.trans hji5_
  have hji5n : wrap64 (-2 ^ min (ji3).toNat 64) = ji5 := by have h_ := hji5y; rw [Int.neg_mul, Int.one_mul] at h_; exact h_
  have hji5x : (ji3) ≤ 64 → (wrap64 ((-1) * 2 ^ (ji3).toNat)) = ji5 := fun h_ => (i64_w _).symm.trans (hji5z h_)
  by_cases c6 : a0 ≥ (ji5)
  ·rw [if_pos c6] at H
   have c6b0 : decide ((ji5) ≤ a0) = true := decide_eq_true c6
   clear c6
   have c7b0 := eq_true (of_decide_eq_true (by first | (with_reducible assumption) | assumption) : 0 ≤ (ji3))
   obtain ⟨ji8, hji8⟩ : ∃ j_ : Int, (shl .i64 1 (ji3)) = j_ := ⟨_, rfl⟩
   replace H : (some (decide (a0 < (ji8)))) = some r := by first | (rw [hji8] at H; exact H) | (simp only [hji8] at H ⊢; exact H)
   have hji8_ : (IntKind.i64.wrap (1 * 2 ^ min (ji3).toNat 64)) = ji8 := hji8
   have hji8z : (ji3) ≤ 64 → (IntKind.i64.wrap (1 * 2 ^ (ji3).toNat)) = ji8 := shl_small hji8
   have hji8u : (IntKind.i64.wrap (2 ^ min (ji3).toNat 64)) = ji8 := by have h_ := hji8_; rw [Int.one_mul] at h_; exact h_
   have hji8v : (ji3) ≤ 64 → (IntKind.i64.wrap (2 ^ (ji3).toNat)) = ji8 := fun hle_ => by have h_ := hji8z hle_; rw [Int.one_mul] at h_; exact h_
   have hji8y : (wrap64 (1 * 2 ^ min (ji3).toNat 64)) = ji8 := (i64_w _).symm.trans hji8_
   have hji8x : (ji3) ≤ 64 → (wrap64 (1 * 2 ^ (ji3).toNat)) = ji8 := fun h_ => (i64_w _).symm.trans (hji8z h_)
   obtain rfl := Option.some.inj H
   go_enter Tryz.func56, Tryz.ntmps56
   go_wp2
   go_ret
   exact ⟨by first | rfl | (simp; done) | (simp only [← hji3, ← hji5, ← hji8] <;> (first | rfl | simp)) | (simp [*]; done), by repeat (first | exact Drawn0.refl _ | apply Drawn0.step)⟩
  ·rw [if_neg c6] at H
   have c6b0 : decide ((ji5) ≤ a0) = false := decide_eq_false c6
   clear c6
   obtain rfl := Option.some.inj H
   go_enter Tryz.func56, Tryz.ntmps56
   go_wp2
   go_ret
   exact ⟨by first | rfl | (simp; done) | (simp only [← hji3, ← hji5] <;> (first | rfl | simp)) | (simp [*]; done), by repeat (first | exact Drawn0.refl _ | apply Drawn0.step)⟩
 ·rw [if_neg c4] at H
  exact absurd H (by simp)
def spec_fixedOf.f (l0 : List Int) (a1 : Int) : Option (Int) := if a1 = 1 then (if 0 ≤ (wrap64 ((l0.length : Int) - 1)) then (if (wrap64 ((l0.length : Int) - 1)) < (l0.length : Int) then (some (rd l0 (wrap64 ((l0.length : Int) - 1)))) else (none)) else (none)) else (if a1 = 2 then (if 0 ≤ (wrap64 ((l0.length : Int) - 1)) then (if (wrap64 ((l0.length : Int) - 1)) < (l0.length : Int) then (if 0 ≤ (wrap64 ((l0.length : Int) - 2)) then (if (wrap64 ((l0.length : Int) - 2)) < (l0.length : Int) then (some (wrap64 ((wrap64 (2 * (rd l0 (wrap64 ((l0.length : Int) - 1))))) - (rd l0 (wrap64 ((l0.length : Int) - 2)))))) else (none)) else (none)) else (none)) else (none)) else (if a1 = 3 then (if 0 ≤ (wrap64 ((l0.length : Int) - 1)) then (if (wrap64 ((l0.length : Int) - 1)) < (l0.length : Int) then (if 0 ≤ (wrap64 ((l0.length : Int) - 2)) then (if (wrap64 ((l0.length : Int) - 2)) < (l0.length : Int) then (if 0 ≤ (wrap64 ((l0.length : Int) - 3)) then (if (wrap64 ((l0.length : Int) - 3)) < (l0.length : Int) then (some (wrap64 ((wrap64 ((wrap64 (3 * (rd l0 (wrap64 ((l0.length : Int) - 1))))) - (wrap64 (3 * (rd l0 (wrap64 ((l0.length : Int) - 2))))))) + (rd l0 (wrap64 ((l0.length : Int) - 3)))))) else (none)) else (none)) else (none)) else (none)) else (none)) else (none)) else (if a1 = 4 then (if 0 ≤ (wrap64 ((l0.length : Int) - 1)) then (if (wrap64 ((l0.length : Int) - 1)) < (l0.length : Int) then (if 0 ≤ (wrap64 ((l0.length : Int) - 2)) then (if (wrap64 ((l0.length : Int) - 2)) < (l0.length : Int) then (if 0 ≤ (wrap64 ((l0.length : Int) - 3)) then (if (wrap64 ((l0.length : Int) - 3)) < (l0.length : Int) then (if 0 ≤ (wrap64 ((l0.length : Int) - 4)) then (if (wrap64 ((l0.length : Int) - 4)) < (l0.length : Int) then (some (wrap64 ((wrap64 ((wrap64 ((wrap64 (4 * (rd l0 (wrap64 ((l0.length : Int) - 1))))) - (wrap64 (6 * (rd l0 (wrap64 ((l0.length : Int) - 2))))))) + (wrap64 (4 * (rd l0 (wrap64 ((l0.length : Int) - 3))))))) - (rd l0 (wrap64 ((l0.length : Int) - 4)))))) else (none)) else (none)) else (none)) else (none)) else (none)) else (none)) else (none)) else (none)) else (some 0))))
set_option maxHeartbeats 8000000 in
set_option maxRecDepth 100000 in
theorem spec_fixedOf.calls (A0 : Option Addr) (c0 : Nat) (l0 : List Int) (a1 : Int) (r : Int) (w : World) (hr0 : Kd.C (Kd.int .i64) w A0 l0.length l0) (hc0 : l0.length ≤ c0) (h : spec_fixedOf.f l0 a1 = some r) :
  Calls Tryz.prog 94 #[.slice A0 l0.length c0, .int .i64 a1] w fun e w' => e = .returned (.int .i64 r) ∧ Drawn0 w w' := by
 have HR0 := Aside0.mk hr0
 have HC0 := Aside0.mk hc0
 clear hr0 hc0
 have H : (if a1 = 1 then (if 0 ≤ (wrap64 ((l0.length : Int) - 1)) then (if (wrap64 ((l0.length : Int) - 1)) < (l0.length : Int) then (some (rd l0 (wrap64 ((l0.length : Int) - 1)))) else (none)) else (none)) else (if a1 = 2 then (if 0 ≤ (wrap64 ((l0.length : Int) - 1)) then (if (wrap64 ((l0.length : Int) - 1)) < (l0.length : Int) then (if 0 ≤ (wrap64 ((l0.length : Int) - 2)) then (if (wrap64 ((l0.length : Int) - 2)) < (l0.length : Int) then (some (wrap64 ((wrap64 (2 * (rd l0 (wrap64 ((l0.length : Int) - 1))))) - (rd l0 (wrap64 ((l0.length : Int) - 2)))))) else (none)) else (none)) else (none)) else (none)) else (if a1 = 3 then (if 0 ≤ (wrap64 ((l0.length : Int) - 1)) then (if (wrap64 ((l0.length : Int) - 1)) < (l0.length : Int) then (if 0 ≤ (wrap64 ((l0.length : Int) - 2)) then (if (wrap64 ((l0.length : Int) - 2)) < (l0.length : Int) then (if 0 ≤ (wrap64 ((l0.length : Int) - 3)) then (if (wrap64 ((l0.length : Int) - 3)) < (l0.length : Int) then (some (wrap64 ((wrap64 ((wrap64 (3 * (rd l0 (wrap64 ((l0.length : Int) - 1))))) - (wrap64 (3 * (rd l0 (wrap64 ((l0.length : Int) - 2))))))) + (rd l0 (wrap64 ((l0.length : Int) - 3)))))) else (none)) else (none)) else (none)) else (none)) else (none)) else (none)) else (if a1 = 4 then (if 0 ≤ (wrap64 ((l0.length : Int) - 1)) then (if (wrap64 ((l0.length : Int) - 1)) < (l0.length : Int) then (if 0 ≤ (wrap64 ((l0.length : Int) - 2)) then (if (wrap64 ((l0.length : Int) - 2)) < (l0.length : Int) then (if 0 ≤ (wrap64 ((l0.length : Int) - 3)) then (if (wrap64 ((l0.length : Int) - 3)) < (l0.length : Int) then (if 0 ≤ (wrap64 ((l0.length : Int) - 4)) then (if (wrap64 ((l0.length : Int) - 4)) < (l0.length : Int) then (some (wrap64 ((wrap64 ((wrap64 ((wrap64 (4 * (rd l0 (wrap64 ((l0.length : Int) - 1))))) - (wrap64 (6 * (rd l0 (wrap64 ((l0.length : Int) - 2))))))) + (wrap64 (4 * (rd l0 (wrap64 ((l0.length : Int) - 3))))))) - (rd l0 (wrap64 ((l0.length : Int) - 4)))))) else (none)) else (none)) else (none)) else (none)) else (none)) else (none)) else (none)) else (none)) else (some 0))))) = some r := h
 clear h
 by_cases c3 : a1 = 1
 ·rw [if_pos c3] at H
  have c3b0 : (a1 == 1) = true := beq_iff_eq.mpr c3
  have c3b1 : (a1 != 1) = false := bne_eq_false_iff_eq.mpr c3
  clear c3
  obtain ⟨ji4, hji4⟩ : ∃ j_ : Int, (wrap64 ((l0.length : Int) - 1)) = j_ := ⟨_, rfl⟩
  replace H : (if 0 ≤ (ji4) then (if (ji4) < (l0.length : Int) then (some (rd l0 (ji4))) else (none)) else (none)) = some r := by first | (rw [hji4] at H; exact H) | (simp only [hji4] at H ⊢; exact H)
  have hji4w : (IntKind.i64.wrap ((l0.length : Int) - 1)) = ji4 := (i64_w _).trans hji4
  by_cases c5 : 0 ≤ (ji4)
  ·rw [if_pos c5] at H
   have c5b0 : decide (0 ≤ (ji4)) = true := decide_eq_true c5
   clear c5
   by_cases c6 : (ji4) < (l0.length : Int)
   ·rw [if_pos c6] at H
    have c6b0 : decide ((ji4) < (l0.length : Int)) = true := decide_eq_true c6
    clear c6
    obtain rfl := Option.some.inj H
    have p222 : 0 ≤ ((ji4) : Int) := of_decide_eq_true (by first | (with_reducible assumption) | assumption)
    have q222 : (ji4) < (l0.length : Int) := of_decide_eq_true (by first | (with_reducible assumption) | assumption)
    obtain ⟨ad222, e222, hx222_0⟩ := Kd.at_int HR0.out (ji4) p222 q222
    cases e222
    replace p222 := eq_true p222
    replace q222 := eq_true q222
    go_enter Tryz.func94, Tryz.ntmps94
    go_wp2
    repeat (go_quiet (fail); try go_wp2)
    go_ret
    exact ⟨by first | rfl | (simp; done) | (simp only [← hji4] <;> (first | rfl | simp)) | (simp [*]; done), by repeat (first | exact Drawn0.refl _ | apply Drawn0.step)⟩
   ·rw [if_neg c6] at H
    exact absurd H (by simp)
  ·rw [if_neg c5] at H
   exact absurd H (by simp)
 ·rw [if_neg c3] at H
  have c3b0 : (a1 == 1) = false := beq_eq_false_iff_ne.mpr c3
  have c3b1 : (a1 != 1) = true := bne_iff_ne.mpr c3
  by_cases c7 : a1 = 2
  ·rw [if_pos c7] at H
   have c7b0 : (a1 == 2) = true := beq_iff_eq.mpr c7
   have c7b1 : (a1 != 2) = false := bne_eq_false_iff_eq.mpr c7
   clear c7
   obtain ⟨ji8, hji8⟩ : ∃ j_ : Int, (wrap64 ((l0.length : Int) - 1)) = j_ := ⟨_, rfl⟩
   replace H : (if 0 ≤ (ji8) then (if (ji8) < (l0.length : Int) then (if 0 ≤ (wrap64 ((l0.length : Int) - 2)) then (if (wrap64 ((l0.length : Int) - 2)) < (l0.length : Int) then (some (wrap64 ((wrap64 (2 * (rd l0 (ji8)))) - (rd l0 (wrap64 ((l0.length : Int) - 2)))))) else (none)) else (none)) else (none)) else (none)) = some r := by first | (rw [hji8] at H; exact H) | (simp only [hji8] at H ⊢; exact H)
   have hji8w : (IntKind.i64.wrap ((l0.length : Int) - 1)) = ji8 := (i64_w _).trans hji8
   by_cases c9 : 0 ≤ (ji8)
   ·rw [if_pos c9] at H
    have c9b0 : decide (0 ≤ (ji8)) = true := decide_eq_true c9
    clear c9
    by_cases c10 : (ji8) < (l0.length : Int)
    ·rw [if_pos c10] at H
     have c10b0 : decide ((ji8) < (l0.length : Int)) = true := decide_eq_true c10
     clear c10
     obtain ⟨ji11, hji11⟩ : ∃ j_ : Int, (wrap64 ((l0.length : Int) - 2)) = j_ := ⟨_, rfl⟩
     replace H : (if 0 ≤ (ji11) then (if (ji11) < (l0.length : Int) then (some (wrap64 ((wrap64 (2 * (rd l0 (ji8)))) - (rd l0 (ji11))))) else (none)) else (none)) = some r := by first | (rw [hji11] at H; exact H) | (simp only [hji11] at H ⊢; exact H)
     have hji11w : (IntKind.i64.wrap ((l0.length : Int) - 2)) = ji11 := (i64_w _).trans hji11
     by_cases c12 : 0 ≤ (ji11)
     ·rw [if_pos c12] at H
      have c12b0 : decide (0 ≤ (ji11)) = true := decide_eq_true c12
      clear c12
      by_cases c13 : (ji11) < (l0.length : Int)
      ·rw [if_pos c13] at H
       have c13b0 : decide ((ji11) < (l0.length : Int)) = true := decide_eq_true c13
       clear c13
       obtain rfl := Option.some.inj H
       have p223 : 0 ≤ ((ji8) : Int) := of_decide_eq_true (by first | (with_reducible assumption) | assumption)
       have q223 : (ji8) < (l0.length : Int) := of_decide_eq_true (by first | (with_reducible assumption) | assumption)
       obtain ⟨ad223, e223, hx223_0⟩ := Kd.at_int HR0.out (ji8) p223 q223
       cases e223
       replace p223 := eq_true p223
       replace q223 := eq_true q223
       have p224 : 0 ≤ ((ji11) : Int) := of_decide_eq_true (by first | (with_reducible assumption) | assumption)
       have q224 : (ji11) < (l0.length : Int) := of_decide_eq_true (by first | (with_reducible assumption) | assumption)
       obtain ⟨ad224, e224, hx224_0⟩ := Kd.at_int HR0.out (ji11) p224 q224
       obtain rfl : ad223 = ad224 := (by injection e224)
       replace p224 := eq_true p224
       replace q224 := eq_true q224
       go_enter Tryz.func94, Tryz.ntmps94
       go_wp2
       repeat (go_quiet (fail); try go_wp2)
       go_ret
       exact ⟨by first | rfl | (simp; done) | (simp only [← hji8, ← hji11] <;> (first | rfl | simp)) | (simp [*]; done), by repeat (first | exact Drawn0.refl _ | apply Drawn0.step)⟩
      ·rw [if_neg c13] at H
       exact absurd H (by simp)
     ·rw [if_neg c12] at H
      exact absurd H (by simp)
    ·rw [if_neg c10] at H
     exact absurd H (by simp)
   ·rw [if_neg c9] at H
    exact absurd H (by simp)
  ·rw [if_neg c7] at H
   have c7b0 : (a1 == 2) = false := beq_eq_false_iff_ne.mpr c7
   have c7b1 : (a1 != 2) = true := bne_iff_ne.mpr c7
   by_cases c14 : a1 = 3
   ·rw [if_pos c14] at H
    have c14b0 : (a1 == 3) = true := beq_iff_eq.mpr c14
    have c14b1 : (a1 != 3) = false := bne_eq_false_iff_eq.mpr c14
    clear c14
    obtain ⟨ji15, hji15⟩ : ∃ j_ : Int, (wrap64 ((l0.length : Int) - 1)) = j_ := ⟨_, rfl⟩
    replace H : (if 0 ≤ (ji15) then (if (ji15) < (l0.length : Int) then (if 0 ≤ (wrap64 ((l0.length : Int) - 2)) then (if (wrap64 ((l0.length : Int) - 2)) < (l0.length : Int) then (if 0 ≤ (wrap64 ((l0.length : Int) - 3)) then (if (wrap64 ((l0.length : Int) - 3)) < (l0.length : Int) then (some (wrap64 ((wrap64 ((wrap64 (3 * (rd l0 (ji15)))) - (wrap64 (3 * (rd l0 (wrap64 ((l0.length : Int) - 2))))))) + (rd l0 (wrap64 ((l0.length : Int) - 3)))))) else (none)) else (none)) else (none)) else (none)) else (none)) else (none)) = some r := by first | (rw [hji15] at H; exact H) | (simp only [hji15] at H ⊢; exact H)
    have hji15w : (IntKind.i64.wrap ((l0.length : Int) - 1)) = ji15 := (i64_w _).trans hji15
    by_cases c16 : 0 ≤ (ji15)
    ·rw [if_pos c16] at H
     have c16b0 : decide (0 ≤ (ji15)) = true := decide_eq_true c16
     clear c16
     by_cases c17 : (ji15) < (l0.length : Int)
     ·rw [if_pos c17] at H
      have c17b0 : decide ((ji15) < (l0.length : Int)) = true := decide_eq_true c17
      clear c17
      obtain ⟨ji18, hji18⟩ : ∃ j_ : Int, (wrap64 ((l0.length : Int) - 2)) = j_ := ⟨_, rfl⟩
      replace H : (if 0 ≤ (ji18) then (if (ji18) < (l0.length : Int) then (if 0 ≤ (wrap64 ((l0.length : Int) - 3)) then (if (wrap64 ((l0.length : Int) - 3)) < (l0.length : Int) then (some (wrap64 ((wrap64 ((wrap64 (3 * (rd l0 (ji15)))) - (wrap64 (3 * (rd l0 (ji18)))))) + (rd l0 (wrap64 ((l0.length : Int) - 3)))))) else (none)) else (none)) else (none)) else (none)) = some r := by first | (rw [hji18] at H; exact H) | (simp only [hji18] at H ⊢; exact H)
      have hji18w : (IntKind.i64.wrap ((l0.length : Int) - 2)) = ji18 := (i64_w _).trans hji18
      by_cases c19 : 0 ≤ (ji18)
      ·rw [if_pos c19] at H
       have c19b0 : decide (0 ≤ (ji18)) = true := decide_eq_true c19
       clear c19
       by_cases c20 : (ji18) < (l0.length : Int)
       ·rw [if_pos c20] at H
        have c20b0 : decide ((ji18) < (l0.length : Int)) = true := decide_eq_true c20
        clear c20
        obtain ⟨ji21, hji21⟩ : ∃ j_ : Int, (wrap64 ((l0.length : Int) - 3)) = j_ := ⟨_, rfl⟩
        replace H : (if 0 ≤ (ji21) then (if (ji21) < (l0.length : Int) then (some (wrap64 ((wrap64 ((wrap64 (3 * (rd l0 (ji15)))) - (wrap64 (3 * (rd l0 (ji18)))))) + (rd l0 (ji21))))) else (none)) else (none)) = some r := by first | (rw [hji21] at H; exact H) | (simp only [hji21] at H ⊢; exact H)
        have hji21w : (IntKind.i64.wrap ((l0.length : Int) - 3)) = ji21 := (i64_w _).trans hji21
        by_cases c22 : 0 ≤ (ji21)
        ·rw [if_pos c22] at H
         have c22b0 : decide (0 ≤ (ji21)) = true := decide_eq_true c22
         clear c22
         by_cases c23 : (ji21) < (l0.length : Int)
         ·rw [if_pos c23] at H
          have c23b0 : decide ((ji21) < (l0.length : Int)) = true := decide_eq_true c23
          clear c23
          obtain rfl := Option.some.inj H
          have p225 : 0 ≤ ((ji15) : Int) := of_decide_eq_true (by first | (with_reducible assumption) | assumption)
          have q225 : (ji15) < (l0.length : Int) := of_decide_eq_true (by first | (with_reducible assumption) | assumption)
          obtain ⟨ad225, e225, hx225_0⟩ := Kd.at_int HR0.out (ji15) p225 q225
          cases e225
          replace p225 := eq_true p225
          replace q225 := eq_true q225
          have p226 : 0 ≤ ((ji18) : Int) := of_decide_eq_true (by first | (with_reducible assumption) | assumption)
          have q226 : (ji18) < (l0.length : Int) := of_decide_eq_true (by first | (with_reducible assumption) | assumption)
          obtain ⟨ad226, e226, hx226_0⟩ := Kd.at_int HR0.out (ji18) p226 q226
          obtain rfl : ad225 = ad226 := (by injection e226)
          replace p226 := eq_true p226
          replace q226 := eq_true q226
          have p227 : 0 ≤ ((ji21) : Int) := of_decide_eq_true (by first | (with_reducible assumption) | assumption)
          have q227 : (ji21) < (l0.length : Int) := of_decide_eq_true (by first | (with_reducible assumption) | assumption)
          obtain ⟨ad227, e227, hx227_0⟩ := Kd.at_int HR0.out (ji21) p227 q227
          obtain rfl : ad225 = ad227 := (by injection e227)
          replace p227 := eq_true p227
          replace q227 := eq_true q227
          go_enter Tryz.func94, Tryz.ntmps94
          go_wp2
          repeat (go_quiet (fail); try go_wp2)
          go_ret
          exact ⟨by first | rfl | (simp; done) | (simp only [← hji15, ← hji18, ← hji21] <;> (first | rfl | simp)) | (simp [*]; done), by repeat (first | exact Drawn0.refl _ | apply Drawn0.step)⟩
         ·rw [if_neg c23] at H
          exact absurd H (by simp)
        ·rw [if_neg c22] at H
         exact absurd H (by simp)
       ·rw [if_neg c20] at H
        exact absurd H (by simp)
      ·rw [if_neg c19] at H
       exact absurd H (by simp)
     ·rw [if_neg c17] at H
      exact absurd H (by simp)
    ·rw [if_neg c16] at H
     exact absurd H (by simp)
   ·rw [if_neg c14] at H
    have c14b0 : (a1 == 3) = false := beq_eq_false_iff_ne.mpr c14
    have c14b1 : (a1 != 3) = true := bne_iff_ne.mpr c14
    by_cases c24 : a1 = 4
    ·rw [if_pos c24] at H
     have c24b0 : (a1 == 4) = true := beq_iff_eq.mpr c24
     have c24b1 : (a1 != 4) = false := bne_eq_false_iff_eq.mpr c24
     clear c24
     obtain ⟨ji25, hji25⟩ : ∃ j_ : Int, (wrap64 ((l0.length : Int) - 1)) = j_ := ⟨_, rfl⟩
     replace H : (if 0 ≤ (ji25) then (if (ji25) < (l0.length : Int) then (if 0 ≤ (wrap64 ((l0.length : Int) - 2)) then (if (wrap64 ((l0.length : Int) - 2)) < (l0.length : Int) then (if 0 ≤ (wrap64 ((l0.length : Int) - 3)) then (if (wrap64 ((l0.length : Int) - 3)) < (l0.length : Int) then (if 0 ≤ (wrap64 ((l0.length : Int) - 4)) then (if (wrap64 ((l0.length : Int) - 4)) < (l0.length : Int) then (some (wrap64 ((wrap64 ((wrap64 ((wrap64 (4 * (rd l0 (ji25)))) - (wrap64 (6 * (rd l0 (wrap64 ((l0.length : Int) - 2))))))) + (wrap64 (4 * (rd l0 (wrap64 ((l0.length : Int) - 3))))))) - (rd l0 (wrap64 ((l0.length : Int) - 4)))))) else (none)) else (none)) else (none)) else (none)) else (none)) else (none)) else (none)) else (none)) = some r := by first | (rw [hji25] at H; exact H) | (simp only [hji25] at H ⊢; exact H)
     have hji25w : (IntKind.i64.wrap ((l0.length : Int) - 1)) = ji25 := (i64_w _).trans hji25
     by_cases c26 : 0 ≤ (ji25)
     ·rw [if_pos c26] at H
      have c26b0 : decide (0 ≤ (ji25)) = true := decide_eq_true c26
      clear c26
      by_cases c27 : (ji25) < (l0.length : Int)
      ·rw [if_pos c27] at H
       have c27b0 : decide ((ji25) < (l0.length : Int)) = true := decide_eq_true c27
       clear c27
       obtain ⟨ji28, hji28⟩ : ∃ j_ : Int, (wrap64 ((l0.length : Int) - 2)) = j_ := ⟨_, rfl⟩
       replace H : (if 0 ≤ (ji28) then (if (ji28) < (l0.length : Int) then (if 0 ≤ (wrap64 ((l0.length : Int) - 3)) then (if (wrap64 ((l0.length : Int) - 3)) < (l0.length : Int) then (if 0 ≤ (wrap64 ((l0.length : Int) - 4)) then (if (wrap64 ((l0.length : Int) - 4)) < (l0.length : Int) then (some (wrap64 ((wrap64 ((wrap64 ((wrap64 (4 * (rd l0 (ji25)))) - (wrap64 (6 * (rd l0 (ji28)))))) + (wrap64 (4 * (rd l0 (wrap64 ((l0.length : Int) - 3))))))) - (rd l0 (wrap64 ((l0.length : Int) - 4)))))) else (none)) else (none)) else (none)) else (none)) else (none)) else (none)) = some r := by first | (rw [hji28] at H; exact H) | (simp only [hji28] at H ⊢; exact H)
       have hji28w : (IntKind.i64.wrap ((l0.length : Int) - 2)) = ji28 := (i64_w _).trans hji28
       by_cases c29 : 0 ≤ (ji28)
       ·rw [if_pos c29] at H
        have c29b0 : decide (0 ≤ (ji28)) = true := decide_eq_true c29
        clear c29
        by_cases c30 : (ji28) < (l0.length : Int)
        ·rw [if_pos c30] at H
         have c30b0 : decide ((ji28) < (l0.length : Int)) = true := decide_eq_true c30
         clear c30
         obtain ⟨ji31, hji31⟩ : ∃ j_ : Int, (wrap64 ((l0.length : Int) - 3)) = j_ := ⟨_, rfl⟩
         replace H : (if 0 ≤ (ji31) then (if (ji31) < (l0.length : Int) then (if 0 ≤ (wrap64 ((l0.length : Int) - 4)) then (if (wrap64 ((l0.length : Int) - 4)) < (l0.length : Int) then (some (wrap64 ((wrap64 ((wrap64 ((wrap64 (4 * (rd l0 (ji25)))) - (wrap64 (6 * (rd l0 (ji28)))))) + (wrap64 (4 * (rd l0 (ji31)))))) - (rd l0 (wrap64 ((l0.length : Int) - 4)))))) else (none)) else (none)) else (none)) else (none)) = some r := by first | (rw [hji31] at H; exact H) | (simp only [hji31] at H ⊢; exact H)
         have hji31w : (IntKind.i64.wrap ((l0.length : Int) - 3)) = ji31 := (i64_w _).trans hji31
         by_cases c32 : 0 ≤ (ji31)
         ·rw [if_pos c32] at H
          have c32b0 : decide (0 ≤ (ji31)) = true := decide_eq_true c32
          clear c32
          by_cases c33 : (ji31) < (l0.length : Int)
          ·rw [if_pos c33] at H
           have c33b0 : decide ((ji31) < (l0.length : Int)) = true := decide_eq_true c33
           clear c33
           obtain ⟨ji34, hji34⟩ : ∃ j_ : Int, (wrap64 ((l0.length : Int) - 4)) = j_ := ⟨_, rfl⟩
           replace H : (if 0 ≤ (ji34) then (if (ji34) < (l0.length : Int) then (some (wrap64 ((wrap64 ((wrap64 ((wrap64 (4 * (rd l0 (ji25)))) - (wrap64 (6 * (rd l0 (ji28)))))) + (wrap64 (4 * (rd l0 (ji31)))))) - (rd l0 (ji34))))) else (none)) else (none)) = some r := by first | (rw [hji34] at H; exact H) | (simp only [hji34] at H ⊢; exact H)
           have hji34w : (IntKind.i64.wrap ((l0.length : Int) - 4)) = ji34 := (i64_w _).trans hji34
           by_cases c35 : 0 ≤ (ji34)
           ·rw [if_pos c35] at H
            have c35b0 : decide (0 ≤ (ji34)) = true := decide_eq_true c35
            clear c35
            by_cases c36 : (ji34) < (l0.length : Int)
            ·rw [if_pos c36] at H
             have c36b0 : decide ((ji34) < (l0.length : Int)) = true := decide_eq_true c36
             clear c36
             obtain rfl := Option.some.inj H
             have p228 : 0 ≤ ((ji25) : Int) := of_decide_eq_true (by first | (with_reducible assumption) | assumption)
             have q228 : (ji25) < (l0.length : Int) := of_decide_eq_true (by first | (with_reducible assumption) | assumption)
             obtain ⟨ad228, e228, hx228_0⟩ := Kd.at_int HR0.out (ji25) p228 q228
             cases e228
             replace p228 := eq_true p228
             replace q228 := eq_true q228
             have p229 : 0 ≤ ((ji28) : Int) := of_decide_eq_true (by first | (with_reducible assumption) | assumption)
             have q229 : (ji28) < (l0.length : Int) := of_decide_eq_true (by first | (with_reducible assumption) | assumption)
             obtain ⟨ad229, e229, hx229_0⟩ := Kd.at_int HR0.out (ji28) p229 q229
             obtain rfl : ad228 = ad229 := (by injection e229)
             replace p229 := eq_true p229
             replace q229 := eq_true q229
             have p230 : 0 ≤ ((ji31) : Int) := of_decide_eq_true (by first | (with_reducible assumption) | assumption)
             have q230 : (ji31) < (l0.length : Int) := of_decide_eq_true (by first | (with_reducible assumption) | assumption)
             obtain ⟨ad230, e230, hx230_0⟩ := Kd.at_int HR0.out (ji31) p230 q230
             obtain rfl : ad228 = ad230 := (by injection e230)
             replace p230 := eq_true p230
             replace q230 := eq_true q230
             have p231 : 0 ≤ ((ji34) : Int) := of_decide_eq_true (by first | (with_reducible assumption) | assumption)
             have q231 : (ji34) < (l0.length : Int) := of_decide_eq_true (by first | (with_reducible assumption) | assumption)
             obtain ⟨ad231, e231, hx231_0⟩ := Kd.at_int HR0.out (ji34) p231 q231
             obtain rfl : ad228 = ad231 := (by injection e231)
             replace p231 := eq_true p231
             replace q231 := eq_true q231
             go_enter Tryz.func94, Tryz.ntmps94
             go_wp2
             repeat (go_quiet (fail); try go_wp2)
             go_ret
             exact ⟨by first | rfl | (simp; done) | (simp only [← hji25, ← hji28, ← hji31, ← hji34] <;> (first | rfl | simp)) | (simp [*]; done), by repeat (first | exact Drawn0.refl _ | apply Drawn0.step)⟩
            ·rw [if_neg c36] at H
             exact absurd H (by simp)
           ·rw [if_neg c35] at H
            exact absurd H (by simp)
          ·rw [if_neg c33] at H
           exact absurd H (by simp)
         ·rw [if_neg c32] at H
          exact absurd H (by simp)
        ·rw [if_neg c30] at H
         exact absurd H (by simp)
       ·rw [if_neg c29] at H
        exact absurd H (by simp)
      ·rw [if_neg c27] at H
       exact absurd H (by simp)
     ·rw [if_neg c26] at H
      exact absurd H (by simp)
    ·rw [if_neg c24] at H
     have c24b0 : (a1 == 4) = false := beq_eq_false_iff_ne.mpr c24
     have c24b1 : (a1 != 4) = true := bne_iff_ne.mpr c24
     obtain rfl := Option.some.inj H
     go_enter Tryz.func94, Tryz.ntmps94
     go_wp2
     repeat (go_quiet (fail); try go_wp2)
     go_ret
     exact ⟨by first | rfl | (simp; done) | (simp [*]; done), by repeat (first | exact Drawn0.refl _ | apply Drawn0.step)⟩
def spec_Channels.f (a0 : Int) : Option (Int) := if a0 > 7 then (some 2) else (some (wrap64 (a0 + 1)))
set_option maxHeartbeats 8000000 in
set_option maxRecDepth 100000 in
theorem spec_Channels.calls (a0 : Int) (r : Int) (w : World) (h : spec_Channels.f a0 = some r) :
  Calls Tryz.prog 8 #[.int .i64 a0] w fun e w' => e = .returned (.int .i64 r) ∧ Drawn0 w w' := by
 have H : (if a0 > 7 then (some 2) else (some (wrap64 (a0 + 1)))) = some r := h
 clear h
 by_cases c2 : a0 > 7
 ·rw [if_pos c2] at H
  have c2b0 : decide (7 < a0) = true := decide_eq_true c2
  clear c2
  obtain rfl := Option.some.inj H
  go_enter Tryz.func8, Tryz.ntmps8
  go_wp2
  go_ret
  exact ⟨by first | rfl | (simp; done) | (simp [*]; done), by repeat (first | exact Drawn0.refl _ | apply Drawn0.step)⟩
 ·rw [if_neg c2] at H
  have c2b0 : decide (7 < a0) = false := decide_eq_false c2
  clear c2
  obtain rfl := Option.some.inj H
  go_enter Tryz.func8, Tryz.ntmps8
  go_wp2
  go_ret
  exact ⟨by first | rfl | (simp; done) | (simp [*]; done), by repeat (first | exact Drawn0.refl _ | apply Drawn0.step)⟩
def spec_sideOf.f (a0 : Int) (a1 : Int) : Option (Bool) := if a0 = 8 then (if a1 = 1 then (some true) else (if a0 = 9 then (if a1 = 0 then (some true) else (if a0 = 10 then (some (a1 == 1)) else (some false))) else (if a0 = 10 then (some (a1 == 1)) else (some false)))) else (if a0 = 9 then (if a1 = 0 then (some true) else (if a0 = 10 then (some (a1 == 1)) else (some false))) else (if a0 = 10 then (some (a1 == 1)) else (some false)))
set_option maxHeartbeats 8000000 in
set_option maxRecDepth 100000 in
theorem spec_sideOf.calls (a0 : Int) (a1 : Int) (r : Bool) (w : World) (h : spec_sideOf.f a0 a1 = some r) :
  Calls Tryz.prog 27 #[.int .i64 a0, .int .i64 a1] w fun e w' => e = .returned (.bool r) ∧ Drawn0 w w' := by
 have H : (if a0 = 8 then (if a1 = 1 then (some true) else (if a0 = 9 then (if a1 = 0 then (some true) else (if a0 = 10 then (some (a1 == 1)) else (some false))) else (if a0 = 10 then (some (a1 == 1)) else (some false)))) else (if a0 = 9 then (if a1 = 0 then (some true) else (if a0 = 10 then (some (a1 == 1)) else (some false))) else (if a0 = 10 then (some (a1 == 1)) else (some false)))) = some r := h
 clear h
 by_cases c3 : a0 = 8
 ·rw [if_pos c3] at H
  have c3b0 : (a0 == 8) = true := beq_iff_eq.mpr c3
  have c3b1 : (a0 != 8) = false := bne_eq_false_iff_eq.mpr c3
  clear c3
  by_cases c4 : a1 = 1
  ·rw [if_pos c4] at H
   have c4b0 : (a1 == 1) = true := beq_iff_eq.mpr c4
   have c4b1 : (a1 != 1) = false := bne_eq_false_iff_eq.mpr c4
   clear c4
   obtain rfl := Option.some.inj H
   go_enter Tryz.func27, Tryz.ntmps27
   go_wp2
   go_ret
   exact ⟨by first | rfl | (simp; done) | (simp [*]; done), by repeat (first | exact Drawn0.refl _ | apply Drawn0.step)⟩
  ·rw [if_neg c4] at H
   have c4b0 : (a1 == 1) = false := beq_eq_false_iff_ne.mpr c4
   have c4b1 : (a1 != 1) = true := bne_iff_ne.mpr c4
   by_cases c5 : a0 = 9
   ·rw [if_pos c5] at H
    have c5b0 : (a0 == 9) = true := beq_iff_eq.mpr c5
    have c5b1 : (a0 != 9) = false := bne_eq_false_iff_eq.mpr c5
    clear c5
    by_cases c6 : a1 = 0
    ·rw [if_pos c6] at H
     have c6b0 : (a1 == 0) = true := beq_iff_eq.mpr c6
     have c6b1 : (a1 != 0) = false := bne_eq_false_iff_eq.mpr c6
     clear c6
     obtain rfl := Option.some.inj H
     go_enter Tryz.func27, Tryz.ntmps27
     go_wp2
     go_ret
     exact ⟨by first | rfl | (simp; done) | (simp [*]; done), by repeat (first | exact Drawn0.refl _ | apply Drawn0.step)⟩
    ·rw [if_neg c6] at H
     have c6b0 : (a1 == 0) = false := beq_eq_false_iff_ne.mpr c6
     have c6b1 : (a1 != 0) = true := bne_iff_ne.mpr c6
     by_cases c7 : a0 = 10
     ·rw [if_pos c7] at H
      have c7b0 : (a0 == 10) = true := beq_iff_eq.mpr c7
      have c7b1 : (a0 != 10) = false := bne_eq_false_iff_eq.mpr c7
      clear c7
      obtain rfl := Option.some.inj H
      go_enter Tryz.func27, Tryz.ntmps27
      go_wp2
      go_ret
      exact ⟨by first | rfl | (simp; done) | (simp [*]; done), by repeat (first | exact Drawn0.refl _ | apply Drawn0.step)⟩
     ·rw [if_neg c7] at H
      have c7b0 : (a0 == 10) = false := beq_eq_false_iff_ne.mpr c7
      have c7b1 : (a0 != 10) = true := bne_iff_ne.mpr c7
      obtain rfl := Option.some.inj H
      go_enter Tryz.func27, Tryz.ntmps27
      go_wp2
      go_ret
      exact ⟨by first | rfl | (simp; done) | (simp [*]; done), by repeat (first | exact Drawn0.refl _ | apply Drawn0.step)⟩
   ·rw [if_neg c5] at H
    have c5b0 : (a0 == 9) = false := beq_eq_false_iff_ne.mpr c5
    have c5b1 : (a0 != 9) = true := bne_iff_ne.mpr c5
    by_cases c8 : a0 = 10
    ·rw [if_pos c8] at H
     have c8b0 : (a0 == 10) = true := beq_iff_eq.mpr c8
     have c8b1 : (a0 != 10) = false := bne_eq_false_iff_eq.mpr c8
     clear c8
     obtain rfl := Option.some.inj H
     go_enter Tryz.func27, Tryz.ntmps27
     go_wp2
     go_ret
     exact ⟨by first | rfl | (simp; done) | (simp [*]; done), by repeat (first | exact Drawn0.refl _ | apply Drawn0.step)⟩
    ·rw [if_neg c8] at H
     have c8b0 : (a0 == 10) = false := beq_eq_false_iff_ne.mpr c8
     have c8b1 : (a0 != 10) = true := bne_iff_ne.mpr c8
     obtain rfl := Option.some.inj H
     go_enter Tryz.func27, Tryz.ntmps27
     go_wp2
     go_ret
     exact ⟨by first | rfl | (simp; done) | (simp [*]; done), by repeat (first | exact Drawn0.refl _ | apply Drawn0.step)⟩
 ·rw [if_neg c3] at H
  have c3b0 : (a0 == 8) = false := beq_eq_false_iff_ne.mpr c3
  have c3b1 : (a0 != 8) = true := bne_iff_ne.mpr c3
  by_cases c9 : a0 = 9
  ·rw [if_pos c9] at H
   have c9b0 : (a0 == 9) = true := beq_iff_eq.mpr c9
   have c9b1 : (a0 != 9) = false := bne_eq_false_iff_eq.mpr c9
   clear c9
   by_cases c10 : a1 = 0
   ·rw [if_pos c10] at H
    have c10b0 : (a1 == 0) = true := beq_iff_eq.mpr c10
    have c10b1 : (a1 != 0) = false := bne_eq_false_iff_eq.mpr c10
    clear c10
    obtain rfl := Option.some.inj H
    go_enter Tryz.func27, Tryz.ntmps27
    go_wp2
    go_ret
    exact ⟨by first | rfl | (simp; done) | (simp [*]; done), by repeat (first | exact Drawn0.refl _ | apply Drawn0.step)⟩
   ·rw [if_neg c10] at H
    have c10b0 : (a1 == 0) = false := beq_eq_false_iff_ne.mpr c10
    have c10b1 : (a1 != 0) = true := bne_iff_ne.mpr c10
    by_cases c11 : a0 = 10
    ·rw [if_pos c11] at H
     have c11b0 : (a0 == 10) = true := beq_iff_eq.mpr c11
     have c11b1 : (a0 != 10) = false := bne_eq_false_iff_eq.mpr c11
     clear c11
     obtain rfl := Option.some.inj H
     go_enter Tryz.func27, Tryz.ntmps27
     go_wp2
     go_ret
     exact ⟨by first | rfl | (simp; done) | (simp [*]; done), by repeat (first | exact Drawn0.refl _ | apply Drawn0.step)⟩
    ·rw [if_neg c11] at H
     have c11b0 : (a0 == 10) = false := beq_eq_false_iff_ne.mpr c11
     have c11b1 : (a0 != 10) = true := bne_iff_ne.mpr c11
     obtain rfl := Option.some.inj H
     go_enter Tryz.func27, Tryz.ntmps27
     go_wp2
     go_ret
     exact ⟨by first | rfl | (simp; done) | (simp [*]; done), by repeat (first | exact Drawn0.refl _ | apply Drawn0.step)⟩
  ·rw [if_neg c9] at H
   have c9b0 : (a0 == 9) = false := beq_eq_false_iff_ne.mpr c9
   have c9b1 : (a0 != 9) = true := bne_iff_ne.mpr c9
   by_cases c12 : a0 = 10
   ·rw [if_pos c12] at H
    have c12b0 : (a0 == 10) = true := beq_iff_eq.mpr c12
    have c12b1 : (a0 != 10) = false := bne_eq_false_iff_eq.mpr c12
    clear c12
    obtain rfl := Option.some.inj H
    go_enter Tryz.func27, Tryz.ntmps27
    go_wp2
    go_ret
    exact ⟨by first | rfl | (simp; done) | (simp [*]; done), by repeat (first | exact Drawn0.refl _ | apply Drawn0.step)⟩
   ·rw [if_neg c12] at H
    have c12b0 : (a0 == 10) = false := beq_eq_false_iff_ne.mpr c12
    have c12b1 : (a0 != 10) = true := bne_iff_ne.mpr c12
    obtain rfl := Option.some.inj H
    go_enter Tryz.func27, Tryz.ntmps27
    go_wp2
    go_ret
    exact ⟨by first | rfl | (simp; done) | (simp [*]; done), by repeat (first | exact Drawn0.refl _ | apply Drawn0.step)⟩
end Go.Proofs.YtmcllndnjdemaaaGreatDoor.PFnEncode
