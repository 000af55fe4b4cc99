/- The parts of a frame's header, read one by one. Printed by wip/hdr.py. -/
import Derived.Test.YtcdfbcanebjmfaaDoorDecA
import Derived.Outline
namespace Go.Proofs.YtcdfbcanebjmfaaDoor.Walk
set_option linter.unusedVariables false
set_option linter.unusedSimpArgs false
open Go Go.RowKit Go.Proofs.YtcdfbcanebjmfaaDoorW.PrintWords Go.Proofs.YtcdfbcanebjmfaaDoor.Num

/-- A frame's block. -/
def frA (fx : Bool) (bs sr ch bps nm : Int) (v6 v7 v8 v9 v10 : Value) : Array Value := #[.bool fx, .int .u16 bs, .int .u32 sr, .int .u8 ch, .int .u8 bps, .int .u64 nm, v6, v7, v8, v9, v10]
/-- A call that ends with an error. -/
def ErrEnds (S : List Nat) (w : World) (e : Ending) (w' : World) : Prop := (∃ a, ErrAt w' a ∧ e = .returned (.iface 130 (.pointer (some a)))) ∧ Touch S w w'
def UnxEnds (w : World) (e : Ending) (w' : World) : Prop := (∃ a, ErrAt w' a ∧ e = .returned (.iface 130 (.pointer (some a)))) ∧ w' = w
theorem unexp (a ea eb : Addr) (w : World) (hG : Glob w ea eb) (ha : ErrAt w a) : Calls Tryd.prog 28 #[.iface 130 (.pointer (some a))] w (UnxEnds w) := by
  have e1 := hG.eof
  have e2 := hG.uef
  by_cases h : a = ea
  · subst h
    have heq := eqlErr a
    have HB := Lib.hid hG.atb
    clear hG ha
    go_enter Tryd.func28, Tryd.ntmps28
    go_wp2_with fail
    go_ret
    exact ⟨⟨eb, HB.out, rfl⟩, rfl⟩
  · have heq : (binOp .eql 50 (.iface 130 (.pointer (some a))) (.iface 130 (.pointer (some ea)))).run Tryd.prog w = .ok (.bool false) w := by
      obtain ⟨i, hi, hc⟩ := Option.map_eq_some_iff.1 compErr
      obtain ⟨j, hj, hz⟩ := Option.map_eq_some_iff.1 sizeErr
      obtain ⟨c1, t1, h1⟩ := ha
      obtain ⟨c2, t2, h2⟩ := hG.ata
      exact run_eql_iface_ptr_other w Tryd.underlying50 Tryd.underlying130 hi hc hj (by omega) h h1 h2
    have HA := Lib.hid ha
    clear hG ha h
    go_enter Tryd.func28, Tryd.ntmps28
    go_wp2_with fail
    go_ret
    exact ⟨⟨a, HA.out, rfl⟩, rfl⟩

def bpsOf : Nat → Option Nat
  | 0 => some 0
  | 1 => some 8
  | 2 => some 12
  | 4 => some 16
  | 5 => some 20
  | 6 => some 24
  | _ => none
/-- The size that the number n tells, at bit 'at', and the bit behind it. -/
def bsAt (l : List Int) (at_ n : Nat) : Option (Nat × Nat) :=
  if n = 0 then none else if n = 1 then some (192, at_) else if n ≤ 5 then some (576 * 2 ^ (n - 2), at_)
  else if n = 6 then (if at_ + 8 ≤ 8 * l.length then some (num l at_ 8 + 1, at_ + 8) else none)
  else if n = 7 then (if at_ + 16 ≤ 8 * l.length then some ((num l at_ 16 + 1) % 65536, at_ + 16) else none)
  else some (256 * 2 ^ (n - 8), at_)
def rateTab : List Nat := [0, 88200, 176400, 192000, 8000, 16000, 22050, 24000, 32000, 44100, 48000, 96000]
/-- The rate that the number n tells. -/
def srAt (l : List Int) (at_ n : Nat) : Option (Nat × Nat) :=
  if n ≤ 11 then some (rateTab.getD n 0, at_)
  else if n = 12 then (if at_ + 8 ≤ 8 * l.length then some (num l at_ 8 * 1000, at_ + 8) else none)
  else if n = 13 then (if at_ + 16 ≤ 8 * l.length then some (num l at_ 16, at_ + 16) else none)
  else if n = 14 then (if at_ + 16 ≤ 8 * l.length then some (num l at_ 16 * 10, at_ + 16) else none)
  else none

set_option maxHeartbeats 1000000 in
set_option maxRecDepth 100000 in
theorem pChan_ok {ty fn g : Nat} {S D : List Nat} {l : List Int} {St : World → Nat → Prop} (R : Src ty fn g S D l St) (hbytes : ∀ x ∈ l, 0 ≤ x ∧ x ≤ 255) (w : World) (gf gb at_ : Nat)
    (fx : Bool) (bs sr ch bps nm : Int) (v6 v7 v8 v9 v10 : Value) (ea eb : Addr)
    (hbr : Br ty g gb l St w at_) (hgb : gb ∉ D) (hf : w.heap[gf]? = some (.cells (frA fx bs sr ch bps nm v6 v7 v8 v9 v10) 74 (0, 0))) (hgf : gf ≠ gb) (hgd : gf ∉ D) (hG : Glob w ea eb) (hsafe : ∀ k ∈ gf :: gb :: S, Safe ea eb k)
    (hav : at_ + 4 ≤ 8 * l.length) (hlt : num l at_ 4 < 11) :
    Calls Tryd.prog 30 #[.pointer (some ⟨gf, 0, none⟩), .pointer (some ⟨gb, 0, none⟩)] w fun e w' => e = .returned .nilIface ∧ Touch (gf :: gb :: S) w w' ∧ Br ty g gb l St w' (at_ + 4) ∧
      w'.heap[gf]? = some (.cells (frA fx bs sr (num l at_ 4 : Nat) bps nm v6 v7 v8 v9 v10) 74 (0, 0)) := by
  have HR := Lib.hid R
  have HBY := Lib.hid hbytes
  have HBR := Lib.hid hbr
  have HGB := Lib.hid hgb
  have HF := Lib.hid hf
  have HGD := Lib.hid hgd
  have HG := Lib.hid hG
  have HSF := Lib.hid hsafe
  clear R hbytes hbr hgb hf hgd hG hsafe
  have HAV := Lib.hid hav
  obtain ⟨x, hx⟩ : ∃ x, num l at_ 4 = x := ⟨_, rfl⟩
  rw [hx] at hlt ⊢
  have hrd := br_read HR.out HBY.out w gb 4 at_ HBR.out (by decide) HAV.out HGB.out
  rw [hx] at hrd
  have HRD : Hid (Calls Tryd.prog 27 #[.pointer (some ⟨gb, 0, none⟩), .int .u64 4] w fun e w' => e = .returned (.tuple #[.int .u64 x, .nilIface]) ∧ Touch (gb :: S) w w' ∧ Br ty g gb l St w' (at_ + 4)) := Lib.hid hrd
  clear hrd
  clear hav hx
  go_enter Tryd.func30, Tryd.ntmps30
  go_wp2_with fail
  refine (HRD.out).mono ?_
  rintro e w1 ⟨rfl, ht, hbr1⟩
  have hf1 := ht.heap HF.out (fun hm => by
    rcases List.mem_cons.1 hm with h | h
    · exact hgf h
    · exact HGD.out (HR.out.sub _ h))
  have X := Lib.hid (And.intro ht (And.intro hbr1 hf1))
  have f3 : w1.frozen? ⟨gf, 3, none⟩ = false := by simp [World.frozen?, hf1]
  obtain ⟨uc, c3⟩ : ∃ uc, w1.cell? ⟨gf, 3, none⟩ = some uc := ⟨_, by rw [cell_of_row w1 gf 3 _ _ _ hf1]; rfl⟩
  clear ht hbr1 hf1
  go_wp2_with fail
  go_ret
  refine ⟨rfl, ?_, X.out.2.1.move HR.out ((Touch.refl [gf] w1).setCell (.inl (by simp)) _) (fun k hk => by simp at hk; subst hk; exact ⟨hgf, HGD.out⟩), ?_⟩
  · exact (X.out.1.mono (fun k _ hk => List.mem_cons_of_mem _ hk)).setCell (.inl (by simp)) _
  · rw [blk_set X.out.2.2 3]; rfl

set_option maxHeartbeats 1000000 in
set_option maxRecDepth 100000 in
theorem pChan_err {ty fn g : Nat} {S D : List Nat} {l : List Int} {St : World → Nat → Prop} (R : Src ty fn g S D l St) (hbytes : ∀ x ∈ l, 0 ≤ x ∧ x ≤ 255) (w : World) (gf gb at_ : Nat)
    (fx : Bool) (bs sr ch bps nm : Int) (v6 v7 v8 v9 v10 : Value) (ea eb : Addr)
    (hbr : Br ty g gb l St w at_) (hgb : gb ∉ D) (hf : w.heap[gf]? = some (.cells (frA fx bs sr ch bps nm v6 v7 v8 v9 v10) 74 (0, 0))) (hgf : gf ≠ gb) (hgd : gf ∉ D) (hG : Glob w ea eb) (hsafe : ∀ k ∈ gf :: gb :: S, Safe ea eb k)
    (hbad : ¬ (at_ + 4 ≤ 8 * l.length ∧ num l at_ 4 < 11)) :
    Calls Tryd.prog 30 #[.pointer (some ⟨gf, 0, none⟩), .pointer (some ⟨gb, 0, none⟩)] w (ErrEnds (gf :: gb :: S) w) := by
  have HR := Lib.hid R
  have HBY := Lib.hid hbytes
  have HBR := Lib.hid hbr
  have HGB := Lib.hid hgb
  have HF := Lib.hid hf
  have HGD := Lib.hid hgd
  have HG := Lib.hid hG
  have HSF := Lib.hid hsafe
  clear R hbytes hbr hgb hf hgd hG hsafe
  by_cases hav : at_ + 4 ≤ 8 * l.length
  · have HAV := Lib.hid hav
    obtain ⟨x, hx⟩ : ∃ x, num l at_ 4 = x := ⟨_, rfl⟩
    have hge : 11 ≤ x := by rw [← hx]; omega
    have hrd := br_read HR.out HBY.out w gb 4 at_ HBR.out (by decide) HAV.out HGB.out
    rw [hx] at hrd
    have HRD : Hid (Calls Tryd.prog 27 #[.pointer (some ⟨gb, 0, none⟩), .int .u64 4] w fun e w' => e = .returned (.tuple #[.int .u64 x, .nilIface]) ∧ Touch (gb :: S) w w' ∧ Br ty g gb l St w' (at_ + 4)) := Lib.hid hrd
    clear hrd
    clear hav hx hbad
    go_enter Tryd.func30, Tryd.ntmps30
    go_wp2_with fail
    refine (HRD.out).mono ?_
    rintro e w1 ⟨rfl, ht, hbr1⟩
    have hf1 := ht.heap HF.out (fun hm => by
      rcases List.mem_cons.1 hm with h | h
      · exact hgf h
      · exact HGD.out (HR.out.sub _ h))
    have X := Lib.hid (And.intro ht (And.intro hbr1 hf1))
    clear ht hbr1 hf1
    go_wp2_with fail
    refine (err_new _ w1).mono ?_
    rintro e w3 ⟨a, rfl, hb3, hat3⟩
    have HB3 := Lib.hid hb3
    have HA3 := Lib.hid hat3
    clear hb3 hat3
    go_wp2_with fail
    go_ret
    exact ⟨⟨a, HA3.out, rfl⟩, (X.out.1.mono (fun k _ hk => List.mem_cons_of_mem _ hk)).trans (Touch.of_below HB3.out)⟩
  · have HAV := Lib.hid (show 8 * l.length < at_ + 4 by omega)
    clear hav hbad
    go_enter Tryd.func30, Tryd.ntmps30
    go_wp2_with fail
    refine (br_fail HR.out w gb 4 at_ ea eb HBR.out (by decide) HAV.out HGB.out HG.out (fun k hk => HSF.out k (List.mem_cons_of_mem _ hk))).mono ?_
    rintro e w1 ⟨a, ha, rfl, ht⟩
    have hG1 := HG.out.touch ht (fun k hk => HSF.out k (List.mem_cons_of_mem _ hk))
    have hA1 : ErrAt w1 a := by rcases ha with rfl | rfl; exact hG1.ata; exact hG1.atb
    have X := Lib.hid ht
    have HG1 := Lib.hid hG1
    have HA1 := Lib.hid hA1
    clear ha ht hG1 hA1
    go_wp2_with fail
    refine (unexp a ea eb w1 HG1.out HA1.out).mono ?_
    rintro e w2 ⟨⟨a2, ha2, rfl⟩, rfl⟩
    have HA2 := Lib.hid ha2
    clear ha2
    go_wp2_with fail
    go_ret
    exact ⟨⟨a2, HA2.out, rfl⟩, X.out.mono (fun k _ hk => List.mem_cons_of_mem _ hk)⟩

set_option maxHeartbeats 1000000 in
set_option maxRecDepth 100000 in
theorem pBps_ok {ty fn g : Nat} {S D : List Nat} {l : List Int} {St : World → Nat → Prop} (R : Src ty fn g S D l St) (hbytes : ∀ x ∈ l, 0 ≤ x ∧ x ≤ 255) (w : World) (gf gb at_ : Nat)
    (fx : Bool) (bs sr ch nm : Int) (v6 v7 v8 v9 v10 : Value) (ea eb : Addr)
    (hbr : Br ty g gb l St w at_) (hgb : gb ∉ D) (hf : w.heap[gf]? = some (.cells (frA fx bs sr ch 0 nm v6 v7 v8 v9 v10) 74 (0, 0))) (hgf : gf ≠ gb) (hgd : gf ∉ D) (hG : Glob w ea eb) (hsafe : ∀ k ∈ gf :: gb :: S, Safe ea eb k)
    (hav : at_ + 3 ≤ 8 * l.length) (v : Nat) (hv : bpsOf (num l at_ 3) = some v) :
    Calls Tryd.prog 31 #[.pointer (some ⟨gf, 0, none⟩), .pointer (some ⟨gb, 0, none⟩)] w fun e w' => e = .returned .nilIface ∧ Touch (gf :: gb :: S) w w' ∧ Br ty g gb l St w' (at_ + 3) ∧
      w'.heap[gf]? = some (.cells (frA fx bs sr ch v nm v6 v7 v8 v9 v10) 74 (0, 0)) := by
  have HR := Lib.hid R
  have HBY := Lib.hid hbytes
  have HBR := Lib.hid hbr
  have HGB := Lib.hid hgb
  have HF := Lib.hid hf
  have HGD := Lib.hid hgd
  have HG := Lib.hid hG
  have HSF := Lib.hid hsafe
  clear R hbytes hbr hgb hf hgd hG hsafe
  have HAV := Lib.hid hav
  obtain ⟨x, hx⟩ : ∃ x, num l at_ 3 = x := ⟨_, rfl⟩
  have hx8 : x < 8 := by have := num_lt l at_ 3; omega
  rw [hx] at hv
  rcases (by omega : x = 0 ∨ x = 1 ∨ x = 2 ∨ x = 3 ∨ x = 4 ∨ x = 5 ∨ x = 6 ∨ x = 7) with rfl | rfl | rfl | rfl | rfl | rfl | rfl | rfl
  · -- 0
    obtain rfl : v = 0 := by simpa [bpsOf] using hv.symm
    have hrd := br_read HR.out HBY.out w gb 3 at_ HBR.out (by decide) HAV.out HGB.out
    rw [hx] at hrd
    have HRD : Hid (Calls Tryd.prog 27 #[.pointer (some ⟨gb, 0, none⟩), .int .u64 3] w fun e w' => e = .returned (.tuple #[.int .u64 0, .nilIface]) ∧ Touch (gb :: S) w w' ∧ Br ty g gb l St w' (at_ + 3)) := Lib.hid hrd
    clear hrd
    clear hav hx hv
    go_enter Tryd.func31, Tryd.ntmps31
    go_wp2_with fail
    refine (HRD.out).mono ?_
    rintro e w1 ⟨rfl, ht, hbr1⟩
    have hf1 := ht.heap HF.out (fun hm => by
      rcases List.mem_cons.1 hm with h | h
      · exact hgf h
      · exact HGD.out (HR.out.sub _ h))
    have X := Lib.hid (And.intro ht (And.intro hbr1 hf1))
    clear ht hbr1 hf1
    go_wp2_with fail
    go_ret
    exact ⟨rfl, X.out.1.mono (fun k _ hk => List.mem_cons_of_mem _ hk), X.out.2.1, X.out.2.2⟩
  · -- 1
    obtain rfl : v = 8 := by simpa [bpsOf] using hv.symm
    have hrd := br_read HR.out HBY.out w gb 3 at_ HBR.out (by decide) HAV.out HGB.out
    rw [hx] at hrd
    have HRD : Hid (Calls Tryd.prog 27 #[.pointer (some ⟨gb, 0, none⟩), .int .u64 3] w fun e w' => e = .returned (.tuple #[.int .u64 1, .nilIface]) ∧ Touch (gb :: S) w w' ∧ Br ty g gb l St w' (at_ + 3)) := Lib.hid hrd
    clear hrd
    clear hav hx hv
    go_enter Tryd.func31, Tryd.ntmps31
    go_wp2_with fail
    refine (HRD.out).mono ?_
    rintro e w1 ⟨rfl, ht, hbr1⟩
    have hf1 := ht.heap HF.out (fun hm => by
      rcases List.mem_cons.1 hm with h | h
      · exact hgf h
      · exact HGD.out (HR.out.sub _ h))
    have X := Lib.hid (And.intro ht (And.intro hbr1 hf1))
    have f4 : w1.frozen? ⟨gf, 4, none⟩ = false := by simp [World.frozen?, hf1]
    obtain ⟨uc, c4⟩ : ∃ uc, w1.cell? ⟨gf, 4, none⟩ = some uc := ⟨_, by rw [cell_of_row w1 gf 4 _ _ _ hf1]; rfl⟩
    clear ht hbr1 hf1
    go_wp2_with fail
    go_ret
    refine ⟨rfl, ?_, X.out.2.1.move HR.out ((Touch.refl [gf] w1).setCell (.inl (by simp)) _) (fun k hk => by simp at hk; subst hk; exact ⟨hgf, HGD.out⟩), ?_⟩
    · exact (X.out.1.mono (fun k _ hk => List.mem_cons_of_mem _ hk)).setCell (.inl (by simp)) _
    · rw [blk_set X.out.2.2 4]; rfl
  · -- 2
    obtain rfl : v = 12 := by simpa [bpsOf] using hv.symm
    have hrd := br_read HR.out HBY.out w gb 3 at_ HBR.out (by decide) HAV.out HGB.out
    rw [hx] at hrd
    have HRD : Hid (Calls Tryd.prog 27 #[.pointer (some ⟨gb, 0, none⟩), .int .u64 3] w fun e w' => e = .returned (.tuple #[.int .u64 2, .nilIface]) ∧ Touch (gb :: S) w w' ∧ Br ty g gb l St w' (at_ + 3)) := Lib.hid hrd
    clear hrd
    clear hav hx hv
    go_enter Tryd.func31, Tryd.ntmps31
    go_wp2_with fail
    refine (HRD.out).mono ?_
    rintro e w1 ⟨rfl, ht, hbr1⟩
    have hf1 := ht.heap HF.out (fun hm => by
      rcases List.mem_cons.1 hm with h | h
      · exact hgf h
      · exact HGD.out (HR.out.sub _ h))
    have X := Lib.hid (And.intro ht (And.intro hbr1 hf1))
    have f4 : w1.frozen? ⟨gf, 4, none⟩ = false := by simp [World.frozen?, hf1]
    obtain ⟨uc, c4⟩ : ∃ uc, w1.cell? ⟨gf, 4, none⟩ = some uc := ⟨_, by rw [cell_of_row w1 gf 4 _ _ _ hf1]; rfl⟩
    clear ht hbr1 hf1
    go_wp2_with fail
    go_ret
    refine ⟨rfl, ?_, X.out.2.1.move HR.out ((Touch.refl [gf] w1).setCell (.inl (by simp)) _) (fun k hk => by simp at hk; subst hk; exact ⟨hgf, HGD.out⟩), ?_⟩
    · exact (X.out.1.mono (fun k _ hk => List.mem_cons_of_mem _ hk)).setCell (.inl (by simp)) _
    · rw [blk_set X.out.2.2 4]; rfl
  · -- 3
    simp [bpsOf] at hv
  · -- 4
    obtain rfl : v = 16 := by simpa [bpsOf] using hv.symm
    have hrd := br_read HR.out HBY.out w gb 3 at_ HBR.out (by decide) HAV.out HGB.out
    rw [hx] at hrd
    have HRD : Hid (Calls Tryd.prog 27 #[.pointer (some ⟨gb, 0, none⟩), .int .u64 3] w fun e w' => e = .returned (.tuple #[.int .u64 4, .nilIface]) ∧ Touch (gb :: S) w w' ∧ Br ty g gb l St w' (at_ + 3)) := Lib.hid hrd
    clear hrd
    clear hav hx hv
    go_enter Tryd.func31, Tryd.ntmps31
    go_wp2_with fail
    refine (HRD.out).mono ?_
    rintro e w1 ⟨rfl, ht, hbr1⟩
    have hf1 := ht.heap HF.out (fun hm => by
      rcases List.mem_cons.1 hm with h | h
      · exact hgf h
      · exact HGD.out (HR.out.sub _ h))
    have X := Lib.hid (And.intro ht (And.intro hbr1 hf1))
    have f4 : w1.frozen? ⟨gf, 4, none⟩ = false := by simp [World.frozen?, hf1]
    obtain ⟨uc, c4⟩ : ∃ uc, w1.cell? ⟨gf, 4, none⟩ = some uc := ⟨_, by rw [cell_of_row w1 gf 4 _ _ _ hf1]; rfl⟩
    clear ht hbr1 hf1
    go_wp2_with fail
    go_ret
    refine ⟨rfl, ?_, X.out.2.1.move HR.out ((Touch.refl [gf] w1).setCell (.inl (by simp)) _) (fun k hk => by simp at hk; subst hk; exact ⟨hgf, HGD.out⟩), ?_⟩
    · exact (X.out.1.mono (fun k _ hk => List.mem_cons_of_mem _ hk)).setCell (.inl (by simp)) _
    · rw [blk_set X.out.2.2 4]; rfl
  · -- 5
    obtain rfl : v = 20 := by simpa [bpsOf] using hv.symm
    have hrd := br_read HR.out HBY.out w gb 3 at_ HBR.out (by decide) HAV.out HGB.out
    rw [hx] at hrd
    have HRD : Hid (Calls Tryd.prog 27 #[.pointer (some ⟨gb, 0, none⟩), .int .u64 3] w fun e w' => e = .returned (.tuple #[.int .u64 5, .nilIface]) ∧ Touch (gb :: S) w w' ∧ Br ty g gb l St w' (at_ + 3)) := Lib.hid hrd
    clear hrd
    clear hav hx hv
    go_enter Tryd.func31, Tryd.ntmps31
    go_wp2_with fail
    refine (HRD.out).mono ?_
    rintro e w1 ⟨rfl, ht, hbr1⟩
    have hf1 := ht.heap HF.out (fun hm => by
      rcases List.mem_cons.1 hm with h | h
      · exact hgf h
      · exact HGD.out (HR.out.sub _ h))
    have X := Lib.hid (And.intro ht (And.intro hbr1 hf1))
    have f4 : w1.frozen? ⟨gf, 4, none⟩ = false := by simp [World.frozen?, hf1]
    obtain ⟨uc, c4⟩ : ∃ uc, w1.cell? ⟨gf, 4, none⟩ = some uc := ⟨_, by rw [cell_of_row w1 gf 4 _ _ _ hf1]; rfl⟩
    clear ht hbr1 hf1
    go_wp2_with fail
    go_ret
    refine ⟨rfl, ?_, X.out.2.1.move HR.out ((Touch.refl [gf] w1).setCell (.inl (by simp)) _) (fun k hk => by simp at hk; subst hk; exact ⟨hgf, HGD.out⟩), ?_⟩
    · exact (X.out.1.mono (fun k _ hk => List.mem_cons_of_mem _ hk)).setCell (.inl (by simp)) _
    · rw [blk_set X.out.2.2 4]; rfl
  · -- 6
    obtain rfl : v = 24 := by simpa [bpsOf] using hv.symm
    have hrd := br_read HR.out HBY.out w gb 3 at_ HBR.out (by decide) HAV.out HGB.out
    rw [hx] at hrd
    have HRD : Hid (Calls Tryd.prog 27 #[.pointer (some ⟨gb, 0, none⟩), .int .u64 3] w fun e w' => e = .returned (.tuple #[.int .u64 6, .nilIface]) ∧ Touch (gb :: S) w w' ∧ Br ty g gb l St w' (at_ + 3)) := Lib.hid hrd
    clear hrd
    clear hav hx hv
    go_enter Tryd.func31, Tryd.ntmps31
    go_wp2_with fail
    refine (HRD.out).mono ?_
    rintro e w1 ⟨rfl, ht, hbr1⟩
    have hf1 := ht.heap HF.out (fun hm => by
      rcases List.mem_cons.1 hm with h | h
      · exact hgf h
      · exact HGD.out (HR.out.sub _ h))
    have X := Lib.hid (And.intro ht (And.intro hbr1 hf1))
    have f4 : w1.frozen? ⟨gf, 4, none⟩ = false := by simp [World.frozen?, hf1]
    obtain ⟨uc, c4⟩ : ∃ uc, w1.cell? ⟨gf, 4, none⟩ = some uc := ⟨_, by rw [cell_of_row w1 gf 4 _ _ _ hf1]; rfl⟩
    clear ht hbr1 hf1
    go_wp2_with fail
    go_ret
    refine ⟨rfl, ?_, X.out.2.1.move HR.out ((Touch.refl [gf] w1).setCell (.inl (by simp)) _) (fun k hk => by simp at hk; subst hk; exact ⟨hgf, HGD.out⟩), ?_⟩
    · exact (X.out.1.mono (fun k _ hk => List.mem_cons_of_mem _ hk)).setCell (.inl (by simp)) _
    · rw [blk_set X.out.2.2 4]; rfl
  · -- 7
    simp [bpsOf] at hv

set_option maxHeartbeats 1000000 in
set_option maxRecDepth 100000 in
theorem pBps_err {ty fn g : Nat} {S D : List Nat} {l : List Int} {St : World → Nat → Prop} (R : Src ty fn g S D l St) (hbytes : ∀ x ∈ l, 0 ≤ x ∧ x ≤ 255) (w : World) (gf gb at_ : Nat)
    (fx : Bool) (bs sr ch nm : Int) (v6 v7 v8 v9 v10 : Value) (ea eb : Addr)
    (hbr : Br ty g gb l St w at_) (hgb : gb ∉ D) (hf : w.heap[gf]? = some (.cells (frA fx bs sr ch 0 nm v6 v7 v8 v9 v10) 74 (0, 0))) (hgf : gf ≠ gb) (hgd : gf ∉ D) (hG : Glob w ea eb) (hsafe : ∀ k ∈ gf :: gb :: S, Safe ea eb k)
    (hbad : ¬ (at_ + 3 ≤ 8 * l.length) ∨ bpsOf (num l at_ 3) = none) :
    Calls Tryd.prog 31 #[.pointer (some ⟨gf, 0, none⟩), .pointer (some ⟨gb, 0, none⟩)] w (ErrEnds (gf :: gb :: S) w) := by
  have HR := Lib.hid R
  have HBY := Lib.hid hbytes
  have HBR := Lib.hid hbr
  have HGB := Lib.hid hgb
  have HF := Lib.hid hf
  have HGD := Lib.hid hgd
  have HG := Lib.hid hG
  have HSF := Lib.hid hsafe
  clear R hbytes hbr hgb hf hgd hG hsafe
  by_cases hav : at_ + 3 ≤ 8 * l.length
  · have HAV := Lib.hid hav
    obtain ⟨x, hx⟩ : ∃ x, num l at_ 3 = x := ⟨_, rfl⟩
    have hx8 : x < 8 := by have := num_lt l at_ 3; omega
    have hv : bpsOf x = none := by rw [← hx]; exact hbad.resolve_left (fun h => h hav)
    clear hbad
    rcases (by omega : x = 0 ∨ x = 1 ∨ x = 2 ∨ x = 3 ∨ x = 4 ∨ x = 5 ∨ x = 6 ∨ x = 7) with rfl | rfl | rfl | rfl | rfl | rfl | rfl | rfl
    · -- 0
      simp [bpsOf] at hv
    · -- 1
      simp [bpsOf] at hv
    · -- 2
      simp [bpsOf] at hv
    · -- 3
      have hrd := br_read HR.out HBY.out w gb 3 at_ HBR.out (by decide) HAV.out HGB.out
      rw [hx] at hrd
      have HRD : Hid (Calls Tryd.prog 27 #[.pointer (some ⟨gb, 0, none⟩), .int .u64 3] w fun e w' => e = .returned (.tuple #[.int .u64 3, .nilIface]) ∧ Touch (gb :: S) w w' ∧ Br ty g gb l St w' (at_ + 3)) := Lib.hid hrd
      clear hrd
      clear hav hx hv
      go_enter Tryd.func31, Tryd.ntmps31
      go_wp2_with fail
      refine (HRD.out).mono ?_
      rintro e w1 ⟨rfl, ht, hbr1⟩
      have hf1 := ht.heap HF.out (fun hm => by
        rcases List.mem_cons.1 hm with h | h
        · exact hgf h
        · exact HGD.out (HR.out.sub _ h))
      have X := Lib.hid (And.intro ht (And.intro hbr1 hf1))
      clear ht hbr1 hf1
      go_wp2_with fail
      refine (err_new _ w1).mono ?_
      rintro e w3 ⟨a, rfl, hb3, hat3⟩
      have HB3 := Lib.hid hb3
      have HA3 := Lib.hid hat3
      clear hb3 hat3
      go_wp2_with fail
      go_ret
      exact ⟨⟨a, HA3.out, rfl⟩, (X.out.1.mono (fun k _ hk => List.mem_cons_of_mem _ hk)).trans (Touch.of_below HB3.out)⟩
    · -- 4
      simp [bpsOf] at hv
    · -- 5
      simp [bpsOf] at hv
    · -- 6
      simp [bpsOf] at hv
    · -- 7
      have hrd := br_read HR.out HBY.out w gb 3 at_ HBR.out (by decide) HAV.out HGB.out
      rw [hx] at hrd
      have HRD : Hid (Calls Tryd.prog 27 #[.pointer (some ⟨gb, 0, none⟩), .int .u64 3] w fun e w' => e = .returned (.tuple #[.int .u64 7, .nilIface]) ∧ Touch (gb :: S) w w' ∧ Br ty g gb l St w' (at_ + 3)) := Lib.hid hrd
      clear hrd
      clear hav hx hv
      go_enter Tryd.func31, Tryd.ntmps31
      go_wp2_with fail
      refine (HRD.out).mono ?_
      rintro e w1 ⟨rfl, ht, hbr1⟩
      have hf1 := ht.heap HF.out (fun hm => by
        rcases List.mem_cons.1 hm with h | h
        · exact hgf h
        · exact HGD.out (HR.out.sub _ h))
      have X := Lib.hid (And.intro ht (And.intro hbr1 hf1))
      clear ht hbr1 hf1
      go_wp2_with fail
      refine (err_new _ w1).mono ?_
      rintro e w3 ⟨a, rfl, hb3, hat3⟩
      have HB3 := Lib.hid hb3
      have HA3 := Lib.hid hat3
      clear hb3 hat3
      go_wp2_with fail
      go_ret
      exact ⟨⟨a, HA3.out, rfl⟩, (X.out.1.mono (fun k _ hk => List.mem_cons_of_mem _ hk)).trans (Touch.of_below HB3.out)⟩
  · have HAV := Lib.hid (show 8 * l.length < at_ + 3 by omega)
    clear hav hbad
    go_enter Tryd.func31, Tryd.ntmps31
    go_wp2_with fail
    refine (br_fail HR.out w gb 3 at_ ea eb HBR.out (by decide) HAV.out HGB.out HG.out (fun k hk => HSF.out k (List.mem_cons_of_mem _ hk))).mono ?_
    rintro e w1 ⟨a, ha, rfl, ht⟩
    have hG1 := HG.out.touch ht (fun k hk => HSF.out k (List.mem_cons_of_mem _ hk))
    have hA1 : ErrAt w1 a := by rcases ha with rfl | rfl; exact hG1.ata; exact hG1.atb
    have X := Lib.hid ht
    have HG1 := Lib.hid hG1
    have HA1 := Lib.hid hA1
    clear ha ht hG1 hA1
    go_wp2_with fail
    refine (unexp a ea eb w1 HG1.out HA1.out).mono ?_
    rintro e w2 ⟨⟨a2, ha2, rfl⟩, rfl⟩
    have HA2 := Lib.hid ha2
    clear ha2
    go_wp2_with fail
    go_ret
    exact ⟨⟨a2, HA2.out, rfl⟩, X.out.mono (fun k _ hk => List.mem_cons_of_mem _ hk)⟩

set_option maxHeartbeats 4000000 in
set_option maxRecDepth 100000 in
theorem pBs_ok {ty fn g : Nat} {S D : List Nat} {l : List Int} {St : World → Nat → Prop} (R : Src ty fn g S D l St) (hbytes : ∀ x ∈ l, 0 ≤ x ∧ x ≤ 255) (w : World) (gf gb at_ : Nat)
    (fx : Bool) (bs sr ch bps nm : Int) (v6 v7 v8 v9 v10 : Value) (ea eb : Addr)
    (hbr : Br ty g gb l St w at_) (hgb : gb ∉ D) (hf : w.heap[gf]? = some (.cells (frA fx bs sr ch bps nm v6 v7 v8 v9 v10) 74 (0, 0))) (hgf : gf ≠ gb) (hgd : gf ∉ D) (hG : Glob w ea eb) (hsafe : ∀ k ∈ gf :: gb :: S, Safe ea eb k)
    (n v at2 : Nat) (hn : n < 16) (hv : bsAt l at_ n = some (v, at2)) :
    Calls Tryd.prog 33 #[.pointer (some ⟨gf, 0, none⟩), .pointer (some ⟨gb, 0, none⟩), .int .u64 n] w fun e w' => e = .returned .nilIface ∧ Touch (gf :: gb :: S) w w' ∧ Br ty g gb l St w' at2 ∧
      w'.heap[gf]? = some (.cells (frA fx v sr ch bps nm v6 v7 v8 v9 v10) 74 (0, 0)) := by
  have HR := Lib.hid R
  have HBY := Lib.hid hbytes
  have HBR := Lib.hid hbr
  have HGB := Lib.hid hgb
  have HF := Lib.hid hf
  have HGD := Lib.hid hgd
  have HG := Lib.hid hG
  have HSF := Lib.hid hsafe
  clear R hbytes hbr hgb hf hgd hG hsafe
  rcases (by omega : n = 0 ∨ n = 1 ∨ n = 2 ∨ n = 3 ∨ n = 4 ∨ n = 5 ∨ n = 6 ∨ n = 7 ∨ n = 8 ∨ n = 9 ∨ n = 10 ∨ n = 11 ∨ n = 12 ∨ n = 13 ∨ n = 14 ∨ n = 15) with rfl | rfl | rfl | rfl | rfl | rfl | rfl | rfl | rfl | rfl | rfl | rfl | rfl | rfl | rfl | rfl
  · -- 0
    simp [bsAt] at hv
  · -- 1
    have hv2 : 192 = v ∧ at_ = at2 := by simpa [bsAt] using hv
    obtain ⟨rfl, rfl⟩ := hv2
    clear hv
    have hf1 := HF.out
    have f1 : w.frozen? ⟨gf, 1, none⟩ = false := by simp [World.frozen?, hf1]
    obtain ⟨uc, c1⟩ : ∃ uc, w.cell? ⟨gf, 1, none⟩ = some uc := ⟨_, by rw [cell_of_row w gf 1 _ _ _ hf1]; rfl⟩
    clear hf1
    go_enter Tryd.func33, Tryd.ntmps33
    go_wp2_with fail
    go_ret
    refine ⟨rfl, (Touch.refl _ _).setCell (.inl (by simp)) _, HBR.out.move HR.out ((Touch.refl [gf] w).setCell (.inl (by simp)) _) (fun k hk => by simp at hk; subst hk; exact ⟨hgf, HGD.out⟩), ?_⟩
    rw [blk_set HF.out 1]; rfl
  · -- 2
    have hv2 : 576 = v ∧ at_ = at2 := by simpa [bsAt] using hv
    obtain ⟨rfl, rfl⟩ := hv2
    clear hv
    have hf1 := HF.out
    have f1 : w.frozen? ⟨gf, 1, none⟩ = false := by simp [World.frozen?, hf1]
    obtain ⟨uc, c1⟩ : ∃ uc, w.cell? ⟨gf, 1, none⟩ = some uc := ⟨_, by rw [cell_of_row w gf 1 _ _ _ hf1]; rfl⟩
    clear hf1
    go_enter Tryd.func33, Tryd.ntmps33
    go_wp2_with fail
    go_ret
    refine ⟨rfl, (Touch.refl _ _).setCell (.inl (by simp)) _, HBR.out.move HR.out ((Touch.refl [gf] w).setCell (.inl (by simp)) _) (fun k hk => by simp at hk; subst hk; exact ⟨hgf, HGD.out⟩), ?_⟩
    rw [blk_set HF.out 1]; rfl
  · -- 3
    have hv2 : 1152 = v ∧ at_ = at2 := by simpa [bsAt] using hv
    obtain ⟨rfl, rfl⟩ := hv2
    clear hv
    have hf1 := HF.out
    have f1 : w.frozen? ⟨gf, 1, none⟩ = false := by simp [World.frozen?, hf1]
    obtain ⟨uc, c1⟩ : ∃ uc, w.cell? ⟨gf, 1, none⟩ = some uc := ⟨_, by rw [cell_of_row w gf 1 _ _ _ hf1]; rfl⟩
    clear hf1
    go_enter Tryd.func33, Tryd.ntmps33
    go_wp2_with fail
    go_ret
    refine ⟨rfl, (Touch.refl _ _).setCell (.inl (by simp)) _, HBR.out.move HR.out ((Touch.refl [gf] w).setCell (.inl (by simp)) _) (fun k hk => by simp at hk; subst hk; exact ⟨hgf, HGD.out⟩), ?_⟩
    rw [blk_set HF.out 1]; rfl
  · -- 4
    have hv2 : 2304 = v ∧ at_ = at2 := by simpa [bsAt] using hv
    obtain ⟨rfl, rfl⟩ := hv2
    clear hv
    have hf1 := HF.out
    have f1 : w.frozen? ⟨gf, 1, none⟩ = false := by simp [World.frozen?, hf1]
    obtain ⟨uc, c1⟩ : ∃ uc, w.cell? ⟨gf, 1, none⟩ = some uc := ⟨_, by rw [cell_of_row w gf 1 _ _ _ hf1]; rfl⟩
    clear hf1
    go_enter Tryd.func33, Tryd.ntmps33
    go_wp2_with fail
    go_ret
    refine ⟨rfl, (Touch.refl _ _).setCell (.inl (by simp)) _, HBR.out.move HR.out ((Touch.refl [gf] w).setCell (.inl (by simp)) _) (fun k hk => by simp at hk; subst hk; exact ⟨hgf, HGD.out⟩), ?_⟩
    rw [blk_set HF.out 1]; rfl
  · -- 5
    have hv2 : 4608 = v ∧ at_ = at2 := by simpa [bsAt] using hv
    obtain ⟨rfl, rfl⟩ := hv2
    clear hv
    have hf1 := HF.out
    have f1 : w.frozen? ⟨gf, 1, none⟩ = false := by simp [World.frozen?, hf1]
    obtain ⟨uc, c1⟩ : ∃ uc, w.cell? ⟨gf, 1, none⟩ = some uc := ⟨_, by rw [cell_of_row w gf 1 _ _ _ hf1]; rfl⟩
    clear hf1
    go_enter Tryd.func33, Tryd.ntmps33
    go_wp2_with fail
    go_ret
    refine ⟨rfl, (Touch.refl _ _).setCell (.inl (by simp)) _, HBR.out.move HR.out ((Touch.refl [gf] w).setCell (.inl (by simp)) _) (fun k hk => by simp at hk; subst hk; exact ⟨hgf, HGD.out⟩), ?_⟩
    rw [blk_set HF.out 1]; rfl
  · -- 6
    by_cases hav : at_ + 8 ≤ 8 * l.length
    · have HAV := Lib.hid hav
      obtain ⟨x, hx⟩ : ∃ x, num l at_ 8 = x := ⟨_, rfl⟩
      have hxb : x < 256 := by have := num_lt l at_ 8; omega
      have hv2 : x + 1 = v ∧ at_ + 8 = at2 := by simpa [bsAt, hav, hx] using hv
      obtain ⟨rfl, rfl⟩ := hv2
      have hrd := br_read HR.out HBY.out w gb 8 at_ HBR.out (by decide) HAV.out HGB.out
      rw [hx] at hrd
      have HRD : Hid (Calls Tryd.prog 27 #[.pointer (some ⟨gb, 0, none⟩), .int .u64 8] w fun e w' => e = .returned (.tuple #[.int .u64 x, .nilIface]) ∧ Touch (gb :: S) w w' ∧ Br ty g gb l St w' (at_ + 8)) := Lib.hid hrd
      clear hrd
      clear hav hx hv
      go_enter Tryd.func33, Tryd.ntmps33
      go_wp2_with fail
      refine (HRD.out).mono ?_
      rintro e w1 ⟨rfl, ht, hbr1⟩
      have hf1 := ht.heap HF.out (fun hm => by
        rcases List.mem_cons.1 hm with h | h
        · exact hgf h
        · exact HGD.out (HR.out.sub _ h))
      have X := Lib.hid (And.intro ht (And.intro hbr1 hf1))
      have f1 : w1.frozen? ⟨gf, 1, none⟩ = false := by simp [World.frozen?, hf1]
      obtain ⟨uc, c1⟩ : ∃ uc, w1.cell? ⟨gf, 1, none⟩ = some uc := ⟨_, by rw [cell_of_row w1 gf 1 _ _ _ hf1]; rfl⟩
      clear ht hbr1 hf1
      go_wp2_with fail
      go_ret
      refine ⟨rfl, ?_, X.out.2.1.move HR.out ((Touch.refl [gf] w1).setCell (.inl (by simp)) _) (fun k hk => by simp at hk; subst hk; exact ⟨hgf, HGD.out⟩), ?_⟩
      · exact (X.out.1.mono (fun k _ hk => List.mem_cons_of_mem _ hk)).setCell (.inl (by simp)) _
      · rw [blk_set X.out.2.2 1]; rfl
    · simp [bsAt, hav] at hv
  · -- 7
    by_cases hav : at_ + 16 ≤ 8 * l.length
    · have HAV := Lib.hid hav
      obtain ⟨x, hx⟩ : ∃ x, num l at_ 16 = x := ⟨_, rfl⟩
      have hxb : x < 65536 := by have := num_lt l at_ 16; omega
      have hv2 : (x + 1) % 65536 = v ∧ at_ + 16 = at2 := by simpa [bsAt, hav, hx] using hv
      obtain ⟨rfl, rfl⟩ := hv2
      have hrd := br_read HR.out HBY.out w gb 16 at_ HBR.out (by decide) HAV.out HGB.out
      rw [hx] at hrd
      have HRD : Hid (Calls Tryd.prog 27 #[.pointer (some ⟨gb, 0, none⟩), .int .u64 16] w fun e w' => e = .returned (.tuple #[.int .u64 x, .nilIface]) ∧ Touch (gb :: S) w w' ∧ Br ty g gb l St w' (at_ + 16)) := Lib.hid hrd
      clear hrd
      obtain ⟨y, hy⟩ : ∃ y, (x + 1) % 65536 = y := ⟨_, rfl⟩
      have hyi : IntKind.u16.wrap ((x : Int) + 1) = (y : Int) := by rw [IntKind.wrap_u16]; omega
      rw [hy]
      clear hav hx hv hy
      go_enter Tryd.func33, Tryd.ntmps33
      go_wp2_with fail
      refine (HRD.out).mono ?_
      rintro e w1 ⟨rfl, ht, hbr1⟩
      have hf1 := ht.heap HF.out (fun hm => by
        rcases List.mem_cons.1 hm with h | h
        · exact hgf h
        · exact HGD.out (HR.out.sub _ h))
      have X := Lib.hid (And.intro ht (And.intro hbr1 hf1))
      have f1 : w1.frozen? ⟨gf, 1, none⟩ = false := by simp [World.frozen?, hf1]
      obtain ⟨uc, c1⟩ : ∃ uc, w1.cell? ⟨gf, 1, none⟩ = some uc := ⟨_, by rw [cell_of_row w1 gf 1 _ _ _ hf1]; rfl⟩
      clear ht hbr1 hf1
      go_wp2_with fail
      go_ret
      refine ⟨rfl, ?_, X.out.2.1.move HR.out ((Touch.refl [gf] w1).setCell (.inl (by simp)) _) (fun k hk => by simp at hk; subst hk; exact ⟨hgf, HGD.out⟩), ?_⟩
      · exact (X.out.1.mono (fun k _ hk => List.mem_cons_of_mem _ hk)).setCell (.inl (by simp)) _
      · rw [blk_set X.out.2.2 1]; rfl
    · simp [bsAt, hav] at hv
  · -- 8
    have hv2 : 256 = v ∧ at_ = at2 := by simpa [bsAt] using hv
    obtain ⟨rfl, rfl⟩ := hv2
    clear hv
    have hf1 := HF.out
    have f1 : w.frozen? ⟨gf, 1, none⟩ = false := by simp [World.frozen?, hf1]
    obtain ⟨uc, c1⟩ : ∃ uc, w.cell? ⟨gf, 1, none⟩ = some uc := ⟨_, by rw [cell_of_row w gf 1 _ _ _ hf1]; rfl⟩
    clear hf1
    go_enter Tryd.func33, Tryd.ntmps33
    go_wp2_with fail
    go_ret
    refine ⟨rfl, (Touch.refl _ _).setCell (.inl (by simp)) _, HBR.out.move HR.out ((Touch.refl [gf] w).setCell (.inl (by simp)) _) (fun k hk => by simp at hk; subst hk; exact ⟨hgf, HGD.out⟩), ?_⟩
    rw [blk_set HF.out 1]; rfl
  · -- 9
    have hv2 : 512 = v ∧ at_ = at2 := by simpa [bsAt] using hv
    obtain ⟨rfl, rfl⟩ := hv2
    clear hv
    have hf1 := HF.out
    have f1 : w.frozen? ⟨gf, 1, none⟩ = false := by simp [World.frozen?, hf1]
    obtain ⟨uc, c1⟩ : ∃ uc, w.cell? ⟨gf, 1, none⟩ = some uc := ⟨_, by rw [cell_of_row w gf 1 _ _ _ hf1]; rfl⟩
    clear hf1
    go_enter Tryd.func33, Tryd.ntmps33
    go_wp2_with fail
    go_ret
    refine ⟨rfl, (Touch.refl _ _).setCell (.inl (by simp)) _, HBR.out.move HR.out ((Touch.refl [gf] w).setCell (.inl (by simp)) _) (fun k hk => by simp at hk; subst hk; exact ⟨hgf, HGD.out⟩), ?_⟩
    rw [blk_set HF.out 1]; rfl
  · -- 10
    have hv2 : 1024 = v ∧ at_ = at2 := by simpa [bsAt] using hv
    obtain ⟨rfl, rfl⟩ := hv2
    clear hv
    have hf1 := HF.out
    have f1 : w.frozen? ⟨gf, 1, none⟩ = false := by simp [World.frozen?, hf1]
    obtain ⟨uc, c1⟩ : ∃ uc, w.cell? ⟨gf, 1, none⟩ = some uc := ⟨_, by rw [cell_of_row w gf 1 _ _ _ hf1]; rfl⟩
    clear hf1
    go_enter Tryd.func33, Tryd.ntmps33
    go_wp2_with fail
    go_ret
    refine ⟨rfl, (Touch.refl _ _).setCell (.inl (by simp)) _, HBR.out.move HR.out ((Touch.refl [gf] w).setCell (.inl (by simp)) _) (fun k hk => by simp at hk; subst hk; exact ⟨hgf, HGD.out⟩), ?_⟩
    rw [blk_set HF.out 1]; rfl
  · -- 11
    have hv2 : 2048 = v ∧ at_ = at2 := by simpa [bsAt] using hv
    obtain ⟨rfl, rfl⟩ := hv2
    clear hv
    have hf1 := HF.out
    have f1 : w.frozen? ⟨gf, 1, none⟩ = false := by simp [World.frozen?, hf1]
    obtain ⟨uc, c1⟩ : ∃ uc, w.cell? ⟨gf, 1, none⟩ = some uc := ⟨_, by rw [cell_of_row w gf 1 _ _ _ hf1]; rfl⟩
    clear hf1
    go_enter Tryd.func33, Tryd.ntmps33
    go_wp2_with fail
    go_ret
    refine ⟨rfl, (Touch.refl _ _).setCell (.inl (by simp)) _, HBR.out.move HR.out ((Touch.refl [gf] w).setCell (.inl (by simp)) _) (fun k hk => by simp at hk; subst hk; exact ⟨hgf, HGD.out⟩), ?_⟩
    rw [blk_set HF.out 1]; rfl
  · -- 12
    have hv2 : 4096 = v ∧ at_ = at2 := by simpa [bsAt] using hv
    obtain ⟨rfl, rfl⟩ := hv2
    clear hv
    have hf1 := HF.out
    have f1 : w.frozen? ⟨gf, 1, none⟩ = false := by simp [World.frozen?, hf1]
    obtain ⟨uc, c1⟩ : ∃ uc, w.cell? ⟨gf, 1, none⟩ = some uc := ⟨_, by rw [cell_of_row w gf 1 _ _ _ hf1]; rfl⟩
    clear hf1
    go_enter Tryd.func33, Tryd.ntmps33
    go_wp2_with fail
    go_ret
    refine ⟨rfl, (Touch.refl _ _).setCell (.inl (by simp)) _, HBR.out.move HR.out ((Touch.refl [gf] w).setCell (.inl (by simp)) _) (fun k hk => by simp at hk; subst hk; exact ⟨hgf, HGD.out⟩), ?_⟩
    rw [blk_set HF.out 1]; rfl
  · -- 13
    have hv2 : 8192 = v ∧ at_ = at2 := by simpa [bsAt] using hv
    obtain ⟨rfl, rfl⟩ := hv2
    clear hv
    have hf1 := HF.out
    have f1 : w.frozen? ⟨gf, 1, none⟩ = false := by simp [World.frozen?, hf1]
    obtain ⟨uc, c1⟩ : ∃ uc, w.cell? ⟨gf, 1, none⟩ = some uc := ⟨_, by rw [cell_of_row w gf 1 _ _ _ hf1]; rfl⟩
    clear hf1
    go_enter Tryd.func33, Tryd.ntmps33
    go_wp2_with fail
    go_ret
    refine ⟨rfl, (Touch.refl _ _).setCell (.inl (by simp)) _, HBR.out.move HR.out ((Touch.refl [gf] w).setCell (.inl (by simp)) _) (fun k hk => by simp at hk; subst hk; exact ⟨hgf, HGD.out⟩), ?_⟩
    rw [blk_set HF.out 1]; rfl
  · -- 14
    have hv2 : 16384 = v ∧ at_ = at2 := by simpa [bsAt] using hv
    obtain ⟨rfl, rfl⟩ := hv2
    clear hv
    have hf1 := HF.out
    have f1 : w.frozen? ⟨gf, 1, none⟩ = false := by simp [World.frozen?, hf1]
    obtain ⟨uc, c1⟩ : ∃ uc, w.cell? ⟨gf, 1, none⟩ = some uc := ⟨_, by rw [cell_of_row w gf 1 _ _ _ hf1]; rfl⟩
    clear hf1
    go_enter Tryd.func33, Tryd.ntmps33
    go_wp2_with fail
    go_ret
    refine ⟨rfl, (Touch.refl _ _).setCell (.inl (by simp)) _, HBR.out.move HR.out ((Touch.refl [gf] w).setCell (.inl (by simp)) _) (fun k hk => by simp at hk; subst hk; exact ⟨hgf, HGD.out⟩), ?_⟩
    rw [blk_set HF.out 1]; rfl
  · -- 15
    have hv2 : 32768 = v ∧ at_ = at2 := by simpa [bsAt] using hv
    obtain ⟨rfl, rfl⟩ := hv2
    clear hv
    have hf1 := HF.out
    have f1 : w.frozen? ⟨gf, 1, none⟩ = false := by simp [World.frozen?, hf1]
    obtain ⟨uc, c1⟩ : ∃ uc, w.cell? ⟨gf, 1, none⟩ = some uc := ⟨_, by rw [cell_of_row w gf 1 _ _ _ hf1]; rfl⟩
    clear hf1
    go_enter Tryd.func33, Tryd.ntmps33
    go_wp2_with fail
    go_ret
    refine ⟨rfl, (Touch.refl _ _).setCell (.inl (by simp)) _, HBR.out.move HR.out ((Touch.refl [gf] w).setCell (.inl (by simp)) _) (fun k hk => by simp at hk; subst hk; exact ⟨hgf, HGD.out⟩), ?_⟩
    rw [blk_set HF.out 1]; rfl

set_option maxHeartbeats 1000000 in
set_option maxRecDepth 100000 in
theorem pBs_err {ty fn g : Nat} {S D : List Nat} {l : List Int} {St : World → Nat → Prop} (R : Src ty fn g S D l St) (hbytes : ∀ x ∈ l, 0 ≤ x ∧ x ≤ 255) (w : World) (gf gb at_ : Nat)
    (fx : Bool) (bs sr ch bps nm : Int) (v6 v7 v8 v9 v10 : Value) (ea eb : Addr)
    (hbr : Br ty g gb l St w at_) (hgb : gb ∉ D) (hf : w.heap[gf]? = some (.cells (frA fx bs sr ch bps nm v6 v7 v8 v9 v10) 74 (0, 0))) (hgf : gf ≠ gb) (hgd : gf ∉ D) (hG : Glob w ea eb) (hsafe : ∀ k ∈ gf :: gb :: S, Safe ea eb k)
    (n : Nat) (hn : n < 16) (hv : bsAt l at_ n = none) :
    Calls Tryd.prog 33 #[.pointer (some ⟨gf, 0, none⟩), .pointer (some ⟨gb, 0, none⟩), .int .u64 n] w (ErrEnds (gf :: gb :: S) w) := by
  have HR := Lib.hid R
  have HBY := Lib.hid hbytes
  have HBR := Lib.hid hbr
  have HGB := Lib.hid hgb
  have HF := Lib.hid hf
  have HGD := Lib.hid hgd
  have HG := Lib.hid hG
  have HSF := Lib.hid hsafe
  clear R hbytes hbr hgb hf hgd hG hsafe
  rcases (by omega : n = 0 ∨ n = 1 ∨ n = 2 ∨ n = 3 ∨ n = 4 ∨ n = 5 ∨ n = 6 ∨ n = 7 ∨ n = 8 ∨ n = 9 ∨ n = 10 ∨ n = 11 ∨ n = 12 ∨ n = 13 ∨ n = 14 ∨ n = 15) with rfl | rfl | rfl | rfl | rfl | rfl | rfl | rfl | rfl | rfl | rfl | rfl | rfl | rfl | rfl | rfl
  · -- 0
    clear hv
    go_enter Tryd.func33, Tryd.ntmps33
    go_wp2_with fail
    refine (err_new _ w).mono ?_
    rintro e w3 ⟨a, rfl, hb3, hat3⟩
    have HB3 := Lib.hid hb3
    have HA3 := Lib.hid hat3
    clear hb3 hat3
    go_wp2_with fail
    go_ret
    exact ⟨⟨a, HA3.out, rfl⟩, Touch.of_below HB3.out⟩
  · -- 1
    simp [bsAt] at hv
  · -- 2
    simp [bsAt] at hv
  · -- 3
    simp [bsAt] at hv
  · -- 4
    simp [bsAt] at hv
  · -- 5
    simp [bsAt] at hv
  · -- 6
    have HAV := Lib.hid (show 8 * l.length < at_ + 8 by
      rcases Nat.lt_or_ge (8 * l.length) (at_ + 8) with h | h
      · exact h
      · simp [bsAt, h] at hv)
    clear hv
    go_enter Tryd.func33, Tryd.ntmps33
    go_wp2_with fail
    refine (br_fail HR.out w gb 8 at_ ea eb HBR.out (by decide) HAV.out HGB.out HG.out (fun k hk => HSF.out k (List.mem_cons_of_mem _ hk))).mono ?_
    rintro e w1 ⟨a, ha, rfl, ht⟩
    have hG1 := HG.out.touch ht (fun k hk => HSF.out k (List.mem_cons_of_mem _ hk))
    have hA1 : ErrAt w1 a := by rcases ha with rfl | rfl; exact hG1.ata; exact hG1.atb
    have X := Lib.hid ht
    have HG1 := Lib.hid hG1
    have HA1 := Lib.hid hA1
    clear ha ht hG1 hA1
    go_wp2_with fail
    refine (unexp a ea eb w1 HG1.out HA1.out).mono ?_
    rintro e w2 ⟨⟨a2, ha2, rfl⟩, rfl⟩
    have HA2 := Lib.hid ha2
    clear ha2
    go_wp2_with fail
    go_ret
    exact ⟨⟨a2, HA2.out, rfl⟩, X.out.mono (fun k _ hk => List.mem_cons_of_mem _ hk)⟩
  · -- 7
    have HAV := Lib.hid (show 8 * l.length < at_ + 16 by
      rcases Nat.lt_or_ge (8 * l.length) (at_ + 16) with h | h
      · exact h
      · simp [bsAt, h] at hv)
    clear hv
    go_enter Tryd.func33, Tryd.ntmps33
    go_wp2_with fail
    refine (br_fail HR.out w gb 16 at_ ea eb HBR.out (by decide) HAV.out HGB.out HG.out (fun k hk => HSF.out k (List.mem_cons_of_mem _ hk))).mono ?_
    rintro e w1 ⟨a, ha, rfl, ht⟩
    have hG1 := HG.out.touch ht (fun k hk => HSF.out k (List.mem_cons_of_mem _ hk))
    have hA1 : ErrAt w1 a := by rcases ha with rfl | rfl; exact hG1.ata; exact hG1.atb
    have X := Lib.hid ht
    have HG1 := Lib.hid hG1
    have HA1 := Lib.hid hA1
    clear ha ht hG1 hA1
    go_wp2_with fail
    refine (unexp a ea eb w1 HG1.out HA1.out).mono ?_
    rintro e w2 ⟨⟨a2, ha2, rfl⟩, rfl⟩
    have HA2 := Lib.hid ha2
    clear ha2
    go_wp2_with fail
    go_ret
    exact ⟨⟨a2, HA2.out, rfl⟩, X.out.mono (fun k _ hk => List.mem_cons_of_mem _ hk)⟩
  · -- 8
    simp [bsAt] at hv
  · -- 9
    simp [bsAt] at hv
  · -- 10
    simp [bsAt] at hv
  · -- 11
    simp [bsAt] at hv
  · -- 12
    simp [bsAt] at hv
  · -- 13
    simp [bsAt] at hv
  · -- 14
    simp [bsAt] at hv
  · -- 15
    simp [bsAt] at hv

set_option maxHeartbeats 4000000 in
set_option maxRecDepth 100000 in
theorem pSr_ok {ty fn g : Nat} {S D : List Nat} {l : List Int} {St : World → Nat → Prop} (R : Src ty fn g S D l St) (hbytes : ∀ x ∈ l, 0 ≤ x ∧ x ≤ 255) (w : World) (gf gb at_ : Nat)
    (fx : Bool) (bs ch bps nm : Int) (v6 v7 v8 v9 v10 : Value) (ea eb : Addr)
    (hbr : Br ty g gb l St w at_) (hgb : gb ∉ D) (hf : w.heap[gf]? = some (.cells (frA fx bs 0 ch bps nm v6 v7 v8 v9 v10) 74 (0, 0))) (hgf : gf ≠ gb) (hgd : gf ∉ D) (hG : Glob w ea eb) (hsafe : ∀ k ∈ gf :: gb :: S, Safe ea eb k)
    (n v at2 : Nat) (hn : n < 16) (hv : srAt l at_ n = some (v, at2)) :
    Calls Tryd.prog 34 #[.pointer (some ⟨gf, 0, none⟩), .pointer (some ⟨gb, 0, none⟩), .int .u64 n] w fun e w' => e = .returned .nilIface ∧ Touch (gf :: gb :: S) w w' ∧ Br ty g gb l St w' at2 ∧
      w'.heap[gf]? = some (.cells (frA fx bs v ch bps nm v6 v7 v8 v9 v10) 74 (0, 0)) := by
  have HR := Lib.hid R
  have HBY := Lib.hid hbytes
  have HBR := Lib.hid hbr
  have HGB := Lib.hid hgb
  have HF := Lib.hid hf
  have HGD := Lib.hid hgd
  have HG := Lib.hid hG
  have HSF := Lib.hid hsafe
  clear R hbytes hbr hgb hf hgd hG hsafe
  rcases (by omega : n = 0 ∨ n = 1 ∨ n = 2 ∨ n = 3 ∨ n = 4 ∨ n = 5 ∨ n = 6 ∨ n = 7 ∨ n = 8 ∨ n = 9 ∨ n = 10 ∨ n = 11 ∨ n = 12 ∨ n = 13 ∨ n = 14 ∨ n = 15) with rfl | rfl | rfl | rfl | rfl | rfl | rfl | rfl | rfl | rfl | rfl | rfl | rfl | rfl | rfl | rfl
  · -- 0
    have hv2 : 0 = v ∧ at_ = at2 := by simpa [srAt, rateTab] using hv
    obtain ⟨rfl, rfl⟩ := hv2
    clear hv
    go_enter Tryd.func34, Tryd.ntmps34
    go_wp2_with fail
    go_ret
    exact ⟨rfl, Touch.refl _ _, HBR.out, HF.out⟩
  · -- 1
    have hv2 : 88200 = v ∧ at_ = at2 := by simpa [srAt, rateTab] using hv
    obtain ⟨rfl, rfl⟩ := hv2
    clear hv
    have hf1 := HF.out
    have f2 : w.frozen? ⟨gf, 2, none⟩ = false := by simp [World.frozen?, hf1]
    obtain ⟨uc, c2⟩ : ∃ uc, w.cell? ⟨gf, 2, none⟩ = some uc := ⟨_, by rw [cell_of_row w gf 2 _ _ _ hf1]; rfl⟩
    clear hf1
    go_enter Tryd.func34, Tryd.ntmps34
    go_wp2_with fail
    go_ret
    refine ⟨rfl, (Touch.refl _ _).setCell (.inl (by simp)) _, HBR.out.move HR.out ((Touch.refl [gf] w).setCell (.inl (by simp)) _) (fun k hk => by simp at hk; subst hk; exact ⟨hgf, HGD.out⟩), ?_⟩
    rw [blk_set HF.out 2]; rfl
  · -- 2
    have hv2 : 176400 = v ∧ at_ = at2 := by simpa [srAt, rateTab] using hv
    obtain ⟨rfl, rfl⟩ := hv2
    clear hv
    have hf1 := HF.out
    have f2 : w.frozen? ⟨gf, 2, none⟩ = false := by simp [World.frozen?, hf1]
    obtain ⟨uc, c2⟩ : ∃ uc, w.cell? ⟨gf, 2, none⟩ = some uc := ⟨_, by rw [cell_of_row w gf 2 _ _ _ hf1]; rfl⟩
    clear hf1
    go_enter Tryd.func34, Tryd.ntmps34
    go_wp2_with fail
    go_ret
    refine ⟨rfl, (Touch.refl _ _).setCell (.inl (by simp)) _, HBR.out.move HR.out ((Touch.refl [gf] w).setCell (.inl (by simp)) _) (fun k hk => by simp at hk; subst hk; exact ⟨hgf, HGD.out⟩), ?_⟩
    rw [blk_set HF.out 2]; rfl
  · -- 3
    have hv2 : 192000 = v ∧ at_ = at2 := by simpa [srAt, rateTab] using hv
    obtain ⟨rfl, rfl⟩ := hv2
    clear hv
    have hf1 := HF.out
    have f2 : w.frozen? ⟨gf, 2, none⟩ = false := by simp [World.frozen?, hf1]
    obtain ⟨uc, c2⟩ : ∃ uc, w.cell? ⟨gf, 2, none⟩ = some uc := ⟨_, by rw [cell_of_row w gf 2 _ _ _ hf1]; rfl⟩
    clear hf1
    go_enter Tryd.func34, Tryd.ntmps34
    go_wp2_with fail
    go_ret
    refine ⟨rfl, (Touch.refl _ _).setCell (.inl (by simp)) _, HBR.out.move HR.out ((Touch.refl [gf] w).setCell (.inl (by simp)) _) (fun k hk => by simp at hk; subst hk; exact ⟨hgf, HGD.out⟩), ?_⟩
    rw [blk_set HF.out 2]; rfl
  · -- 4
    have hv2 : 8000 = v ∧ at_ = at2 := by simpa [srAt, rateTab] using hv
    obtain ⟨rfl, rfl⟩ := hv2
    clear hv
    have hf1 := HF.out
    have f2 : w.frozen? ⟨gf, 2, none⟩ = false := by simp [World.frozen?, hf1]
    obtain ⟨uc, c2⟩ : ∃ uc, w.cell? ⟨gf, 2, none⟩ = some uc := ⟨_, by rw [cell_of_row w gf 2 _ _ _ hf1]; rfl⟩
    clear hf1
    go_enter Tryd.func34, Tryd.ntmps34
    go_wp2_with fail
    go_ret
    refine ⟨rfl, (Touch.refl _ _).setCell (.inl (by simp)) _, HBR.out.move HR.out ((Touch.refl [gf] w).setCell (.inl (by simp)) _) (fun k hk => by simp at hk; subst hk; exact ⟨hgf, HGD.out⟩), ?_⟩
    rw [blk_set HF.out 2]; rfl
  · -- 5
    have hv2 : 16000 = v ∧ at_ = at2 := by simpa [srAt, rateTab] using hv
    obtain ⟨rfl, rfl⟩ := hv2
    clear hv
    have hf1 := HF.out
    have f2 : w.frozen? ⟨gf, 2, none⟩ = false := by simp [World.frozen?, hf1]
    obtain ⟨uc, c2⟩ : ∃ uc, w.cell? ⟨gf, 2, none⟩ = some uc := ⟨_, by rw [cell_of_row w gf 2 _ _ _ hf1]; rfl⟩
    clear hf1
    go_enter Tryd.func34, Tryd.ntmps34
    go_wp2_with fail
    go_ret
    refine ⟨rfl, (Touch.refl _ _).setCell (.inl (by simp)) _, HBR.out.move HR.out ((Touch.refl [gf] w).setCell (.inl (by simp)) _) (fun k hk => by simp at hk; subst hk; exact ⟨hgf, HGD.out⟩), ?_⟩
    rw [blk_set HF.out 2]; rfl
  · -- 6
    have hv2 : 22050 = v ∧ at_ = at2 := by simpa [srAt, rateTab] using hv
    obtain ⟨rfl, rfl⟩ := hv2
    clear hv
    have hf1 := HF.out
    have f2 : w.frozen? ⟨gf, 2, none⟩ = false := by simp [World.frozen?, hf1]
    obtain ⟨uc, c2⟩ : ∃ uc, w.cell? ⟨gf, 2, none⟩ = some uc := ⟨_, by rw [cell_of_row w gf 2 _ _ _ hf1]; rfl⟩
    clear hf1
    go_enter Tryd.func34, Tryd.ntmps34
    go_wp2_with fail
    go_ret
    refine ⟨rfl, (Touch.refl _ _).setCell (.inl (by simp)) _, HBR.out.move HR.out ((Touch.refl [gf] w).setCell (.inl (by simp)) _) (fun k hk => by simp at hk; subst hk; exact ⟨hgf, HGD.out⟩), ?_⟩
    rw [blk_set HF.out 2]; rfl
  · -- 7
    have hv2 : 24000 = v ∧ at_ = at2 := by simpa [srAt, rateTab] using hv
    obtain ⟨rfl, rfl⟩ := hv2
    clear hv
    have hf1 := HF.out
    have f2 : w.frozen? ⟨gf, 2, none⟩ = false := by simp [World.frozen?, hf1]
    obtain ⟨uc, c2⟩ : ∃ uc, w.cell? ⟨gf, 2, none⟩ = some uc := ⟨_, by rw [cell_of_row w gf 2 _ _ _ hf1]; rfl⟩
    clear hf1
    go_enter Tryd.func34, Tryd.ntmps34
    go_wp2_with fail
    go_ret
    refine ⟨rfl, (Touch.refl _ _).setCell (.inl (by simp)) _, HBR.out.move HR.out ((Touch.refl [gf] w).setCell (.inl (by simp)) _) (fun k hk => by simp at hk; subst hk; exact ⟨hgf, HGD.out⟩), ?_⟩
    rw [blk_set HF.out 2]; rfl
  · -- 8
    have hv2 : 32000 = v ∧ at_ = at2 := by simpa [srAt, rateTab] using hv
    obtain ⟨rfl, rfl⟩ := hv2
    clear hv
    have hf1 := HF.out
    have f2 : w.frozen? ⟨gf, 2, none⟩ = false := by simp [World.frozen?, hf1]
    obtain ⟨uc, c2⟩ : ∃ uc, w.cell? ⟨gf, 2, none⟩ = some uc := ⟨_, by rw [cell_of_row w gf 2 _ _ _ hf1]; rfl⟩
    clear hf1
    go_enter Tryd.func34, Tryd.ntmps34
    go_wp2_with fail
    go_ret
    refine ⟨rfl, (Touch.refl _ _).setCell (.inl (by simp)) _, HBR.out.move HR.out ((Touch.refl [gf] w).setCell (.inl (by simp)) _) (fun k hk => by simp at hk; subst hk; exact ⟨hgf, HGD.out⟩), ?_⟩
    rw [blk_set HF.out 2]; rfl
  · -- 9
    have hv2 : 44100 = v ∧ at_ = at2 := by simpa [srAt, rateTab] using hv
    obtain ⟨rfl, rfl⟩ := hv2
    clear hv
    have hf1 := HF.out
    have f2 : w.frozen? ⟨gf, 2, none⟩ = false := by simp [World.frozen?, hf1]
    obtain ⟨uc, c2⟩ : ∃ uc, w.cell? ⟨gf, 2, none⟩ = some uc := ⟨_, by rw [cell_of_row w gf 2 _ _ _ hf1]; rfl⟩
    clear hf1
    go_enter Tryd.func34, Tryd.ntmps34
    go_wp2_with fail
    go_ret
    refine ⟨rfl, (Touch.refl _ _).setCell (.inl (by simp)) _, HBR.out.move HR.out ((Touch.refl [gf] w).setCell (.inl (by simp)) _) (fun k hk => by simp at hk; subst hk; exact ⟨hgf, HGD.out⟩), ?_⟩
    rw [blk_set HF.out 2]; rfl
  · -- 10
    have hv2 : 48000 = v ∧ at_ = at2 := by simpa [srAt, rateTab] using hv
    obtain ⟨rfl, rfl⟩ := hv2
    clear hv
    have hf1 := HF.out
    have f2 : w.frozen? ⟨gf, 2, none⟩ = false := by simp [World.frozen?, hf1]
    obtain ⟨uc, c2⟩ : ∃ uc, w.cell? ⟨gf, 2, none⟩ = some uc := ⟨_, by rw [cell_of_row w gf 2 _ _ _ hf1]; rfl⟩
    clear hf1
    go_enter Tryd.func34, Tryd.ntmps34
    go_wp2_with fail
    go_ret
    refine ⟨rfl, (Touch.refl _ _).setCell (.inl (by simp)) _, HBR.out.move HR.out ((Touch.refl [gf] w).setCell (.inl (by simp)) _) (fun k hk => by simp at hk; subst hk; exact ⟨hgf, HGD.out⟩), ?_⟩
    rw [blk_set HF.out 2]; rfl
  · -- 11
    have hv2 : 96000 = v ∧ at_ = at2 := by simpa [srAt, rateTab] using hv
    obtain ⟨rfl, rfl⟩ := hv2
    clear hv
    have hf1 := HF.out
    have f2 : w.frozen? ⟨gf, 2, none⟩ = false := by simp [World.frozen?, hf1]
    obtain ⟨uc, c2⟩ : ∃ uc, w.cell? ⟨gf, 2, none⟩ = some uc := ⟨_, by rw [cell_of_row w gf 2 _ _ _ hf1]; rfl⟩
    clear hf1
    go_enter Tryd.func34, Tryd.ntmps34
    go_wp2_with fail
    go_ret
    refine ⟨rfl, (Touch.refl _ _).setCell (.inl (by simp)) _, HBR.out.move HR.out ((Touch.refl [gf] w).setCell (.inl (by simp)) _) (fun k hk => by simp at hk; subst hk; exact ⟨hgf, HGD.out⟩), ?_⟩
    rw [blk_set HF.out 2]; rfl
  · -- 12
    by_cases hav : at_ + 8 ≤ 8 * l.length
    · have HAV := Lib.hid hav
      obtain ⟨x, hx⟩ : ∃ x, num l at_ 8 = x := ⟨_, rfl⟩
      have hxb : x < 256 := by have := num_lt l at_ 8; omega
      have hv2 : x * 1000 = v ∧ at_ + 8 = at2 := by simpa [srAt, hav, hx] using hv
      obtain ⟨rfl, rfl⟩ := hv2
      have hrd := br_read HR.out HBY.out w gb 8 at_ HBR.out (by decide) HAV.out HGB.out
      rw [hx] at hrd
      have HRD : Hid (Calls Tryd.prog 27 #[.pointer (some ⟨gb, 0, none⟩), .int .u64 8] w fun e w' => e = .returned (.tuple #[.int .u64 x, .nilIface]) ∧ Touch (gb :: S) w w' ∧ Br ty g gb l St w' (at_ + 8)) := Lib.hid hrd
      clear hrd
      clear hav hx hv
      go_enter Tryd.func34, Tryd.ntmps34
      go_wp2_with fail
      refine (HRD.out).mono ?_
      rintro e w1 ⟨rfl, ht, hbr1⟩
      have hf1 := ht.heap HF.out (fun hm => by
        rcases List.mem_cons.1 hm with h | h
        · exact hgf h
        · exact HGD.out (HR.out.sub _ h))
      have X := Lib.hid (And.intro ht (And.intro hbr1 hf1))
      have f2 : w1.frozen? ⟨gf, 2, none⟩ = false := by simp [World.frozen?, hf1]
      obtain ⟨uc, c2⟩ : ∃ uc, w1.cell? ⟨gf, 2, none⟩ = some uc := ⟨_, by rw [cell_of_row w1 gf 2 _ _ _ hf1]; rfl⟩
      clear ht hbr1 hf1
      go_wp2_with fail
      go_ret
      refine ⟨rfl, ?_, X.out.2.1.move HR.out ((Touch.refl [gf] w1).setCell (.inl (by simp)) _) (fun k hk => by simp at hk; subst hk; exact ⟨hgf, HGD.out⟩), ?_⟩
      · exact (X.out.1.mono (fun k _ hk => List.mem_cons_of_mem _ hk)).setCell (.inl (by simp)) _
      · rw [blk_set X.out.2.2 2]; rfl
    · simp [srAt, hav] at hv
  · -- 13
    by_cases hav : at_ + 16 ≤ 8 * l.length
    · have HAV := Lib.hid hav
      obtain ⟨x, hx⟩ : ∃ x, num l at_ 16 = x := ⟨_, rfl⟩
      have hxb : x < 65536 := by have := num_lt l at_ 16; omega
      have hv2 : x = v ∧ at_ + 16 = at2 := by simpa [srAt, hav, hx] using hv
      obtain ⟨rfl, rfl⟩ := hv2
      have hrd := br_read HR.out HBY.out w gb 16 at_ HBR.out (by decide) HAV.out HGB.out
      rw [hx] at hrd
      have HRD : Hid (Calls Tryd.prog 27 #[.pointer (some ⟨gb, 0, none⟩), .int .u64 16] w fun e w' => e = .returned (.tuple #[.int .u64 x, .nilIface]) ∧ Touch (gb :: S) w w' ∧ Br ty g gb l St w' (at_ + 16)) := Lib.hid hrd
      clear hrd
      clear hav hx hv
      go_enter Tryd.func34, Tryd.ntmps34
      go_wp2_with fail
      refine (HRD.out).mono ?_
      rintro e w1 ⟨rfl, ht, hbr1⟩
      have hf1 := ht.heap HF.out (fun hm => by
        rcases List.mem_cons.1 hm with h | h
        · exact hgf h
        · exact HGD.out (HR.out.sub _ h))
      have X := Lib.hid (And.intro ht (And.intro hbr1 hf1))
      have f2 : w1.frozen? ⟨gf, 2, none⟩ = false := by simp [World.frozen?, hf1]
      obtain ⟨uc, c2⟩ : ∃ uc, w1.cell? ⟨gf, 2, none⟩ = some uc := ⟨_, by rw [cell_of_row w1 gf 2 _ _ _ hf1]; rfl⟩
      clear ht hbr1 hf1
      go_wp2_with fail
      go_ret
      refine ⟨rfl, ?_, X.out.2.1.move HR.out ((Touch.refl [gf] w1).setCell (.inl (by simp)) _) (fun k hk => by simp at hk; subst hk; exact ⟨hgf, HGD.out⟩), ?_⟩
      · exact (X.out.1.mono (fun k _ hk => List.mem_cons_of_mem _ hk)).setCell (.inl (by simp)) _
      · rw [blk_set X.out.2.2 2]; rfl
    · simp [srAt, hav] at hv
  · -- 14
    by_cases hav : at_ + 16 ≤ 8 * l.length
    · have HAV := Lib.hid hav
      obtain ⟨x, hx⟩ : ∃ x, num l at_ 16 = x := ⟨_, rfl⟩
      have hxb : x < 65536 := by have := num_lt l at_ 16; omega
      have hv2 : x * 10 = v ∧ at_ + 16 = at2 := by simpa [srAt, hav, hx] using hv
      obtain ⟨rfl, rfl⟩ := hv2
      have hrd := br_read HR.out HBY.out w gb 16 at_ HBR.out (by decide) HAV.out HGB.out
      rw [hx] at hrd
      have HRD : Hid (Calls Tryd.prog 27 #[.pointer (some ⟨gb, 0, none⟩), .int .u64 16] w fun e w' => e = .returned (.tuple #[.int .u64 x, .nilIface]) ∧ Touch (gb :: S) w w' ∧ Br ty g gb l St w' (at_ + 16)) := Lib.hid hrd
      clear hrd
      clear hav hx hv
      go_enter Tryd.func34, Tryd.ntmps34
      go_wp2_with fail
      refine (HRD.out).mono ?_
      rintro e w1 ⟨rfl, ht, hbr1⟩
      have hf1 := ht.heap HF.out (fun hm => by
        rcases List.mem_cons.1 hm with h | h
        · exact hgf h
        · exact HGD.out (HR.out.sub _ h))
      have X := Lib.hid (And.intro ht (And.intro hbr1 hf1))
      have f2 : w1.frozen? ⟨gf, 2, none⟩ = false := by simp [World.frozen?, hf1]
      obtain ⟨uc, c2⟩ : ∃ uc, w1.cell? ⟨gf, 2, none⟩ = some uc := ⟨_, by rw [cell_of_row w1 gf 2 _ _ _ hf1]; rfl⟩
      clear ht hbr1 hf1
      go_wp2_with fail
      go_ret
      refine ⟨rfl, ?_, X.out.2.1.move HR.out ((Touch.refl [gf] w1).setCell (.inl (by simp)) _) (fun k hk => by simp at hk; subst hk; exact ⟨hgf, HGD.out⟩), ?_⟩
      · exact (X.out.1.mono (fun k _ hk => List.mem_cons_of_mem _ hk)).setCell (.inl (by simp)) _
      · rw [blk_set X.out.2.2 2]; rfl
    · simp [srAt, hav] at hv
  · -- 15
    simp [srAt] at hv

set_option maxHeartbeats 1000000 in
set_option maxRecDepth 100000 in
theorem pSr_err {ty fn g : Nat} {S D : List Nat} {l : List Int} {St : World → Nat → Prop} (R : Src ty fn g S D l St) (hbytes : ∀ x ∈ l, 0 ≤ x ∧ x ≤ 255) (w : World) (gf gb at_ : Nat)
    (fx : Bool) (bs ch bps nm : Int) (v6 v7 v8 v9 v10 : Value) (ea eb : Addr)
    (hbr : Br ty g gb l St w at_) (hgb : gb ∉ D) (hf : w.heap[gf]? = some (.cells (frA fx bs 0 ch bps nm v6 v7 v8 v9 v10) 74 (0, 0))) (hgf : gf ≠ gb) (hgd : gf ∉ D) (hG : Glob w ea eb) (hsafe : ∀ k ∈ gf :: gb :: S, Safe ea eb k)
    (n : Nat) (hn : n < 16) (hv : srAt l at_ n = none) :
    Calls Tryd.prog 34 #[.pointer (some ⟨gf, 0, none⟩), .pointer (some ⟨gb, 0, none⟩), .int .u64 n] w (ErrEnds (gf :: gb :: S) w) := by
  have HR := Lib.hid R
  have HBY := Lib.hid hbytes
  have HBR := Lib.hid hbr
  have HGB := Lib.hid hgb
  have HF := Lib.hid hf
  have HGD := Lib.hid hgd
  have HG := Lib.hid hG
  have HSF := Lib.hid hsafe
  clear R hbytes hbr hgb hf hgd hG hsafe
  rcases (by omega : n = 0 ∨ n = 1 ∨ n = 2 ∨ n = 3 ∨ n = 4 ∨ n = 5 ∨ n = 6 ∨ n = 7 ∨ n = 8 ∨ n = 9 ∨ n = 10 ∨ n = 11 ∨ n = 12 ∨ n = 13 ∨ n = 14 ∨ n = 15) with rfl | rfl | rfl | rfl | rfl | rfl | rfl | rfl | rfl | rfl | rfl | rfl | rfl | rfl | rfl | rfl
  · -- 0
    simp [srAt] at hv
  · -- 1
    simp [srAt] at hv
  · -- 2
    simp [srAt] at hv
  · -- 3
    simp [srAt] at hv
  · -- 4
    simp [srAt] at hv
  · -- 5
    simp [srAt] at hv
  · -- 6
    simp [srAt] at hv
  · -- 7
    simp [srAt] at hv
  · -- 8
    simp [srAt] at hv
  · -- 9
    simp [srAt] at hv
  · -- 10
    simp [srAt] at hv
  · -- 11
    simp [srAt] at hv
  · -- 12
    have HAV := Lib.hid (show 8 * l.length < at_ + 8 by
      rcases Nat.lt_or_ge (8 * l.length) (at_ + 8) with h | h
      · exact h
      · simp [srAt, h] at hv)
    clear hv
    go_enter Tryd.func34, Tryd.ntmps34
    go_wp2_with fail
    refine (br_fail HR.out w gb 8 at_ ea eb HBR.out (by decide) HAV.out HGB.out HG.out (fun k hk => HSF.out k (List.mem_cons_of_mem _ hk))).mono ?_
    rintro e w1 ⟨a, ha, rfl, ht⟩
    have hG1 := HG.out.touch ht (fun k hk => HSF.out k (List.mem_cons_of_mem _ hk))
    have hA1 : ErrAt w1 a := by rcases ha with rfl | rfl; exact hG1.ata; exact hG1.atb
    have X := Lib.hid ht
    have HG1 := Lib.hid hG1
    have HA1 := Lib.hid hA1
    clear ha ht hG1 hA1
    go_wp2_with fail
    refine (unexp a ea eb w1 HG1.out HA1.out).mono ?_
    rintro e w2 ⟨⟨a2, ha2, rfl⟩, rfl⟩
    have HA2 := Lib.hid ha2
    clear ha2
    go_wp2_with fail
    go_ret
    exact ⟨⟨a2, HA2.out, rfl⟩, X.out.mono (fun k _ hk => List.mem_cons_of_mem _ hk)⟩
  · -- 13
    have HAV := Lib.hid (show 8 * l.length < at_ + 16 by
      rcases Nat.lt_or_ge (8 * l.length) (at_ + 16) with h | h
      · exact h
      · simp [srAt, h] at hv)
    clear hv
    go_enter Tryd.func34, Tryd.ntmps34
    go_wp2_with fail
    refine (br_fail HR.out w gb 16 at_ ea eb HBR.out (by decide) HAV.out HGB.out HG.out (fun k hk => HSF.out k (List.mem_cons_of_mem _ hk))).mono ?_
    rintro e w1 ⟨a, ha, rfl, ht⟩
    have hG1 := HG.out.touch ht (fun k hk => HSF.out k (List.mem_cons_of_mem _ hk))
    have hA1 : ErrAt w1 a := by rcases ha with rfl | rfl; exact hG1.ata; exact hG1.atb
    have X := Lib.hid ht
    have HG1 := Lib.hid hG1
    have HA1 := Lib.hid hA1
    clear ha ht hG1 hA1
    go_wp2_with fail
    refine (unexp a ea eb w1 HG1.out HA1.out).mono ?_
    rintro e w2 ⟨⟨a2, ha2, rfl⟩, rfl⟩
    have HA2 := Lib.hid ha2
    clear ha2
    go_wp2_with fail
    go_ret
    exact ⟨⟨a2, HA2.out, rfl⟩, X.out.mono (fun k _ hk => List.mem_cons_of_mem _ hk)⟩
  · -- 14
    have HAV := Lib.hid (show 8 * l.length < at_ + 16 by
      rcases Nat.lt_or_ge (8 * l.length) (at_ + 16) with h | h
      · exact h
      · simp [srAt, h] at hv)
    clear hv
    go_enter Tryd.func34, Tryd.ntmps34
    go_wp2_with fail
    refine (br_fail HR.out w gb 16 at_ ea eb HBR.out (by decide) HAV.out HGB.out HG.out (fun k hk => HSF.out k (List.mem_cons_of_mem _ hk))).mono ?_
    rintro e w1 ⟨a, ha, rfl, ht⟩
    have hG1 := HG.out.touch ht (fun k hk => HSF.out k (List.mem_cons_of_mem _ hk))
    have hA1 : ErrAt w1 a := by rcases ha with rfl | rfl; exact hG1.ata; exact hG1.atb
    have X := Lib.hid ht
    have HG1 := Lib.hid hG1
    have HA1 := Lib.hid hA1
    clear ha ht hG1 hA1
    go_wp2_with fail
    refine (unexp a ea eb w1 HG1.out HA1.out).mono ?_
    rintro e w2 ⟨⟨a2, ha2, rfl⟩, rfl⟩
    have HA2 := Lib.hid ha2
    clear ha2
    go_wp2_with fail
    go_ret
    exact ⟨⟨a2, HA2.out, rfl⟩, X.out.mono (fun k _ hk => List.mem_cons_of_mem _ hk)⟩
  · -- 15
    clear hv
    go_enter Tryd.func34, Tryd.ntmps34
    go_wp2_with fail
    refine (err_new _ w).mono ?_
    rintro e w3 ⟨a, rfl, hb3, hat3⟩
    have HB3 := Lib.hid hb3
    have HA3 := Lib.hid hat3
    clear hb3 hat3
    go_wp2_with fail
    go_ret
    exact ⟨⟨a, HA3.out, rfl⟩, Touch.of_below HB3.out⟩

end Go.Proofs.YtcdfbcanebjmfaaDoor.Walk
