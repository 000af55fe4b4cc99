/- The walk of the law: a number that is coded is read. -/
import Derived.Test.YtfpeoadgbidahaaDoorBackP
import Derived.Outline
namespace Go.Proofs.YtfpeoadgbidahaaDoor.Walk
set_option linter.unusedVariables false
set_option linter.unusedSimpArgs false
open Go Go.RowKit Go.Proofs.YtfpeoadgbidahaaDoorW.PrintWords Go.Proofs.YtfpeoadgbidahaaDoorW.PrintLast Go.Proofs.YtfpeoadgbidahaaDoorW.PrintMore Go.Proofs.YtfpeoadgbidahaaDoor.Num Go.Proofs.YtfpeoadgbidahaaDoor.PNum

/-- spec.Coded, called. -/
theorem specCoded_any (v : Nat) (w : World) (hv : v < 68719476736) :
    Calls Tryd.prog 13 #[.int .u64 v] w fun e w' => ∃ x, e = .returned x ∧ w'.ownsRow w.heap.size 5 1 x (more v + 1) (nums .u8 (coded v)) ∧ Below w.heap.size w w' :=
  (spec_Coded.calls 30 v (coded v) w (spec_coded v hv)).mono fun e w' ⟨x, he, hr, hb⟩ => ⟨x, he, by have h := Kd.own_of_R hr; rw [coded_len] at h; exact h, hb⟩

set_option maxHeartbeats 4000000 in
set_option maxRecDepth 100000 in
theorem lawBack (v0 : Int) (A : Option Addr) (n c : Nat) (l : List Int) (w : World) (ea eb : Addr) (hv0 : 0 ≤ v0) (hv1 : v0 < 18446744073709551616)
    (hl : ReadsInt w .u8 A n l) (hc : n ≤ c) (hm : n ≤ 140737488351232) (hbytes : ∀ x ∈ l, 0 ≤ x ∧ x ≤ 255) (hG : Glob w ea eb) (hsafe : ∀ k, w.heap.size ≤ k → Safe k) :
    Calls Tryd.prog 6 #[.int .u64 v0, .slice A n c] w fun e w' => e = .returned (.bool true) ∧ Below w.heap.size w w' := by
  have HL := Lib.hid hl
  have HB := Lib.hid hbytes
  have HG := Lib.hid hG
  have HSF := Lib.hid hsafe
  clear hl hbytes hG hsafe
  by_cases h1 : 2147483647 < n
  · go_enter Tryd.func6, Tryd.ntmps6
    go_wp2_with fail
    go_ret
    exact ⟨rfl, Below.refl _ _⟩
  by_cases h2 : 1000 < n
  · go_enter Tryd.func6, Tryd.ntmps6
    go_wp2_with fail
    go_ret
    exact ⟨rfl, Below.refl _ _⟩
  obtain ⟨v, hv⟩ : ∃ v : Nat, v0 % 68719476736 = (v : Int) := ⟨(v0 % 68719476736).toNat, by omega⟩
  have hvb : v < 68719476736 := by omega
  obtain ⟨cv, hcv⟩ : ∃ cv, coded v = cv := ⟨_, rfl⟩
  obtain ⟨m, hm1⟩ : ∃ m, more v + 1 = m := ⟨_, rfl⟩
  have hm7 : m ≤ 7 := by have := more_le v; omega
  have hcall0 : ∀ wx, Calls Tryd.prog 13 #[.int .u64 v] wx fun e w' => ∃ x, e = .returned x ∧ w'.ownsRow wx.heap.size 5 1 x m (nums .u8 cv) ∧ Below wx.heap.size wx w' := fun wx => by
    rw [← hcv, ← hm1]; exact specCoded_any v wx hvb
  have HC0 := Lib.hid hcall0
  have hcl : cv.length = m := by rw [← hcv, ← hm1, coded_len]
  have HCL := Lib.hid hcl
  have hgd : GoodAt (cv ++ l) 0 v m := by rw [← hcv, ← hm1]; exact good_coded v hvb l
  have HGD := Lib.hid hgd
  have hne : byteAt (cv ++ l) 0 ≠ 255 := by rw [← hcv]; exact first_ne v hvb l
  have HNE := Lib.hid hne
  have hcb : ∀ x ∈ cv, 0 ≤ x ∧ x ≤ 255 := by rw [← hcv]; exact coded_bytes v hvb
  have HCB := Lib.hid hcb
  clear hcv hm1 hcall0 hcl hgd hne hcb
  go_enter Tryd.func6, Tryd.ntmps6
  go_wp2_with fail
  refine (HC0.out w).mono ?_
  rintro e w1 ⟨x, rfl, ho, hb⟩
  have HO := Lib.hid ho
  have HB1 := Lib.hid hb
  clear ho hb
  go_wp2_with (with_reducible refine stop_dst (N := 22) rfl ?_)
  refine unstop ?_
  refine print_append_row (w0 := w) w.heap.size rfl (.tmp 20) (.tmp 21) 22 5 .u8 1 rfl Tryd.underlying22 infoU8 (by decide) x cv l A n c rfl rfl ?aO ?aR ?aB ?aS ?aL ?_
  case aO => rw [HCL.out]; exact HO.out
  case aR => exact HL.out.below HB1.out
  case aB => exact HB1.out
  case aS => exact HB1.out.size
  case aL => rw [HCL.out]; omega
  intro v1 w2 HO2 hB2 _ _
  obtain ⟨A2, c2, rfl, hR2⟩ := own_reads HO2
  have hc2 : (cv ++ l).length ≤ c2 := by
    rcases HO2.2 with ⟨h0, hn⟩ | ⟨g, cap, cur, h0, _, _, hcap, _⟩
    · injection h0 with _ h3 h4; omega
    · injection h0 with _ _ h3; omega
  have hln : (cv ++ l).length = m + n := by rw [List.length_append, HCL.out, HL.out.1]
  have hcall := number_any A2 (cv ++ l).length c2 (cv ++ l) w2 ea eb hR2 hc2 (by omega)
    (fun x hx => by rcases List.mem_append.1 hx with h | h; exact HCB.out x h; exact HB.out x h) (HG.out.touch (U := []) (Touch.of_below hB2) (by simp)) (fun k hk => HSF.out k (Nat.le_trans hB2.size hk)) (fun _ => HNE.out)
  have HCALL := Lib.hid hcall
  have HB2 := Lib.hid hB2
  obtain ⟨L, hLL⟩ : ∃ L, (cv ++ l).length = L := ⟨_, rfl⟩
  rw [hLL] at HCALL hc2 ⊢
  clear HO2 hR2 hB2 hcall hln hLL
  go_wp2_with fail
  refine HCALL.out.mono ?_
  rintro e w3 ⟨hb3, ⟨v', k', hg', rfl⟩ | ⟨hno, _⟩⟩
  · obtain ⟨rfl, rfl⟩ := HGD.out.same hg'
    have HB3 := Lib.hid (below_then HB2.out HB2.out.size hb3)
    clear hb3 hg'
    go_wp2_with fail
    refine (HC0.out w3).mono ?_
    rintro e w4 ⟨x4, rfl, ho4, hb4⟩
    obtain ⟨A4, c4, rfl, _⟩ := own_reads ho4
    have HB4 := Lib.hid (below_then HB3.out HB3.out.size hb4)
    clear ho4 hb4
    go_wp2_with fail
    go_ret
    exact ⟨rfl, HB4.out⟩
  · exact absurd HGD.out (hno _ _)

theorem topBack (w : World) (v0 : Int) (A : Option Addr) (c : Nat) (l : List Int) (hv : (Lit.int .u64 v0).wf = true)
    (hl : ReadsInt w .u8 A l.length l) (hc : l.length ≤ c) (hm : l.length * 1 ≤ 140737488351232) (hb : ∀ x ∈ l, (Lit.int .u8 x).wf = true)
    (ea eb : Addr) (hG : Glob w ea eb) (hsafe : ∀ k, w.heap.size ≤ k → Safe k) :
    Calls Tryd.prog 6 #[.int .u64 v0, .slice A l.length c] w fun e w' => e = .returned (.bool true) ∧ Below w.heap.size w w' := by
  have h3 : IntKind.u64.min = 0 := rfl
  have h4 : IntKind.u64.max = 18446744073709551615 := rfl
  simp only [Lit.wf, Bool.and_eq_true, decide_eq_true_eq] at hv
  exact lawBack v0 A l.length c l w ea eb (by omega) (by omega) hl hc (by omega) (fun x hx => by
    have h0 := hb x hx
    have h1 : IntKind.u8.min = 0 := rfl
    have h2 : IntKind.u8.max = 255 := rfl
    simp only [Lit.wf, Bool.and_eq_true, decide_eq_true_eq] at h0
    exact ⟨by omega, by omega⟩) hG hsafe
end Go.Proofs.YtfpeoadgbidahaaDoor.Walk
