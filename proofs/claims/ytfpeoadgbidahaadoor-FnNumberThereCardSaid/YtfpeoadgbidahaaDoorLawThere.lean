/- The walk of the law: a number that is coded by the package is read by it. -/
import Derived.Test.YtfpeoadgbidahaaDoorBackP
import Derived.Test.YtfpeoadgbidahaaDoorNumText
import Derived.Outline
namespace Go.Proofs.YtfpeoadgbidahaaDoor.Walk
set_option linter.unusedVariables false
set_option linter.unusedSimpArgs false
open Go Go.RowKit Go.Proofs.YtfpeoadgbidahaaDoorW.PrintWords Go.Proofs.YtfpeoadgbidahaaDoor.Num

set_option maxHeartbeats 4000000 in
set_option maxRecDepth 100000 in
theorem lawThere (v0 : Int) (A : Option Addr) (n c : Nat) (l : List Int) (w : World) (ea eb : Addr) (hv0 : 0 ≤ v0) (hv1 : v0 < 18446744073709551616)
    (hl : ReadsInt w .u8 A n l) (hc : n ≤ c) (hm : n ≤ 140737488351232) (hbytes : ∀ x ∈ l, 0 ≤ x ∧ x ≤ 255) (hG : Glob w ea eb) (hsafe : ∀ k, w.heap.size ≤ k → Safe k) :
    Calls Tryd.prog 8 #[.int .u64 v0, .slice A n c] w fun e w' => e = .returned (.bool true) ∧ Below w.heap.size w w' := by
  have HL := Lib.hid hl
  have HB := Lib.hid hbytes
  have HG := Lib.hid hG
  have HSF := Lib.hid hsafe
  clear hl hbytes hG hsafe
  by_cases h1 : 2147483647 < n
  · go_enter Tryd.func8, Tryd.ntmps8
    go_wp2_with fail
    go_ret
    exact ⟨rfl, Below.refl _ _⟩
  by_cases h2 : 100 < n
  · go_enter Tryd.func8, Tryd.ntmps8
    go_wp2_with fail
    go_ret
    exact ⟨rfl, Below.refl _ _⟩
  obtain ⟨v, hv⟩ : ∃ v : Nat, v0 % 2147483648 = (v : Int) := ⟨(v0 % 2147483648).toNat, by omega⟩
  have hvs : v < 2147483648 := by omega
  have hvb : v < 68719476736 := by omega
  obtain ⟨cv, hcv⟩ : ∃ cv, coded v = cv := ⟨_, rfl⟩
  obtain ⟨m, hm1⟩ : ∃ m, more v + 1 = m := ⟨_, rfl⟩
  have hm7 : m ≤ 7 := by have := more_le v; omega
  have hm0 : 0 < m := by omega
  have hcl : cv.length = m := by rw [← hcv, ← hm1, coded_len]
  have hcall0 : ∀ wx, Calls Tryd.prog 16 #[.int .u64 v] wx fun e w' => ∃ x, e = .returned (.tuple #[x, .int .i64 0]) ∧ w'.ownsRow wx.heap.size 5 1 x m (nums .u8 cv) ∧ Below wx.heap.size wx w' := fun wx => by
    have h := numText v wx hvs
    rw [hcv, hcl] at h; exact h
  have HC0 := Lib.hid hcall0
  have HCL := Lib.hid hcl
  have hgd : GoodAt (cv ++ l) 0 v m := by rw [← hcv, ← hm1]; exact good_coded v hvb l
  have HGD := Lib.hid hgd
  have hne : byteAt (cv ++ l) 0 ≠ 255 := by rw [← hcv]; exact first_ne v hvb l
  have HNE := Lib.hid hne
  have hcb : ∀ x ∈ cv, 0 ≤ x ∧ x ≤ 255 := by rw [← hcv]; exact coded_bytes v hvb
  have HCB := Lib.hid hcb
  clear hcv hm1 hcall0 hcl hgd hne hcb
  go_enter Tryd.func8, Tryd.ntmps8
  go_wp2_with fail
  refine (HC0.out w).mono ?_
  rintro e w1 ⟨x, rfl, ho, hb⟩
  obtain ⟨A1, c1, rfl, hR1⟩ := own_reads ho
  have HR1 := Lib.hid hR1
  have HB1 := Lib.hid hb
  clear ho hb hR1
  go_wp2_with (with_reducible refine stop_dst (N := 26) rfl ?_)
  refine unstop ?_
  refine print_append_row (w0 := w) w.heap.size rfl (.tmp 24) (.tmp 25) 22 5 .u8 1 rfl Tryd.underlying22 infoU8 (by decide) _ [] cv A1 m c1 rfl rfl ?aO ?aR ?aB ?aS ?aL ?_
  case aO => exact World.ownsRow_lit (base := w.heap.size) w1 #[] 0 HB1.out.size (by unfold maxLen; omega) (by simp)
  case aR => exact HR1.out.below (below_alloc (Below.refl _ _) _)
  case aB => exact HB1.out.alloc HB1.out.size _
  case aS => exact (HB1.out.alloc HB1.out.size _).size
  case aL => simp [HCL.out]; omega
  intro v2 w2 hO2 hB2 _ _
  rw [List.nil_append] at hO2
  have HO2 := Lib.hid hO2
  have HB2 := Lib.hid hB2
  clear hO2 hB2
  go_wp2_with (with_reducible refine stop_dst (N := 28) rfl ?_)
  refine unstop ?_
  refine print_append_row (w0 := w) w.heap.size rfl (.tmp 26) (.tmp 27) 22 5 .u8 1 rfl Tryd.underlying22 infoU8 (by decide) v2 cv l A n c rfl rfl ?bO ?bR ?bB ?bS ?bL ?_
  case bO => exact HO2.out
  case bR => exact HL.out.below HB2.out
  case bB => exact HB2.out
  case bS => exact HB2.out.size
  case bL => rw [HCL.out]; omega
  intro v3 w3 hO3 hB3 _ _
  obtain ⟨A2, c2, rfl, hR2⟩ := own_reads hO3
  have hc2 : (cv ++ l).length ≤ c2 := by
    rcases hO3.2 with ⟨h0, hn⟩ | ⟨g, cap, cur, h0, _, _, hcap, _⟩
    · injection h0 with _ h3 h4; omega
    · injection h0 with _ _ h3; omega
  have hln : (cv ++ l).length = m + n := by rw [List.length_append, HCL.out, HL.out.1]
  have hcall := number_any A2 (cv ++ l).length c2 (cv ++ l) w3 ea eb hR2 hc2 (by omega)
    (fun x hx => by rcases List.mem_append.1 hx with h | h; exact HCB.out x h; exact HB.out x h) (HG.out.touch (U := []) (Touch.of_below hB3) (by simp)) (fun k hk => HSF.out k (Nat.le_trans hB3.size hk)) (fun _ => HNE.out)
  have HCALL := Lib.hid hcall
  have HB3 := Lib.hid hB3
  obtain ⟨L, hLL⟩ : ∃ L, (cv ++ l).length = L := ⟨_, rfl⟩
  rw [hLL] at HCALL hc2 ⊢
  clear hO3 hR2 hB3 hcall hln hLL
  go_wp2_with fail
  refine HCALL.out.mono ?_
  rintro e w4 ⟨hb4, ⟨v', k', hg', rfl⟩ | ⟨hno, _⟩⟩
  · obtain ⟨rfl, rfl⟩ := HGD.out.same hg'
    have HB4 := Lib.hid (below_then HB3.out HB3.out.size hb4)
    clear hb4 hg'
    go_wp2_with fail
    go_ret
    exact ⟨rfl, HB4.out⟩
  · exact absurd HGD.out (hno _ _)

theorem topThere (w : World) (v0 : Int) (A : Option Addr) (c : Nat) (l : List Int) (hv : (Lit.int .u64 v0).wf = true)
    (hl : ReadsInt w .u8 A l.length l) (hc : l.length ≤ c) (hm : l.length * 1 ≤ 140737488351232) (hb : ∀ x ∈ l, (Lit.int .u8 x).wf = true)
    (ea eb : Addr) (hG : Glob w ea eb) (hsafe : ∀ k, w.heap.size ≤ k → Safe k) :
    Calls Tryd.prog 8 #[.int .u64 v0, .slice A l.length c] w fun e w' => e = .returned (.bool true) ∧ Below w.heap.size w w' := by
  have h3 : IntKind.u64.min = 0 := rfl
  have h4 : IntKind.u64.max = 18446744073709551615 := rfl
  simp only [Lit.wf, Bool.and_eq_true, decide_eq_true_eq] at hv
  exact lawThere v0 A l.length c l w ea eb (by omega) (by omega) hl hc (by omega) (fun x hx => by
    have h0 := hb x hx
    have h1 : IntKind.u8.min = 0 := rfl
    have h2 : IntKind.u8.max = 255 := rfl
    simp only [Lit.wf, Bool.and_eq_true, decide_eq_true_eq] at h0
    exact ⟨by omega, by omega⟩) hG hsafe
end Go.Proofs.YtfpeoadgbidahaaDoor.Walk
