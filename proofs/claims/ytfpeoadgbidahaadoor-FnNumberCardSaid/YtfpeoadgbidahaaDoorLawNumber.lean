/- The walk of the law on coded numbers. -/
import Derived.Test.YtfpeoadgbidahaaDoorSpecN
import Derived.Outline
import Derived.Lib.Bytes
namespace Go.Proofs.YtfpeoadgbidahaaDoor.Walk
set_option linter.unusedVariables false
set_option linter.unusedSimpArgs false
open Go Go.RowKit Go.Proofs.YtfpeoadgbidahaaDoorW.PrintWords Go.Proofs.YtfpeoadgbidahaaDoorW.PrintLast Go.Proofs.YtfpeoadgbidahaaDoorW.PrintMore Go.Proofs.YtfpeoadgbidahaaDoor.Num Go.Proofs.YtfpeoadgbidahaaDoor.PNum

/-- spec.Number, called. -/
theorem specNumber_call (A : Option Addr) (c : Nat) (l : List Int) (v n : Nat) (w : World) (hl : ReadsInt w .u8 A l.length l) (hc : l.length ≤ c) (h : spec_Number.f 30 l = some ((v : Int), (n : Int))) :
    Calls Tryd.prog 12 #[.slice A l.length c] w fun e w' => e = .returned (.tuple #[.int .u64 v, .int .i64 n]) ∧ ∃ q, w' = w.drewN q :=
  (spec_Number.calls 30 A c l v n w (Kd.C_of_reads (h1 := fun _ => rfl) (readsInt_of.1 hl)) hc h).mono fun e w' ⟨he, hd⟩ => ⟨he, hd.1⟩
/-- spec.Coded, called. -/
theorem specCoded_call (v : Nat) (w : World) (hv : v < 68719476736) :
    Calls Tryd.prog 13 #[.int .u64 v] w fun e w' => ∃ x, e = .returned x ∧ w'.ownsRow w.heap.size 5 1 x (more v + 1) (nums .u8 (coded v)) ∧ Below w.heap.size w w' :=
  (spec_Coded.calls 30 v (coded v) w (spec_coded v hv)).mono fun e w' ⟨x, he, hr, hb⟩ => ⟨x, he, by have h := Kd.own_of_R hr; rw [coded_len] at h; exact h, hb⟩

set_option maxHeartbeats 16000000 in
set_option maxRecDepth 100000 in
theorem lawNumber (A : Option Addr) (c : Nat) (l : List Int) (w : World) (ea eb : Addr)
    (hl : ReadsInt w .u8 A l.length l) (hc : l.length ≤ c) (hm : l.length ≤ 140737488351232) (hbytes : ∀ x ∈ l, 0 ≤ x ∧ x ≤ 255) (hG : Glob w ea eb) (hsafe : ∀ k, w.heap.size ≤ k → Safe k) :
    Calls Tryd.prog 5 #[.slice A l.length c] w fun e w' => e = .returned (.bool true) ∧ Below w.heap.size w w' := by
  have HL := Lib.hid hl
  have HB := Lib.hid hbytes
  have HG := Lib.hid hG
  have HSF := Lib.hid hsafe
  have HBY := Lib.hid (fun i => bytes_at hbytes i)
  obtain ⟨n, hn⟩ : ∃ n, l.length = n := ⟨_, rfl⟩
  have HN := Lib.hid hn
  rw [hn] at hc hm ⊢
  clear hl hbytes hG hsafe hn
  by_cases h1 : 2147483647 < n
  · go_enter Tryd.func5, Tryd.ntmps5
    go_wp2_with fail
    go_ret
    exact ⟨rfl, Below.refl _ _⟩
  by_cases hff : 0 < n ∧ byteAt l 0 = 255
  · obtain ⟨hn0, h255⟩ := hff
    obtain ⟨ad, rfl, hcell⟩ := HL.out.2.2 (by rw [HN.out]; exact hn0)
    have c0 : w.cell? ad = some (.int .u8 255) := by
      have h := hcell 0 (by rw [HN.out]; exact hn0)
      rw [show ad.add 0 = ad from rfl, (HBY.out 0).1, h255] at h; exact h
    clear hcell h255
    go_enter Tryd.func5, Tryd.ntmps5
    go_wp2_with fail
    go_ret
    exact ⟨rfl, Below.refl _ _⟩
  have hff2 : 0 < l.length → byteAt l 0 ≠ 255 := fun h e => hff ⟨by rw [← HN.out]; exact h, e⟩
  have HFF := Lib.hid hff2
  obtain ⟨v, k, hspec, hres⟩ := spec_number l HBY.out hff2
  have HSP := Lib.hid hspec
  have hcall := specNumber_call A c l v k w HL.out (by rw [HN.out]; exact hc) hspec
  rw [HN.out] at hcall
  have HCALL := Lib.hid hcall
  have htest : 0 < n → ∃ ad, A = some ad ∧ ∃ c0 : Nat, w.cell? ad = some (.int .u8 c0) ∧ c0 ≠ 255 := fun h => by
    obtain ⟨ad, e, hcell⟩ := HL.out.2.2 (by rw [HN.out]; exact h)
    refine ⟨ad, e, byteAt l 0, ?_, fun e => hff ⟨h, e⟩⟩
    have h := hcell 0 (by rw [HN.out]; exact h)
    rw [show ad.add 0 = ad from rfl, (HBY.out 0).1] at h; exact h
  have hnum : ∀ wx, Below w.heap.size w wx → Calls Tryd.prog 14 #[.slice A n c] wx (NumTold l wx) := fun wx hb =>
    number_any A n c l wx ea eb (by have h := HL.out.below hb; rw [HN.out] at h; exact h) hc hm HB.out (HG.out.touch (U := []) (Touch.of_below hb) (by simp)) (fun k hk => HSF.out k (Nat.le_trans hb.size hk)) HFF.out
  have HNUM := Lib.hid hnum
  clear hff2 hspec hcall hff hnum
  rcases hres with ⟨rfl, hno⟩ | ⟨hk, hkl, hv, hor⟩
  · have HNO := Lib.hid hno
    clear hno
    by_cases h1000 : 1000 < n
    · obtain ⟨ad, rfl, c0, hc0, hne⟩ := htest (by omega)
      clear htest
      go_enter Tryd.func5, Tryd.ntmps5
      go_wp2_with fail
      refine HCALL.out.mono ?_
      rintro e w1 ⟨rfl, q, rfl⟩
      go_wp2_with fail
      go_quiet (fail)
      go_wp2_with fail
      go_ret
      exact ⟨rfl, below_drewN (below_drewN (Below.refl _ _) _) _⟩
    · by_cases hn0 : 0 < n
      · obtain ⟨ad, rfl, c0, hc0, hne⟩ := htest hn0
        clear htest
        go_enter Tryd.func5, Tryd.ntmps5
        go_wp2_with fail
        refine HCALL.out.mono ?_
        rintro e w1 ⟨rfl, q, rfl⟩
        go_wp2_with fail
        go_quiet (fail)
        go_wp2_with fail
        refine (HNUM.out _ ?hb).mono ?_
        case hb => exact below_drewN (Below.refl _ _) _
        rintro e w2 ⟨hb2, ⟨v', n', hgood, _⟩ | ⟨_, kk, rfl⟩⟩
        · exact absurd hgood (HNO.out _ _)
        have HB2 := Lib.hid (below_then (below_drewN (Below.refl w.heap.size w) (q + nq)) (Nat.le_refl _) hb2)
        clear hb2
        go_wp2_with fail
        go_ret
        exact ⟨rfl, HB2.out⟩
      · clear htest
        obtain rfl : n = 0 := by omega
        go_enter Tryd.func5, Tryd.ntmps5
        go_wp2_with fail
        refine HCALL.out.mono ?_
        rintro e w1 ⟨rfl, q, rfl⟩
        go_wp2_with fail
        go_quiet (fail)
        go_wp2_with fail
        refine (HNUM.out _ ?hb).mono ?_
        case hb => exact below_drewN (Below.refl _ _) _
        rintro e w2 ⟨hb2, ⟨v', n', hgood, _⟩ | ⟨_, kk, rfl⟩⟩
        · exact absurd hgood (HNO.out _ _)
        have HB2 := Lib.hid (below_then (below_drewN (Below.refl w.heap.size w) (q + nq)) (Nat.le_refl _) hb2)
        clear hb2
        go_wp2_with fail
        go_ret
        exact ⟨rfl, HB2.out⟩
  · obtain ⟨ad, rfl, c0, hc0, hne⟩ := htest (by rw [← HN.out]; omega)
    clear htest
    have HOR := Lib.hid hor
    clear hor
    obtain ⟨i0, hi, hz⟩ := Option.map_eq_some_iff.1 sizeU8
    have htake := print_take_of (P := Tryd.prog) (Value.int .u8) (0 : Int) 22 5 .i64 Tryd.underlying22 hi hz (some ad) c l (k : Int) (by omega) (by omega) (by rw [HN.out]; exact hc)
    rw [HN.out, Int.toNat_natCast, show (l.take k).length = k by rw [List.length_take]; omega] at htake
    obtain ⟨hcut, hread, hkc⟩ := htake
    have hreadN : ∀ wx, ReadsInt wx .u8 (some ad) n l → ReadsInt wx .u8 (some ad) k (l.take k) := fun wx h => readsInt_of.2 (hread wx (readsInt_of.1 h))
    have HRD := Lib.hid hreadN
    obtain ⟨cv, hcvd⟩ : ∃ cv, coded v = cv := ⟨_, rfl⟩
    obtain ⟨mm, hmm⟩ : ∃ mm, more v + 1 = mm := ⟨_, rfl⟩
    have hcoded : ∀ wx, Calls Tryd.prog 13 #[.int .u64 v] wx fun e w' => ∃ x, e = .returned x ∧ w'.ownsRow wx.heap.size 5 1 x mm (nums .u8 cv) ∧ Below wx.heap.size wx w' := fun wx => by
      rw [← hcvd, ← hmm]; exact specCoded_call v wx hv
    have HCD := Lib.hid hcoded
    have HCVD := Lib.hid hcvd
    have hkn : k ≤ n := by rw [← HN.out]; exact hkl
    obtain ⟨s1, hs1⟩ : ∃ s, strOfNums cv = s := ⟨_, rfl⟩
    obtain ⟨s2, hs2⟩ : ∃ s, strOfNums (l.take k) = s := ⟨_, rfl⟩
    have HS1 := Lib.hid hs1
    have HS2 := Lib.hid hs2
    clear hread hreadN hcoded hs1 hs2 hi hz hkl hcvd hmm
    go_enter Tryd.func5, Tryd.ntmps5
    go_wp2_with fail
    refine HCALL.out.mono ?_
    rintro e w1 ⟨rfl, q, rfl⟩
    have hbq : Below w.heap.size w (w.drewN q) := below_drewN (Below.refl _ _) q
    obtain ⟨wa, hwa⟩ : ∃ wa, w.drewN q = wa := ⟨_, rfl⟩
    rw [hwa] at hbq
    rw [hwa]
    have HBQ := Lib.hid hbq
    clear hbq hwa
    have hcv : ∀ wx, Below w.heap.size w wx → (convert 22 9 (.slice (some ad) k c)).run Tryd.prog wx = .ok (.string s2) wx := fun wx hb => by
      have h := string_of_reads (P := Tryd.prog) (src := 22) (dst := 9) (e := 5) (c := c) Tryd.underlying22 Tryd.underlying5 Tryd.underlying9 (HRD.out wx (by have h := HL.out.below hb; rw [HN.out] at h; exact h))
      rw [HS2.out] at h; exact h
    have hcvA := hcv wa.drew HBQ.out.drew
    have HCV := Lib.hid hcv
    clear hcv
    have hkd : decide ((0 : Int) < (k : Int)) = true := decide_eq_true (by omega)
    by_cases hs : s1.toList = s2.toList
    · have hbeq : (s1.toList == s2.toList) = true := beq_iff_eq.mpr hs
      have hlen : (coded v).length = k := by
        rw [HCVD.out]
        have h := hs
        rw [← HS1.out, ← HS2.out, Go.Lib.strOfNums_toList, Go.Lib.strOfNums_toList] at h
        have h2 := congrArg List.length h
        rw [Go.Lib.bytesOf_length, Go.Lib.bytesOf_length, List.length_take] at h2
        have := HN.out; omega
      have hgood : GoodAt l 0 v k := by
        rcases HOR.out with h | ⟨L, m1, mx, hC, hkL, hvm⟩
        · exact h
        · exact absurd (hlen.trans hkL) (over_len hC hvm)
      have HGD := Lib.hid hgood
      clear hs hlen hgood
      go_wp2_with fail
      go_cut [41] (fun v wx => v = .bool (decide ((1000 : Int) < (n : Int))) ∧ Below w.heap.size w wx)
      case first =>
        first | (go_region_with (first | (refine (HCD.out wa.drew).mono ?_; rintro e w3 ⟨x8, rfl, ho8, hb8⟩; (have k1 := own_string (P := Tryd.prog) (src := 22) (dst := 9) (e := 5) Tryd.underlying22 Tryd.underlying5 Tryd.underlying9 ho8); rw [HS1.out] at k1; (have hbw := below_then HBQ.out.drew HBQ.out.drew.size hb8); (have k2 := HCV.out w3 hbw)))) | fail
        all_goals
          have HBW := Lib.hid hbw
          clear k1 k2 ho8 hb8 hbw
          go_wp2_with fail
          go_meet
          exact ⟨rfl, HBW.out⟩
      case rest =>
        obtain ⟨rfl, hbw⟩ := hcut
        have HBW := Lib.hid hbw
        clear hbw
        by_cases h1000 : 1000 < n
        · go_wp2_with fail
          go_ret
          exact ⟨rfl, HBW.out⟩
        · go_wp2_with fail
          refine (HNUM.out wc HBW.out).mono ?_
          rintro e w4 ⟨hb4, ⟨v', k', hg', rfl⟩ | ⟨hno, _⟩⟩
          · obtain ⟨rfl, rfl⟩ := HGD.out.same hg'
            have HB4 := Lib.hid (below_then HBW.out HBW.out.size hb4)
            clear hb4 hg'
            go_wp2_with fail
            go_ret
            exact ⟨rfl, HB4.out⟩
          · exact absurd HGD.out (hno _ _)
    · have hbeq : (s1.toList == s2.toList) = false := beq_eq_false_iff_ne.mpr hs
      clear hs
      go_wp2_with fail
      first | (go_region_with (first | (refine (HCD.out wa.drew).mono ?_; rintro e w3 ⟨x8, rfl, ho8, hb8⟩; (have k1 := own_string (P := Tryd.prog) (src := 22) (dst := 9) (e := 5) Tryd.underlying22 Tryd.underlying5 Tryd.underlying9 ho8); rw [HS1.out] at k1; (have hbw := below_then HBQ.out.drew HBQ.out.drew.size hb8); (have k2 := HCV.out w3 hbw)))) | fail
      all_goals
        have HBW := Lib.hid hbw
        clear k1 k2 ho8 hb8 hbw
        go_wp2_with fail
        go_ret
        exact ⟨rfl, HBW.out⟩

theorem topNumber (w : World) (A : Option Addr) (c : Nat) (l : List Int)
    (hl : ReadsInt w .u8 A l.length l) (hc : l.length ≤ c) (hm : l.length * 1 ≤ 140737488351232) (hb : ∀ x ∈ l, (Lit.int .u8 x).wf = true)
    (ea eb : Addr) (hG : Glob w ea eb) (hsafe : ∀ k, w.heap.size ≤ k → Safe k) :
    Calls Tryd.prog 5 #[.slice A l.length c] w fun e w' => e = .returned (.bool true) ∧ Below w.heap.size w w' :=
  lawNumber A c l w ea eb hl hc (by omega) (fun x hx => by
    have h0 := hb x hx
    have h1 : IntKind.u8.min = 0 := rfl
    have h2 : IntKind.u8.max = 255 := rfl
    simp only [Lit.wf, Bool.and_eq_true, decide_eq_true_eq] at h0
    exact ⟨by omega, by omega⟩) hG hsafe
end Go.Proofs.YtfpeoadgbidahaaDoor.Walk
