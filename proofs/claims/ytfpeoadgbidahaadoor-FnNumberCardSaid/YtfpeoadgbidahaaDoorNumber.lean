/- utf8.Decode whatever the first byte (but FF), and impl.Number. -/
import Derived.Test.YtfpeoadgbidahaaDoorDec
namespace Go.Proofs.YtfpeoadgbidahaaDoor.Walk
set_option linter.unusedVariables false
set_option linter.unusedSimpArgs false
open Go Go.RowKit Go.Proofs.YtfpeoadgbidahaaDoorW.PrintWords Go.Proofs.YtfpeoadgbidahaaDoor.Num

/-- A first byte that L bytes follow: its own bits are those under m1, and the number must be above mx. -/
inductive Cls (c0 : Nat) : Nat → Nat → Nat → Prop
  | one : 192 ≤ c0 → c0 < 224 → Cls c0 1 32 127
  | two : 224 ≤ c0 → c0 < 240 → Cls c0 2 16 2047
  | three : 240 ≤ c0 → c0 < 248 → Cls c0 3 8 65535
  | four : 248 ≤ c0 → c0 < 252 → Cls c0 4 4 2097151
  | five : 252 ≤ c0 → c0 < 254 → Cls c0 5 2 67108863
  | six : 254 ≤ c0 → c0 < 255 → Cls c0 6 1 2147483647
theorem Cls.same {c0 L m1 mx L' m1' mx' : Nat} (h : Cls c0 L m1 mx) (h' : Cls c0 L' m1' mx') : L = L' ∧ m1 = m1' ∧ mx = mx' := by
  cases h <;> cases h' <;> first | exact ⟨rfl, rfl, rfl⟩ | omega
theorem Cls.ge {c0 L m1 mx : Nat} (h : Cls c0 L m1 mx) : 192 ≤ c0 := by cases h <;> omega
theorem cls_of {c0 : Nat} (h : 192 ≤ c0) (h2 : c0 < 255) : ∃ L m1 mx, Cls c0 L m1 mx := by
  by_cases h3 : c0 < 224
  · exact ⟨_, _, _, .one h h3⟩
  by_cases h4 : c0 < 240
  · exact ⟨_, _, _, .two (by omega) h4⟩
  by_cases h5 : c0 < 248
  · exact ⟨_, _, _, .three (by omega) h5⟩
  by_cases h6 : c0 < 252
  · exact ⟨_, _, _, .four (by omega) h6⟩
  by_cases h7 : c0 < 254
  · exact ⟨_, _, _, .five (by omega) h7⟩
  · exact ⟨_, _, _, .six (by omega) h2⟩
/-- At p stands the number v, in n bytes. -/
def GoodAt (l : List Int) (p v n : Nat) : Prop :=
  p < l.length ∧ ((byteAt l p < 128 ∧ v = byteAt l p ∧ n = 1) ∨
    ∃ L m1 mx, Cls (byteAt l p) L m1 mx ∧ Follows l (p + 1) L ∧ mx < vals l (p + 1) (byteAt l p % m1) L ∧ v = vals l (p + 1) (byteAt l p % m1) L ∧ n = L + 1)
theorem GoodAt.same {l : List Int} {p v n v' n' : Nat} (h : GoodAt l p v n) (h' : GoodAt l p v' n') : v = v' ∧ n = n' := by
  obtain ⟨_, ⟨a1, a2, a3⟩ | ⟨L, m1, mx, c, _, _, b2, b3⟩⟩ := h <;> obtain ⟨_, ⟨d1, d2, d3⟩ | ⟨L', m1', mx', c', _, _, e2, e3⟩⟩ := h'
  · omega
  · have := c'.ge; omega
  · have := c.ge; omega
  · obtain ⟨rfl, rfl, rfl⟩ := c.same c'
    exact ⟨b2.trans e2.symm, b3.trans e3.symm⟩
theorem GoodAt.le {l : List Int} {p v n : Nat} (h : GoodAt l p v n) : p + n ≤ l.length := by
  obtain ⟨h0, ⟨a1, a2, a3⟩ | ⟨L, m1, mx, c, f, _, b2, b3⟩⟩ := h
  · omega
  · have := f.1; omega

/-- How Decode ends, whatever stands at p. -/
def DecTold (S : List Nat) (l : List Int) (p : Nat) (St : World → Nat → Prop) (w : World) (e : Ending) (w' : World) : Prop :=
  Touch S w w' ∧ ((∃ v n, GoodAt l p v n ∧ e = .returned (.tuple #[.int .u64 v, .nilIface]) ∧ St w' (p + n)) ∨
    ((∀ v n, ¬ GoodAt l p v n) ∧ (∃ a, e = .returned (.tuple #[.int .u64 0, .iface 85 (.pointer (some a))])) ∧ ∃ q, St w' q))

set_option maxHeartbeats 2000000 in
set_option maxRecDepth 100000 in
theorem dec_any {ty fn g : Nat} {S D : List Nat} {l : List Int} {St : World → Nat → Prop} (R : Src ty fn g S D l St) (hbytes : ∀ i, l.getD i 0 = (byteAt l i : Int) ∧ byteAt l i < 256) (w : World) (p : Nat) (ea eb : Addr)
    (hs : St w p) (hD : ∀ k ∈ D, k < w.heap.size) (hG : Glob w ea eb) (hsafe : ∀ k ∈ S, Safe k) (hff : p < l.length → byteAt l p ≠ 255) :
    Calls Tryd.prog 21 #[.iface ty (.pointer (some ⟨g, 0, none⟩))] w (DecTold S l p St w) := by
  have hle := R.le w p hs
  by_cases hp : p < l.length
  · obtain ⟨c0, hc0⟩ : ∃ c0, byteAt l p = c0 := ⟨_, rfl⟩
    have hc := hbytes p
    rw [hc0] at hc
    have hff2 := hff hp
    rw [hc0] at hff2
    by_cases hcl : 192 ≤ c0
    · have key : ∀ L m1 mx, Cls c0 L m1 mx → Calls Tryd.prog 21 #[.iface ty (.pointer (some ⟨g, 0, none⟩))] w
          (DecEnds S St w (Follows l (p + 1) L ∧ mx < vals l (p + 1) (c0 % m1) L) (vals l (p + 1) (c0 % m1) L) (p + 1 + L)) := by
        intro L m1 mx h
        cases h with
        | one h1 h2 => exact dec1 R hbytes w p c0 ea eb hs hp hc.1 h1 h2 hD hG hsafe
        | two h1 h2 => exact dec2 R hbytes w p c0 ea eb hs hp hc.1 h1 h2 hD hG hsafe
        | three h1 h2 => exact dec3 R hbytes w p c0 ea eb hs hp hc.1 h1 h2 hD hG hsafe
        | four h1 h2 => exact dec4 R hbytes w p c0 ea eb hs hp hc.1 h1 h2 hD hG hsafe
        | five h1 h2 => exact dec5 R hbytes w p c0 ea eb hs hp hc.1 h1 h2 hD hG hsafe
        | six h1 h2 => exact dec6 R hbytes w p c0 ea eb hs hp hc.1 h1 h2 hD hG hsafe
      obtain ⟨L, m1, mx, hC⟩ := cls_of hcl (by omega)
      refine (key L m1 mx hC).mono ?_
      rintro e w' ⟨ht, ⟨hg, rfl, hst⟩ | ⟨hb, he, hq⟩⟩
      · refine ⟨ht, .inl ⟨_, L + 1, ⟨hp, .inr ⟨L, m1, mx, by rw [hc0]; exact hC, hg.1, by rw [hc0]; exact hg.2, by rw [hc0], rfl⟩⟩, rfl, ?_⟩⟩
        rw [show p + (L + 1) = p + 1 + L by omega]; exact hst
      · refine ⟨ht, .inr ⟨?_, he, hq⟩⟩
        rintro v n ⟨_, ⟨h1, _⟩ | ⟨L', m1', mx', c', f', g', _⟩⟩
        · omega
        · rw [hc0] at c' g'
          obtain ⟨rfl, rfl, rfl⟩ := hC.same c'
          exact hb ⟨f', g'⟩
    · have HR := Lib.hid R
      have HS := Lib.hid hs
      have HD := Lib.hid hD
      have HC := Lib.hid hc.1
      have HC0 := Lib.hid hc0
      clear R hs hD hbytes hG hsafe hff hc hc0 hff2
      by_cases hlow : c0 < 128
      · go_enter Tryd.func21, Tryd.ntmps21
        go_wp2_with fail
        refine (byte_ok HR.out w p HS.out hp HD.out).mono ?_
        rw [HC.out]
        rintro e w1 ⟨rfl, ht1, hs1⟩
        have X := Lib.hid (And.intro ht1 hs1)
        clear ht1 hs1
        go_wp2_with fail
        go_ret2
        exact ⟨X.out.1, .inl ⟨c0, 1, ⟨hp, .inl ⟨by rw [HC0.out]; exact hlow, HC0.out.symm, rfl⟩⟩, rfl, X.out.2⟩⟩
      · go_enter Tryd.func21, Tryd.ntmps21
        go_wp2_with fail
        refine (byte_ok HR.out w p HS.out hp HD.out).mono ?_
        rw [HC.out]
        rintro e w1 ⟨rfl, ht1, hs1⟩
        have X := Lib.hid (And.intro ht1 hs1)
        clear ht1 hs1
        go_wp2_with fail
        refine (err_new _ w1).mono ?_
        rintro e w3 ⟨a, rfl, hb3⟩
        have HB3 := Lib.hid hb3
        clear hb3
        go_wp2_with fail
        go_ret2
        refine ⟨X.out.1.trans (Touch.of_below HB3.out), .inr ⟨?_, ⟨_, rfl⟩, _, HR.out.move [] w1 _ _ X.out.2 (by simp) (Touch.of_below HB3.out)⟩⟩
        rintro v n ⟨_, ⟨h1, _⟩ | ⟨L', m1', mx', c', f', g', _⟩⟩
        · rw [HC0.out] at h1; omega
        · rw [HC0.out] at c'; have := c'.ge; omega
  · have hend : p = l.length := by omega
    have HR := Lib.hid R
    have HS := Lib.hid hs
    have HG := Lib.hid hG
    clear R hs hD hbytes hG hsafe hff
    go_enter Tryd.func21, Tryd.ntmps21
    go_wp2_with fail
    refine (byte_end HR.out w p ea eb HS.out hend HG.out).mono ?_
    rintro e w1 ⟨rfl, ht1, hs1⟩
    have X := Lib.hid (And.intro ht1 hs1)
    clear ht1 hs1
    go_wp2_with fail
    go_ret2
    refine ⟨X.out.1, .inr ⟨?_, ⟨_, rfl⟩, _, X.out.2⟩⟩
    rintro v n ⟨h1, _⟩
    exact hp h1

/-- How impl.Number ends. -/
def NumTold (l : List Int) (w : World) (e : Ending) (w' : World) : Prop :=
  Below w.heap.size w w' ∧ ((∃ v n : Nat, GoodAt l 0 v n ∧ e = .returned (.tuple #[.int .u64 v, .int .i64 n, .int .i64 0])) ∨
    ((∀ v n, ¬ GoodAt l 0 v n) ∧ ∃ k : Int, e = .returned (.tuple #[.int .u64 0, .int .i64 k, .int .i64 1])))
theorem bytes_at {l : List Int} (h : ∀ x ∈ l, 0 ≤ x ∧ x ≤ 255) (i : Nat) : l.getD i 0 = (byteAt l i : Int) ∧ byteAt l i < 256 := by
  unfold byteAt
  rw [List.getD_eq_getElem?_getD]
  rcases hi : l[i]? with _ | v
  · simp
  · have := h v (List.mem_of_getElem? hi); simp; omega

set_option maxHeartbeats 2000000 in
set_option maxRecDepth 100000 in
theorem number_any (A : Option Addr) (n c : Nat) (l : List Int) (w : World) (ea eb : Addr)
    (hl : ReadsInt w .u8 A n l) (hc : n ≤ c) (hm : n ≤ 140737488351232) (hbytes : ∀ x ∈ l, 0 ≤ x ∧ x ≤ 255) (hG : Glob w ea eb) (hsafe : ∀ k, w.heap.size ≤ k → Safe k) (hff : 0 < l.length → byteAt l 0 ≠ 255) :
    Calls Tryd.prog 14 #[.slice A n c] w (NumTold l w) := by
  have HL := Lib.hid hl
  have HBY := Lib.hid (fun i => bytes_at hbytes i)
  have HG := Lib.hid hG
  have HSF := Lib.hid hsafe
  have HFF := Lib.hid hff
  clear hl hbytes hG hsafe hff
  go_enter Tryd.func14, Tryd.ntmps14
  go_wp2_with (with_reducible refine stop_dst (N := 10) rfl ?_)
  refine unstop ?_
  refine print_append_row (w0 := w) w.heap.size rfl (.tmp 8) (.tmp 9) 22 5 .u8 1 rfl Tryd.underlying22 infoU8 (by decide) _ [] l A n c rfl rfl ?aO ?aR ?aB ?aS ?aL ?_
  case aO => exact World.ownsRow_lit (base := w.heap.size) w #[] 0 (Nat.le_refl _) (by unfold maxLen; omega) (by simp)
  case aR => exact HL.out.below (below_alloc (Below.refl _ _) _)
  case aB => exact below_alloc (Below.refl _ _) _
  case aS => simp
  case aL => simp; omega
  intro v1 w1 HO hB hgrow _
  have hsz1 : w.heap.size < w1.heap.size := by have := hgrow.size; simp at this; omega
  clear hgrow
  rw [List.nil_append] at HO
  have hlen : l.length = n := HL.out.1
  have hbase := fun k hk => own_base HO k hk
  have hblk := fun k hk => own_lt HO k hk
  obtain ⟨A1, c1, hv, hR⟩ := own_reads HO
  have hc1 : l.length ≤ c1 := by
    rcases HO.2 with ⟨h0, hn⟩ | ⟨g, cap, cur, h0, _, _, hcap, _⟩
    · rw [hv] at h0; injection h0 with _ _ h3; omega
    · rw [hv] at h0; injection h0 with _ _ h3; omega
  rw [hlen] at hv hR hc1
  subst hv
  obtain ⟨gd, hgd0, hgdlt, hgd1, hA⟩ : ∃ gd, w.heap.size ≤ gd ∧ gd < w1.heap.size ∧ gd ≠ w1.heap.size ∧ ∀ ad, A1 = some ad → ad.block = gd := by
    rcases A1 with _ | ad
    · exact ⟨w.heap.size, Nat.le_refl _, hsz1, by omega, fun ad h => by cases h⟩
    · exact ⟨ad.block, hbase _ rfl, hblk _ rfl, by have := hblk _ rfl; omega, fun ad' h => by cases h; rfl⟩
  have hB2 : Below w.heap.size w (w1.alloc (.cells #[.slice A1 n c1, .int .i64 0, .int .i64 (-1)] 76)) := hB.alloc hB.size _
  have hst : RdrSt w1.heap.size A1 n c1 l (w1.alloc (.cells #[.slice A1 n c1, .int .i64 0, .int .i64 (-1)] 76)) 0 :=
    ⟨⟨-1, heap_alloc_new w1 _⟩, hR.below (below_alloc (Below.refl _ _) _), hc1, Nat.zero_le _⟩
  obtain ⟨g, hg⟩ : ∃ g, w1.heap.size = g := ⟨_, rfl⟩
  rw [hg] at hst hgd1 hgdlt
  have hg0 : w.heap.size ≤ g := by have := hB.size; omega
  have R := rdr_src g gd A1 n c1 l hlen hA hgd1
  have HR := Lib.hid R
  have HST := Lib.hid hst
  have HB2 := Lib.hid hB2
  have HLEN := Lib.hid hlen
  have HD : ∀ k ∈ [g, gd], k < (w1.alloc (.cells #[.slice A1 n c1, .int .i64 0, .int .i64 (-1)] 76)).heap.size := by
    intro k hk
    simp at hk ⊢; omega
  have HD2 := Lib.hid HD
  have HGG := Lib.hid hg
  clear R hst hB2 hbase hblk HO hB hR hA hgd1 hc1 hlen HD hg
  go_wp2_with fail
  refine (newRdr A1 n c1 w1).mono ?_
  rw [HGG.out]
  rintro e w2 ⟨rfl, hw2⟩
  rw [← hw2] at HB2 HST HD2
  clear hw2
  go_wp2_with fail
  refine (dec_any HR.out HBY.out w2 0 ea eb HST.out HD2.out (HG.out.touch (U := []) (Touch.of_below HB2.out) (by simp)) (fun k hk => HSF.out k (by simp at hk; omega)) HFF.out).mono ?_
  rintro e w3 ⟨ht, ⟨v, m, hgood, rfl, hs3⟩ | ⟨hbad, ⟨a, rfl⟩, q, hs3⟩⟩
  · have hB3 : Below w.heap.size w w3 := ht.below HB2.out (fun k hk => by simp at hk; omega)
    have hq : 0 + m ≤ n := hs3.2.2.2
    rw [Nat.zero_add] at hs3 hq
    obtain ⟨⟨pr, hrow⟩, _⟩ := hs3
    have HROW := Lib.hid hrow
    have HB3 := Lib.hid hB3
    have HGD := Lib.hid hgood
    have hsub : (n : Int) - ((n - m : Nat) : Int) = (m : Int) := by omega
    clear ht hrow hB3 hgood
    go_wp2_with fail
    refine (rdr_len g m n c1 A1 pr w3 HROW.out hq (by omega)).mono ?_
    rintro e w4 ⟨rfl, q4, rfl⟩
    go_wp2_with fail
    refine (code_good _).mono ?_
    rintro e w5 ⟨rfl, rfl⟩
    go_wp2_with fail
    go_ret3
    exact ⟨below_drewN HB3.out q4, .inl ⟨v, m, HGD.out, rfl⟩⟩
  · have hB3 : Below w.heap.size w w3 := ht.below HB2.out (fun k hk => by simp at hk; omega)
    have hq : q ≤ n := hs3.2.2.2
    obtain ⟨⟨pr, hrow⟩, _⟩ := hs3
    have HROW := Lib.hid hrow
    have HB3 := Lib.hid hB3
    have HBD := Lib.hid hbad
    have hsub : (n : Int) - ((n - q : Nat) : Int) = (q : Int) := by omega
    clear ht hrow hB3 hbad
    go_wp2_with fail
    refine (rdr_len g q n c1 A1 pr w3 HROW.out hq (by omega)).mono ?_
    rintro e w4 ⟨rfl, q4, rfl⟩
    go_wp2_with fail
    refine (code_err a _).mono ?_
    rintro e w5 ⟨rfl, rfl⟩
    go_wp2_with fail
    go_ret3
    exact ⟨below_drewN HB3.out q4, .inr ⟨HBD.out, _, rfl⟩⟩
end Go.Proofs.YtfpeoadgbidahaaDoor.Walk
