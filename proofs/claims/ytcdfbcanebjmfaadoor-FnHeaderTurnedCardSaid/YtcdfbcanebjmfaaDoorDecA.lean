/- utf8.Decode whatever the first byte (but FF). -/
import Derived.Test.YtcdfbcanebjmfaaDoorDec
namespace Go.Proofs.YtcdfbcanebjmfaaDoor.Walk
set_option linter.unusedVariables false
set_option linter.unusedSimpArgs false
open Go Go.RowKit Go.Proofs.YtcdfbcanebjmfaaDoorW.PrintWords Go.Proofs.YtcdfbcanebjmfaaDoor.Num

/-- A first byte that L bytes follow: its own bits are those under m1, and the number must be above mx. -/
inductive Cls (c0 : Nat) : Nat → Nat → Nat → Prop
  | one : 192 ≤ c0 → c0 < 224 → Cls c0 1 32 127
  | two : 224 ≤ c0 → c0 < 240 → Cls c0 2 16 2047
  | three : 240 ≤ c0 → c0 < 248 → Cls c0 3 8 65535
  | four : 248 ≤ c0 → c0 < 252 → Cls c0 4 4 2097151
  | five : 252 ≤ c0 → c0 < 254 → Cls c0 5 2 67108863
  | six : 254 ≤ c0 → c0 < 255 → Cls c0 6 1 2147483647
theorem Cls.same {c0 L m1 mx L' m1' mx' : Nat} (h : Cls c0 L m1 mx) (h' : Cls c0 L' m1' mx') : L = L' ∧ m1 = m1' ∧ mx = mx' := by
  cases h <;> cases h' <;> first | exact ⟨rfl, rfl, rfl⟩ | omega
theorem Cls.ge {c0 L m1 mx : Nat} (h : Cls c0 L m1 mx) : 192 ≤ c0 := by cases h <;> omega
theorem cls_of {c0 : Nat} (h : 192 ≤ c0) (h2 : c0 < 255) : ∃ L m1 mx, Cls c0 L m1 mx := by
  by_cases h3 : c0 < 224
  · exact ⟨_, _, _, .one h h3⟩
  by_cases h4 : c0 < 240
  · exact ⟨_, _, _, .two (by omega) h4⟩
  by_cases h5 : c0 < 248
  · exact ⟨_, _, _, .three (by omega) h5⟩
  by_cases h6 : c0 < 252
  · exact ⟨_, _, _, .four (by omega) h6⟩
  by_cases h7 : c0 < 254
  · exact ⟨_, _, _, .five (by omega) h7⟩
  · exact ⟨_, _, _, .six (by omega) h2⟩
/-- At p stands the number v, in n bytes. -/
def GoodAt (l : List Int) (p v n : Nat) : Prop :=
  p < l.length ∧ ((byteAt l p < 128 ∧ v = byteAt l p ∧ n = 1) ∨
    ∃ L m1 mx, Cls (byteAt l p) L m1 mx ∧ Follows l (p + 1) L ∧ mx < vals l (p + 1) (byteAt l p % m1) L ∧ v = vals l (p + 1) (byteAt l p % m1) L ∧ n = L + 1)
theorem GoodAt.same {l : List Int} {p v n v' n' : Nat} (h : GoodAt l p v n) (h' : GoodAt l p v' n') : v = v' ∧ n = n' := by
  obtain ⟨_, ⟨a1, a2, a3⟩ | ⟨L, m1, mx, c, _, _, b2, b3⟩⟩ := h <;> obtain ⟨_, ⟨d1, d2, d3⟩ | ⟨L', m1', mx', c', _, _, e2, e3⟩⟩ := h'
  · omega
  · have := c'.ge; omega
  · have := c.ge; omega
  · obtain ⟨rfl, rfl, rfl⟩ := c.same c'
    exact ⟨b2.trans e2.symm, b3.trans e3.symm⟩
theorem GoodAt.le {l : List Int} {p v n : Nat} (h : GoodAt l p v n) : p + n ≤ l.length := by
  obtain ⟨h0, ⟨a1, a2, a3⟩ | ⟨L, m1, mx, c, f, _, b2, b3⟩⟩ := h
  · omega
  · have := f.1; omega

/-- How Decode ends, whatever stands at p. -/
def DecTold (S : List Nat) (l : List Int) (p : Nat) (St : World → Nat → Prop) (w : World) (e : Ending) (w' : World) : Prop :=
  Touch S w w' ∧ ((∃ v n, GoodAt l p v n ∧ e = .returned (.tuple #[.int .u64 v, .nilIface]) ∧ St w' (p + n)) ∨
    ((∀ v n, ¬ GoodAt l p v n) ∧ (∃ a, ErrAt w' a ∧ e = .returned (.tuple #[.int .u64 0, .iface 130 (.pointer (some a))])) ∧ ∃ q, St w' q))

set_option maxHeartbeats 2000000 in
set_option maxRecDepth 100000 in
theorem dec_any {ty fn g : Nat} {S D : List Nat} {l : List Int} {St : World → Nat → Prop} (R : Src ty fn g S D l St) (hbytes : ∀ i, l.getD i 0 = (byteAt l i : Int) ∧ byteAt l i < 256) (w : World) (p : Nat) (ea eb : Addr)
    (hs : St w p) (hD : ∀ k ∈ D, k < w.heap.size) (hG : Glob w ea eb) (hsafe : ∀ k ∈ S, Safe ea eb k) (hff : p < l.length → byteAt l p ≠ 255) :
    Calls Tryd.prog 32 #[.iface ty (.pointer (some ⟨g, 0, none⟩))] w (DecTold S l p St w) := by
  have hle := R.le w p hs
  by_cases hp : p < l.length
  · obtain ⟨c0, hc0⟩ : ∃ c0, byteAt l p = c0 := ⟨_, rfl⟩
    have hc := hbytes p
    rw [hc0] at hc
    have hff2 := hff hp
    rw [hc0] at hff2
    by_cases hcl : 192 ≤ c0
    · have key : ∀ L m1 mx, Cls c0 L m1 mx → Calls Tryd.prog 32 #[.iface ty (.pointer (some ⟨g, 0, none⟩))] w
          (DecEnds S St w (Follows l (p + 1) L ∧ mx < vals l (p + 1) (c0 % m1) L) (vals l (p + 1) (c0 % m1) L) (p + 1 + L)) := by
        intro L m1 mx h
        cases h with
        | one h1 h2 => exact dec1 R hbytes w p c0 ea eb hs hp hc.1 h1 h2 hD hG hsafe
        | two h1 h2 => exact dec2 R hbytes w p c0 ea eb hs hp hc.1 h1 h2 hD hG hsafe
        | three h1 h2 => exact dec3 R hbytes w p c0 ea eb hs hp hc.1 h1 h2 hD hG hsafe
        | four h1 h2 => exact dec4 R hbytes w p c0 ea eb hs hp hc.1 h1 h2 hD hG hsafe
        | five h1 h2 => exact dec5 R hbytes w p c0 ea eb hs hp hc.1 h1 h2 hD hG hsafe
        | six h1 h2 => exact dec6 R hbytes w p c0 ea eb hs hp hc.1 h1 h2 hD hG hsafe
      obtain ⟨L, m1, mx, hC⟩ := cls_of hcl (by omega)
      refine (key L m1 mx hC).mono ?_
      rintro e w' ⟨ht, ⟨hg, rfl, hst⟩ | ⟨hb, he, hq⟩⟩
      · refine ⟨ht, .inl ⟨_, L + 1, ⟨hp, .inr ⟨L, m1, mx, by rw [hc0]; exact hC, hg.1, by rw [hc0]; exact hg.2, by rw [hc0], rfl⟩⟩, rfl, ?_⟩⟩
        rw [show p + (L + 1) = p + 1 + L by omega]; exact hst
      · refine ⟨ht, .inr ⟨?_, he, hq⟩⟩
        rintro v n ⟨_, ⟨h1, _⟩ | ⟨L', m1', mx', c', f', g', _⟩⟩
        · omega
        · rw [hc0] at c' g'
          obtain ⟨rfl, rfl, rfl⟩ := hC.same c'
          exact hb ⟨f', g'⟩
    · have HR := Lib.hid R
      have HS := Lib.hid hs
      have HD := Lib.hid hD
      have HC := Lib.hid hc.1
      have HC0 := Lib.hid hc0
      clear R hs hD hbytes hG hsafe hff hc hc0 hff2
      by_cases hlow : c0 < 128
      · go_enter Tryd.func32, Tryd.ntmps32
        go_wp2_with fail
        refine (byte_ok HR.out w p HS.out hp HD.out).mono ?_
        rw [HC.out]
        rintro e w1 ⟨rfl, ht1, hs1⟩
        have X := Lib.hid (And.intro ht1 hs1)
        clear ht1 hs1
        go_wp2_with fail
        go_ret2
        exact ⟨X.out.1, .inl ⟨c0, 1, ⟨hp, .inl ⟨by rw [HC0.out]; exact hlow, HC0.out.symm, rfl⟩⟩, rfl, X.out.2⟩⟩
      · go_enter Tryd.func32, Tryd.ntmps32
        go_wp2_with fail
        refine (byte_ok HR.out w p HS.out hp HD.out).mono ?_
        rw [HC.out]
        rintro e w1 ⟨rfl, ht1, hs1⟩
        have X := Lib.hid (And.intro ht1 hs1)
        clear ht1 hs1
        go_wp2_with fail
        refine (err_new _ w1).mono ?_
        rintro e w3 ⟨a, rfl, hb3, hat3⟩
        have HB3 := Lib.hid hb3
        have HA3 := Lib.hid hat3
        clear hb3 hat3
        go_wp2_with fail
        go_ret2
        refine ⟨X.out.1.trans (Touch.of_below HB3.out), .inr ⟨?_, ⟨_, HA3.out, rfl⟩, _, HR.out.move [] w1 _ _ X.out.2 (by simp) (Touch.of_below HB3.out)⟩⟩
        rintro v n ⟨_, ⟨h1, _⟩ | ⟨L', m1', mx', c', f', g', _⟩⟩
        · rw [HC0.out] at h1; omega
        · rw [HC0.out] at c'; have := c'.ge; omega
  · have hend : p = l.length := by omega
    have HR := Lib.hid R
    have HS := Lib.hid hs
    have HG := Lib.hid hG
    have HSF := Lib.hid hsafe
    clear R hs hD hbytes hG hsafe hff
    go_enter Tryd.func32, Tryd.ntmps32
    go_wp2_with fail
    refine (byte_end HR.out w p ea eb HS.out hend HG.out).mono ?_
    rintro e w1 ⟨rfl, ht1, hs1⟩
    have X := Lib.hid (And.intro ht1 hs1)
    clear ht1 hs1
    go_wp2_with fail
    go_ret2
    refine ⟨X.out.1, .inr ⟨?_, ⟨_, (HG.out.touch X.out.1 HSF.out).ata, rfl⟩, _, X.out.2⟩⟩
    rintro v n ⟨h1, _⟩
    exact hp h1

set_option maxHeartbeats 2000000 in
set_option maxRecDepth 100000 in
/-- FF at first: the number 0, in one byte (what the reference does not speak of). -/
theorem dec_ff {ty fn g : Nat} {S D : List Nat} {l : List Int} {St : World → Nat → Prop} (R : Src ty fn g S D l St) (w : World) (p : Nat)
    (hs : St w p) (hp : p < l.length) (hc : l.getD p 0 = 255) (hD : ∀ k ∈ D, k < w.heap.size) :
    Calls Tryd.prog 32 #[.iface ty (.pointer (some ⟨g, 0, none⟩))] w fun e w' => e = .returned (.tuple #[.int .u64 0, .nilIface]) ∧ Touch S w w' ∧ St w' (p + 1) := by
  have HR := Lib.hid R
  have HS := Lib.hid hs
  have HD := Lib.hid hD
  have HC := Lib.hid hc
  clear R hs hD hc
  go_enter Tryd.func32, Tryd.ntmps32
  go_wp2_with fail
  refine (byte_ok HR.out w p HS.out hp HD.out).mono ?_
  rw [HC.out]
  rintro e w1 ⟨rfl, ht1, hs1⟩
  have X := Lib.hid (And.intro ht1 hs1)
  clear ht1 hs1
  go_wp2_with fail
  refine wp_loop_rounds 1 ?_
  rw [rounds_succ]
  go_wp2_with fail
  go_ret2
  exact ⟨rfl, X.out⟩
theorem bytes_at {l : List Int} (h : ∀ x ∈ l, 0 ≤ x ∧ x ≤ 255) (i : Nat) : l.getD i 0 = (byteAt l i : Int) ∧ byteAt l i < 256 := by
  unfold byteAt
  rw [List.getD_eq_getElem?_getD]
  rcases hi : l[i]? with _ | v
  · simp
  · have := h v (List.mem_of_getElem? hi); simp; omega

end Go.Proofs.YtcdfbcanebjmfaaDoor.Walk
