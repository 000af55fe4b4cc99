/- What a header is written as, in plain words. -/
/- What is written as a header is one, and of its own parts. -/
import Derived.Test.YtcdfbcanebjmfaaDoorHdrP
import Derived.Test.YtcdfbcanebjmfaaDoorBackP
import Derived.Test.YtcdfbcanebjmfaaDoorHdr
namespace Go.Proofs.YtcdfbcanebjmfaaDoor.Walk
set_option linter.unusedVariables false
set_option linter.unusedSimpArgs false
open Go Go.Proofs.YtcdfbcanebjmfaaDoor.Num

/-- A number by which a size is told. -/
def SizeCode (cs sz : Nat) : Prop := (cs = 6 ∧ sz ≤ 256) ∨ cs = 7 ∨ (cs = 1 ∧ sz = 192) ∨ (2 ≤ cs ∧ cs ≤ 5 ∧ sz = 144 * 2 ^ cs) ∨ (8 ≤ cs ∧ cs ≤ 15 ∧ sz = 2 ^ cs)
/-- A number by which a rate is told. -/
def RateCode (cr rt : Nat) : Prop := (cr ≤ 11 ∧ rateTab.getD cr 0 = rt) ∨ (cr = 12 ∧ rt % 1000 = 0 ∧ rt / 1000 < 256) ∨ (cr = 13 ∧ rt < 65536) ∨ (cr = 14 ∧ 65536 ≤ rt)
def sizeExt (cs sz : Nat) : List Int := if cs = 6 then [((sz - 1 : Nat) : Int)] else if cs = 7 then [(((sz - 1) / 256 : Nat) : Int), (((sz - 1) % 256 : Nat) : Int)] else []
def rateExt (cr rt : Nat) : List Int := if cr = 12 then [((rt / 1000 : Nat) : Int)] else if cr = 13 then [((rt / 256 : Nat) : Int), ((rt % 256 : Nat) : Int)] else if cr = 14 then [((rt / 10 / 256 : Nat) : Int), ((rt / 10 % 256 : Nat) : Int)] else []
def head4 (vr : Bool) (cs cr asg cb : Nat) : List Int := [255, ((248 + vr.toNat : Nat) : Int), ((cs * 16 + cr : Nat) : Int), ((asg * 16 + cb * 2 : Nat) : Int)]
/-- A header's bytes ahead of its sum. -/
def headBytes (vr : Bool) (sz rt asg nm cs cr cb : Nat) : List Int := head4 vr cs cr asg cb ++ coded nm ++ sizeExt cs sz ++ rateExt cr rt
theorem SizeCode.lt {cs sz : Nat} (h : SizeCode cs sz) : 1 ≤ cs ∧ cs ≤ 15 := by unfold SizeCode at h; omega
theorem RateCode.lt {cr rt : Nat} (h : RateCode cr rt) : cr ≤ 14 := by unfold RateCode at h; omega
theorem head_byte (vr : Bool) (sz rt asg nm cs cr cb : Nat) (h1 : 1 ≤ sz) (hsz : sz ≤ 65535) (hrt : rt ≤ 655350) (hasg : asg ≤ 15) (hnm : nm < 68719476736) (hc : SizeCode cs sz) (hr : RateCode cr rt) (hcb : cb < 8) :
    ∀ x ∈ headBytes vr sz rt asg nm cs cr cb, 0 ≤ x ∧ x ≤ 255 := by
  have hcs15 := hc.lt
  have hcr14 := hr.lt
  intro x hx
  unfold headBytes at hx
  rw [List.mem_append, List.mem_append, List.mem_append] at hx
  rcases hx with ((hx | hx) | hx) | hx
  · unfold head4 at hx
    have hv : vr.toNat < 2 := by cases vr <;> decide
    simp only [List.mem_cons, List.not_mem_nil, or_false] at hx
    rcases hx with rfl | rfl | rfl | rfl <;> omega
  · exact coded_bytes nm hnm x hx
  · unfold sizeExt at hx
    split at hx
    · have : sz ≤ 256 := by unfold SizeCode at hc; omega
      simp only [List.mem_cons, List.not_mem_nil, or_false] at hx
      omega
    · split at hx
      · simp only [List.mem_cons, List.not_mem_nil, or_false] at hx
        rcases hx with rfl | rfl <;> omega
      · simp at hx
  · unfold rateExt at hx
    split at hx
    · have : rt / 1000 < 256 := by unfold RateCode at hr; omega
      simp only [List.mem_cons, List.not_mem_nil, or_false] at hx
      omega
    · split at hx
      · have : rt < 65536 := by unfold RateCode at hr; omega
        simp only [List.mem_cons, List.not_mem_nil, or_false] at hx
        rcases hx with rfl | rfl <;> omega
      · split at hx
        · simp only [List.mem_cons, List.not_mem_nil, or_false] at hx
          rcases hx with rfl | rfl <;> omega
        · simp at hx
end Go.Proofs.YtcdfbcanebjmfaaDoor.Walk
namespace Go.Proofs.YtcdfbcanebjmfaaDoor.Walk
set_option linter.unusedVariables false
set_option linter.unusedSimpArgs false
open Go Go.Proofs.YtcdfbcanebjmfaaDoor.Num Go.Proofs.YtcdfbcanebjmfaaDoor.Crc

theorem byte_shift (p l : List Int) (i : Nat) : byteAt (p ++ l) (p.length + i) = byteAt l i := by
  unfold byteAt
  rw [List.getD_eq_getElem?_getD, List.getElem?_append_right (Nat.le_add_right _ _), Nat.add_sub_cancel_left, ← List.getD_eq_getElem?_getD]
theorem vals_shift (p l : List Int) (q x : Nat) : ∀ k, vals (p ++ l) (p.length + q) x k = vals l q x k
  | 0 => rfl
  | k + 1 => by rw [vals, vals, vals_shift p l q x k, Nat.add_assoc, byte_shift]
theorem follows_shift (p l : List Int) (q k : Nat) (h : Follows l q k) : Follows (p ++ l) (p.length + q) k := by
  refine ⟨by rw [List.length_append]; have := h.1; omega, fun i hi => ?_⟩
  rw [Nat.add_assoc, byte_shift]
  exact h.2 i hi
theorem GoodAt.shift {l : List Int} {v n : Nat} (p : List Int) (h : GoodAt l 0 v n) : GoodAt (p ++ l) p.length v n := by
  obtain ⟨h0, h⟩ := h
  have hb := byte_shift p l 0
  rw [Nat.add_zero] at hb
  refine ⟨by rw [List.length_append]; omega, ?_⟩
  rw [hb]
  rcases h with h | ⟨L, m1, mx, h1, h2, h3, h4, h5⟩
  · exact .inl h
  · refine .inr ⟨L, m1, mx, h1, ?_, ?_, ?_, h5⟩
    · exact follows_shift p l _ L h2
    · rw [vals_shift p l (0 + 1)]; exact h3
    · rw [vals_shift p l (0 + 1)]; exact h4
theorem num8 (p T : List Int) (b : Nat) (hb : b < 256) : num (p ++ ((b : Nat) : Int) :: T) (8 * p.length) 8 = b := by
  have h := byte_shift p (((b : Nat) : Int) :: T) 0
  have h2 : byteAt (((b : Nat) : Int) :: T) 0 = b := by simp [byteAt]
  rw [Nat.add_zero, h2] at h
  rw [num_byte _ _ (by rw [h]; exact hb), h]
theorem num16 (p T : List Int) (a b : Nat) (ha : a < 256) (hb : b < 256) : num (p ++ ((a : Nat) : Int) :: ((b : Nat) : Int) :: T) (8 * p.length) 16 = a * 256 + b := by
  rw [show 16 = 8 + 8 from rfl, num_add, num8 _ _ _ ha]
  have e : p ++ ((a : Nat) : Int) :: ((b : Nat) : Int) :: T = (p ++ [((a : Nat) : Int)]) ++ ((b : Nat) : Int) :: T := by simp
  have h := num8 (p ++ [((a : Nat) : Int)]) T b hb
  rw [← e, List.length_append, List.length_singleton, Nat.mul_add] at h
  rw [h]
theorem bs_ok (p T : List Int) (cs sz : Nat) (h1 : 1 ≤ sz) (h2 : sz ≤ 65535) (h : SizeCode cs sz) : bsAt (p ++ (sizeExt cs sz ++ T)) (8 * p.length) cs = some (sz, 8 * (p.length + (sizeExt cs sz).length)) := by
  rcases h with ⟨rfl, h⟩ | rfl | ⟨rfl, rfl⟩ | ⟨h3, h4, rfl⟩ | ⟨h3, h4, rfl⟩
  · have e : sizeExt 6 sz = [((sz - 1 : Nat) : Int)] := rfl
    have hn := num8 p T (sz - 1) (by omega)
    rw [e]
    show (if 8 * p.length + 8 ≤ 8 * (p ++ ((sz - 1 : Nat) : Int) :: T).length then some (num (p ++ ((sz - 1 : Nat) : Int) :: T) (8 * p.length) 8 + 1, 8 * p.length + 8) else none) = _
    rw [hn, if_pos (by simp; omega), show sz - 1 + 1 = sz by omega]
    simp; omega
  · have e : sizeExt 7 sz = [(((sz - 1) / 256 : Nat) : Int), (((sz - 1) % 256 : Nat) : Int)] := rfl
    have hn := num16 p T ((sz - 1) / 256) ((sz - 1) % 256) (by omega) (by omega)
    rw [e]
    show (if 8 * p.length + 16 ≤ 8 * (p ++ (((sz - 1) / 256 : Nat) : Int) :: (((sz - 1) % 256 : Nat) : Int) :: T).length then some ((num (p ++ (((sz - 1) / 256 : Nat) : Int) :: (((sz - 1) % 256 : Nat) : Int) :: T) (8 * p.length) 16 + 1) % 65536, 8 * p.length + 16) else none) = _
    rw [hn, if_pos (by simp; omega), show ((sz - 1) / 256 * 256 + (sz - 1) % 256 + 1) % 65536 = sz by omega]
    simp; omega
  · rfl
  · have e : ∀ z, sizeExt cs z = [] := fun z => by unfold sizeExt; rw [if_neg (by omega), if_neg (by omega)]
    rw [e]
    unfold bsAt
    rw [if_neg (by omega), if_neg (by omega), if_pos h4]
    obtain ⟨d, rfl⟩ : ∃ d, cs = d + 2 := ⟨cs - 2, by omega⟩
    rw [Nat.add_sub_cancel, Nat.pow_add]
    simp; omega
  · have e : ∀ z, sizeExt cs z = [] := fun z => by unfold sizeExt; rw [if_neg (by omega), if_neg (by omega)]
    rw [e]
    unfold bsAt
    rw [if_neg (by omega), if_neg (by omega), if_neg (by omega), if_neg (by omega), if_neg (by omega)]
    obtain ⟨d, rfl⟩ : ∃ d, cs = d + 8 := ⟨cs - 8, by omega⟩
    rw [Nat.add_sub_cancel, Nat.pow_add]
    simp; omega
theorem sr_ok (p T : List Int) (cr rt : Nat) (h2 : rt ≤ 655350) (h3 : 65536 ≤ rt → rt % 10 = 0) (h : RateCode cr rt) : srAt (p ++ (rateExt cr rt ++ T)) (8 * p.length) cr = some (rt, 8 * (p.length + (rateExt cr rt).length)) := by
  rcases h with ⟨h, h1⟩ | ⟨rfl, h, h1⟩ | ⟨rfl, h⟩ | ⟨rfl, h⟩
  · have e : rateExt cr rt = [] := by unfold rateExt; rw [if_neg (by omega), if_neg (by omega), if_neg (by omega)]
    rw [e]
    unfold srAt
    rw [if_pos h, h1]
    simp
  · have e : rateExt 12 rt = [((rt / 1000 : Nat) : Int)] := rfl
    have hn := num8 p T (rt / 1000) (by omega)
    rw [e]
    show (if 8 * p.length + 8 ≤ 8 * (p ++ ((rt / 1000 : Nat) : Int) :: T).length then some (num (p ++ ((rt / 1000 : Nat) : Int) :: T) (8 * p.length) 8 * 1000, 8 * p.length + 8) else none) = _
    rw [hn, if_pos (by simp; omega), show rt / 1000 * 1000 = rt by omega]
    simp; omega
  · have e : rateExt 13 rt = [((rt / 256 : Nat) : Int), ((rt % 256 : Nat) : Int)] := rfl
    have hn := num16 p T (rt / 256) (rt % 256) (by omega) (by omega)
    rw [e]
    show (if 8 * p.length + 16 ≤ 8 * (p ++ ((rt / 256 : Nat) : Int) :: ((rt % 256 : Nat) : Int) :: T).length then some (num (p ++ ((rt / 256 : Nat) : Int) :: ((rt % 256 : Nat) : Int) :: T) (8 * p.length) 16, 8 * p.length + 16) else none) = _
    rw [hn, if_pos (by simp; omega), show rt / 256 * 256 + rt % 256 = rt by omega]
    simp; omega
  · have e : rateExt 14 rt = [((rt / 10 / 256 : Nat) : Int), ((rt / 10 % 256 : Nat) : Int)] := rfl
    have hn := num16 p T (rt / 10 / 256) (rt / 10 % 256) (by omega) (by omega)
    have h4 := h3 h
    rw [e]
    show (if 8 * p.length + 16 ≤ 8 * (p ++ ((rt / 10 / 256 : Nat) : Int) :: ((rt / 10 % 256 : Nat) : Int) :: T).length then some (num (p ++ ((rt / 10 / 256 : Nat) : Int) :: ((rt / 10 % 256 : Nat) : Int) :: T) (8 * p.length) 16 * 10, 8 * p.length + 16) else none) = _
    rw [hn, if_pos (by simp; omega), show (rt / 10 / 256 * 256 + rt / 10 % 256) * 10 = rt by omega]
    simp; omega
/-- A header's bytes, and its sum behind them, are a header of these parts. -/
theorem head_is (vr : Bool) (sz rt asg bt nm cs cr cb : Nat) (T : List Int) (h1 : 1 ≤ sz) (hsz : sz ≤ 65535) (hrt : rt ≤ 655350) (hr10 : 65536 ≤ rt → rt % 10 = 0) (hasg : asg < 11) (hnm : nm < 68719476736)
    (hc : SizeCode cs sz) (hr : RateCode cr rt) (hcb : cb < 8) (hbt : bpsOf cb = some bt) :
    HdrIs (headBytes vr sz rt asg nm cs cr cb ++ up8 (f8 7) 0 (headBytes vr sz rt asg nm cs cr cb) :: T) ⟨!vr, sz, rt, asg, bt, nm⟩ := by
  have hcs15 := hc.lt
  have hcr14 := hr.lt
  have hv : vr.toNat < 2 := by cases vr <;> decide
  obtain ⟨z, hz⟩ : ∃ z, up8 (f8 7) 0 (headBytes vr sz rt asg nm cs cr cb) = z := ⟨_, rfl⟩
  obtain ⟨l, hl⟩ : ∃ l, headBytes vr sz rt asg nm cs cr cb ++ z :: T = l := ⟨_, rfl⟩
  rw [hz, hl]
  have e1 : l = head4 vr cs cr asg cb ++ (coded nm ++ (sizeExt cs sz ++ (rateExt cr rt ++ z :: T))) := by rw [← hl]; simp [headBytes]
  have e2 : l = (head4 vr cs cr asg cb ++ coded nm) ++ (sizeExt cs sz ++ (rateExt cr rt ++ z :: T)) := by rw [e1]; simp
  have e3 : l = (head4 vr cs cr asg cb ++ coded nm ++ sizeExt cs sz) ++ (rateExt cr rt ++ z :: T) := by rw [e1]; simp
  have hlen : 5 ≤ l.length := by rw [e1]; simp [head4, coded_len]; omega
  have b0 : byteAt l 0 = 255 := by rw [e1]; rfl
  have b1 : byteAt l 1 = 248 + vr.toNat := by rw [e1]; simp [head4, byteAt]; omega
  have b2 : byteAt l 2 = cs * 16 + cr := by rw [e1]; simp [head4, byteAt]; omega
  have b3 : byteAt l 3 = asg * 16 + cb * 2 := by rw [e1]; simp [head4, byteAt]; omega
  have n0 : num l 0 14 = 16382 := by
    rw [show 14 = 8 + 6 from rfl, num_add]
    have h1 := num_in l 0 0 8 (by decide)
    have h2 := num_in l 1 0 6 (by decide)
    simp only [Nat.mul_zero, Nat.add_zero, Nat.zero_add, Nat.mul_one, b0, b1] at h1 h2 ⊢
    rw [h1, h2]
    omega
  have n14 : num l 14 1 = 0 := by have h := num_in l 1 6 1 (by decide); rw [show 8 * 1 + 6 = 14 from rfl, b1] at h; rw [h]; omega
  have n15 : num l 15 1 = vr.toNat := by have h := num_in l 1 7 1 (by decide); rw [show 8 * 1 + 7 = 15 from rfl, b1] at h; rw [h]; omega
  have n16 : num l 16 4 = cs := by have h := num_in l 2 0 4 (by decide); rw [show 8 * 2 + 0 = 16 from rfl, b2] at h; rw [h]; omega
  have n20 : num l 20 4 = cr := by have h := num_in l 2 4 4 (by decide); rw [show 8 * 2 + 4 = 20 from rfl, b2] at h; rw [h]; omega
  have n24 : num l 24 4 = asg := by have h := num_in l 3 0 4 (by decide); rw [show 8 * 3 + 0 = 24 from rfl, b3] at h; rw [h]; omega
  have n28 : num l 28 3 = cb := by have h := num_in l 3 4 3 (by decide); rw [show 8 * 3 + 4 = 28 from rfl, b3] at h; rw [h]; omega
  have n31 : num l 31 1 = 0 := by have h := num_in l 3 7 1 (by decide); rw [show 8 * 3 + 7 = 31 from rfl, b3] at h; rw [h]; omega
  have hl4 : (head4 vr cs cr asg cb).length = 4 := rfl
  have hpl : (head4 vr cs cr asg cb ++ coded nm).length = 4 + (more nm + 1) := by rw [List.length_append, hl4, coded_len]
  have hbs := bs_ok (head4 vr cs cr asg cb ++ coded nm) (rateExt cr rt ++ z :: T) cs sz h1 hsz hc
  have hsr := sr_ok (head4 vr cs cr asg cb ++ coded nm ++ sizeExt cs sz) (z :: T) cr rt hrt hr10 hr
  have hlb : headBytes vr sz rt asg nm cs cr cb = head4 vr cs cr asg cb ++ coded nm ++ sizeExt cs sz ++ rateExt cr rt := rfl
  refine ⟨by omega, n0, n14, ?_, by omega, n24.symm, by rw [n24]; exact hasg, by rw [n28]; exact hbt, n31, more nm + 1, 8 * ((head4 vr cs cr asg cb ++ coded nm).length + (sizeExt cs sz).length), 8 * (headBytes vr sz rt asg nm cs cr cb).length, .inr ?_, ?_, ?_, ?_, ?_⟩
  · rw [n15]; cases vr <;> rfl
  · have h := (good_coded nm hnm (sizeExt cs sz ++ (rateExt cr rt ++ z :: T))).shift (head4 vr cs cr asg cb)
    rw [← e1, hl4] at h
    exact h
  · rw [n16, show 32 + 8 * (more nm + 1) = 8 * (head4 vr cs cr asg cb ++ coded nm).length by rw [hpl]; omega]
    rw [← e2] at hbs
    exact hbs
  · rw [n20]
    rw [← e3, List.length_append (bs := sizeExt cs sz)] at hsr
    rw [hsr, hlb, List.length_append (bs := rateExt cr rt), List.length_append (bs := sizeExt cs sz)]
  · rw [Nat.mul_div_cancel_left _ (by decide), ← hl, List.length_append, List.length_cons]; omega
  · rw [Nat.mul_div_cancel_left _ (by decide), ← hl, List.getD_eq_getElem?_getD, List.getElem?_append_right (Nat.le_refl _), Nat.sub_self, List.take_append_of_le_length (Nat.le_refl _), List.take_length, hz]; rfl
/-- A header's parts are told by its bytes. -/
theorem HdrIs.same {l : List Int} {f f' : HF} (h : HdrIs l f) (h' : HdrIs l f') : f = f' := by
  obtain ⟨n, a2, a3, hu, hb, hs, _⟩ := h.ex
  obtain ⟨n', a2', a3', hu', hb', hs', _⟩ := h'.ex
  obtain ⟨e1, rfl⟩ := hu.same hu'
  rw [hb] at hb'
  obtain ⟨e2, rfl⟩ := Prod.mk.inj (Option.some.inj hb')
  rw [hs] at hs'
  obtain ⟨e3, rfl⟩ := Prod.mk.inj (Option.some.inj hs')
  have e4 := Option.some.inj (h.bits.symm.trans h'.bits)
  have e5 := h.fx.trans h'.fx.symm
  have e6 := h.ch.trans h'.ch.symm
  cases f; cases f'
  simp only at e1 e2 e3 e4 e5 e6
  rw [e1, e2, e3, e4, e5, e6]
end Go.Proofs.YtcdfbcanebjmfaaDoor.Walk
