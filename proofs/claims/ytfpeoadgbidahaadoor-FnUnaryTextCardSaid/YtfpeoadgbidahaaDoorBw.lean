/- bitio.Writer over a bytes.Buffer that the call has made: WriteBits, WriteByte, Align. -/
import Derived.Test.YtfpeoadgbidahaaDoorBuf
import Derived.Test.YtfpeoadgbidahaaDoorNum
import Derived.Test.YtfpeoadgbidahaaDoorCode
import Derived.Outline
namespace Go.Proofs.YtfpeoadgbidahaaDoor.Walk
set_option linter.unusedVariables false
set_option linter.unusedSimpArgs false
open Go Go.RowKit Go.Proofs.YtfpeoadgbidahaaDoorW.PrintWords Go.Proofs.YtfpeoadgbidahaaDoor.Num

/-- What a writer of bits holds: the bytes that are out, the bits that are kept back, and how many these are. -/
structure WS where
  out : List Int
  c : Nat
  nb : Nat
def WS.put (s : WS) (t : Nat) : WS := if s.nb = 7 then ⟨s.out ++ [((2 * s.c + t : Nat) : Int)], 0, 0⟩ else ⟨s.out, 2 * s.c + t, s.nb + 1⟩
def WS.puts (s : WS) (v : Nat) : Nat → WS
  | 0 => s
  | n + 1 => WS.puts (s.put (v / 2 ^ n % 2)) v n
structure WS.Ok (s : WS) : Prop where
  nb : s.nb < 8
  c : s.c < 2 ^ s.nb
theorem WS.Ok.put {s : WS} (h : s.Ok) {t : Nat} (ht : t < 2) : (s.put t).Ok := by
  have h1 := h.nb; have h2 := h.c
  unfold WS.put
  split
  · exact ⟨show 0 < 8 by decide, show 0 < 2 ^ 0 by decide⟩
  · refine ⟨by show s.nb + 1 < 8; omega, ?_⟩
    show 2 * s.c + t < 2 ^ (s.nb + 1)
    rw [Nat.pow_succ]; omega
theorem WS.Ok.c_lt {s : WS} (h : s.Ok) : s.c < 128 := by
  have h1 := h.nb; have h2 := h.c
  exact Nat.lt_of_lt_of_le h2 (Nat.pow_le_pow_right (by decide) (by omega : s.nb ≤ 7))

/-- The writer at block gw, over the buffer at block b. -/
structure Bw (B b gw : Nat) (s : WS) (w : World) : Prop where
  ok : s.Ok
  buf : Buf B b s.out w
  blk : w.heap[gw]? = some (.cells #[.iface 60 (.pointer (some ⟨b, 0, none⟩)), .int .u8 s.c, .int .u8 s.nb] 81 (0, 0))
  base : B ≤ gw
/-- A store into a block that is neither the buffer nor a row of bytes. -/
theorem buf_set {B b gw : Nat} {xs : List Int} {w : World} {cs : Array Value} {T : TypeId} (h : Buf B b xs w) (hg : w.heap[gw]? = some (.cells cs T (0, 0))) (h1 : T ≠ 5) (h2 : T ≠ 57) (i : Nat) (v : Value) :
    Buf B b xs (w.setCell ⟨gw, i, none⟩ v) := by
  obtain ⟨hB, u, lr, hbk, hown, hne⟩ := h
  have hb : b ≠ gw := fun e => by rw [e, hg] at hbk; injection hbk with hbk; injection hbk with _ h3 _; exact h2 h3
  refine ⟨hB, u, lr, (Below.heap_setCell _ _ _ _ hb).trans hbk, ⟨hown.1, ?_⟩, hne⟩
  rcases hown.2 with hn | ⟨g, cap, cur, hv, hbg, hgg, rest⟩
  · exact .inl hn
  · refine .inr ⟨g, cap, cur, hv, hbg, (Below.heap_setCell _ _ _ _ (fun e => ?_)).trans hgg, rest⟩
    rw [e, hg] at hgg; injection hgg with hgg; injection hgg with _ h3 _; exact h1 h3

theorem bit_of_u64 (q : Nat) (h : q < 18446744073709551616) : Go.bits .and .u64 (q : Int) 1 = ((q % 2 : Nat) : Int) := by
  rw [u64_and _ _ (by omega) (by omega) (by decide) (by decide)]
  show ((q &&& (2 ^ 1 - 1) : Nat) : Int) = _
  rw [Nat.and_two_pow_sub_one_eq_mod]
theorem or_bit_u8 (c t : Nat) (hc : c < 128) (ht : t < 2) : Go.bits .or .u8 ((c : Int) * 2) (t : Int) = ((2 * c + t : Nat) : Int) := by
  have key : ∀ c : Fin 128, ∀ t : Fin 2, Go.bits .or .u8 ((c.val : Int) * 2) (t.val : Int) = ((2 * c.val + t.val : Nat) : Int) := by decide +kernel
  exact key ⟨c, hc⟩ ⟨t, ht⟩

set_option maxHeartbeats 1000000 in
set_option maxRecDepth 100000 in
theorem bw_bits (B b gw v n : Nat) (s : WS) (w : World) (h : Bw B b gw s w) (hB : B ≤ w.heap.size) (hv : v < 18446744073709551616) (hn : n ≤ 64) (hlim : s.out.length ≤ 900000) :
    Calls Tryd.prog 34 #[.pointer (some ⟨gw, 0, none⟩), .int .u64 v, .int .u8 n] w fun e w' =>
      e = .returned .nilIface ∧ Bw B b gw (s.puts v n) w' ∧ Below B w w' := by
  have h1 := bufNil b
  have h2 := bufMeth b
  have h4 := bufCall
  have HH := Lib.hid h
  obtain ⟨F, hF⟩ : ∃ F, s.puts v n = F := ⟨_, rfl⟩
  rw [hF]
  have HF := Lib.hid hF
  clear h hF
  go_enter Tryd.func34, Tryd.ntmps34
  go_wp2_with fail
  go_loopw [2] (fun nv wr => ∃ (m : Nat) (u : WS), nv = .int .u8 m ∧ m ≤ n ∧ u.puts v m = F ∧ Bw B b gw u wr ∧ Below B w wr ∧ u.out.length + m ≤ s.out.length + n) (fun nv _ => (intOf nv).toNat)
  case atStart => exact ⟨n, s, rfl, Nat.le_refl _, HF.out, HH.out, Below.refl _ _, Nat.le_refl _⟩
  case round =>
    obtain ⟨m, u, rfl, hm, hp, hbw, hbe, hl⟩ := hrel
    rcases m with _ | k
    · have X := Lib.hid (And.intro hp (And.intro hbw hbe))
      clear hp hbw hbe
      go_wp2_with fail
      go_ret
      exact ⟨rfl, by rw [← X.out.1]; exact X.out.2.1, X.out.2.2⟩
    · obtain ⟨q, hq⟩ : ∃ q, v / 2 ^ k = q := ⟨_, rfl⟩
      have hqv : q < 18446744073709551616 := by rw [← hq]; exact Nat.lt_of_le_of_lt (Nat.div_le_self _ _) hv
      have hqi : (v : Int) / 2 ^ k = (q : Int) := by rw [← hq]; simp
      have hbit := bit_of_u64 q hqv
      obtain ⟨t, ht⟩ : ∃ t, q % 2 = t := ⟨_, rfl⟩
      have ht2 : t < 2 := by omega
      rw [ht] at hbit
      obtain ⟨c, hc⟩ : ∃ c, u.c = c := ⟨_, rfl⟩
      obtain ⟨nb, hnb⟩ : ∃ nb, u.nb = nb := ⟨_, rfl⟩
      have hc128 : c < 128 := by rw [← hc]; exact hbw.ok.c_lt
      have hnb8 : nb < 8 := by rw [← hnb]; exact hbw.ok.nb
      have hor := or_bit_u8 c t hc128 ht2
      obtain ⟨x, hx⟩ : ∃ x, 2 * c + t = x := ⟨_, rfl⟩
      rw [hx] at hor
      have hx256 : x < 256 := by omega
      have HX := Lib.hid hx
      have hblk := hbw.blk
      rw [hc, hnb] at hblk
      have c0 : wr.cell? ⟨gw, 0, none⟩ = some (.iface 60 (.pointer (some ⟨b, 0, none⟩))) := by rw [cell_of_row wr gw 0 _ _ _ hblk]; rfl
      have c1 : wr.cell? ⟨gw, 1, none⟩ = some (.int .u8 c) := by rw [cell_of_row wr gw 1 _ _ _ hblk]; rfl
      have f1 : wr.frozen? ⟨gw, 1, none⟩ = false := by simp [World.frozen?, hblk]
      have f2 : wr.frozen? ⟨gw, 2, none⟩ = false := by simp [World.frozen?, hblk]
      have HP := Lib.hid hp
      have HBW := Lib.hid hbw
      have HBE := Lib.hid hbe
      have HT := Lib.hid (show v / 2 ^ k % 2 = t by rw [hq, ht])
      have HC := Lib.hid hc
      have HNB := Lib.hid hnb
      have HBLK := Lib.hid hblk
      by_cases h7 : nb = 7
      · have c2 : wr.cell? ⟨gw, 2, none⟩ = some (.int .u8 7) := by rw [cell_of_row wr gw 2 _ _ _ hblk, h7]; rfl
        have H7 := Lib.hid h7
        clear hp hbw hbe hq ht hc hnb hblk h7 hx
        go_wp2_with fail
        obtain ⟨W0, hW0⟩ : ∃ W0, (((wr.setCell ⟨gw, 1, none⟩ (.int .u8 x)).setCell ⟨gw, 2, none⟩ (.int .u8 8)).setCell ⟨gw, 1, none⟩ (.int .u8 0)).setCell ⟨gw, 2, none⟩ (.int .u8 0) = W0 := ⟨_, rfl⟩
        have g1 := blk_set (w := wr) HBLK.out 1 (.int .u8 x)
        have g2 := blk_set g1 2 (.int .u8 8)
        have g3 := blk_set g2 1 (.int .u8 0)
        have g4 := blk_set g3 2 (.int .u8 0)
        have hbuf := buf_set (buf_set (buf_set (buf_set HBW.out.buf HBLK.out (by decide) (by decide) 1 (.int .u8 x)) g1 (by decide) (by decide) 2 (.int .u8 8)) g2 (by decide) (by decide) 1 (.int .u8 0)) g3 (by decide) (by decide) 2 (.int .u8 0)
        have hbel : Below B w ((((wr.setCell ⟨gw, 1, none⟩ (.int .u8 x)).setCell ⟨gw, 2, none⟩ (.int .u8 8)).setCell ⟨gw, 1, none⟩ (.int .u8 0)).setCell ⟨gw, 2, none⟩ (.int .u8 0)) :=
          (((HBE.out.setCell (p := ⟨gw, 1, none⟩) HBW.out.base _).setCell (p := ⟨gw, 2, none⟩) HBW.out.base _).setCell (p := ⟨gw, 1, none⟩) HBW.out.base _).setCell (p := ⟨gw, 2, none⟩) HBW.out.base _
        have hsz : wr.heap.size = W0.heap.size := by rw [← hW0]; simp [World.setCell]
        rw [hW0] at g4 hbuf hbel
        rw [hW0, hsz]
        have hg4 : W0.heap[gw]? = some (.cells #[.iface 60 (.pointer (some ⟨b, 0, none⟩)), .int .u8 (0 : Nat), .int .u8 (0 : Nat)] 81 (0, 0)) := by rw [g4]; rfl
        clear g1 g2 g3 g4 hW0 hsz c0 c1 c2 f1 f2
        have hgw : gw < W0.heap.size := Lib.lt_of_heap hg4
        have hb1 : Buf B b u.out (W0.alloc (.cells #[.int .u8 x] 5)) := Lib.IsBuffer.alloc hbuf _
        have hs1 : (W0.alloc (.cells #[.int .u8 x] 5)).cell? ⟨W0.heap.size, 0, none⟩ = some (.int .u8 x) := World.cell?_alloc_at _ _ _ _ rfl
        have hbb := hbuf.lt
        have hl2 : u.out.length ≤ 1000000 := by omega
        have hwr := Tryd.Buffer_Write_any B b (nums .u8 u.out) [.int .u8 x] ⟨W0.heap.size, 0, none⟩ 1 1 (W0.alloc (.cells #[.int .u8 x] 5)) hb1 (Nat.le_trans hbel.size (by simp) |> Nat.le_trans hB) (nums_one u.out) rfl (by simp; omega)
          (fun j v hj => by
            rcases j with _ | j
            · simp at hj; subst hj
              exact hs1
            · simp at hj) (by simp; rfl) (by rw [nums_length]; omega)
        have HG4 := Lib.hid hg4
        have HBEL := Lib.hid (hbel.alloc (Nat.le_trans hB hbel.size) (.cells #[.int .u8 x] 5))
        have HGW := Lib.hid hgw
        have HWR := Lib.hid hwr
        clear hg4 hbel hgw hwr hb1 hs1 hbb hbuf
        refine HWR.out.mono ?_
        rintro e w2 ⟨rfl, hb2, hbe, hk⟩
        have hblk2 : w2.heap[gw]? = some (.cells #[.iface 60 (.pointer (some ⟨b, 0, none⟩)), .int .u8 (0 : Nat), .int .u8 (0 : Nat)] 81 (0, 0)) := by
          refine hk gw _ ((Below.heap_alloc _ _ _ HGW.out).trans HG4.out) (fun e => ?_) (fun c fz e => ?_)
          · injection e with e
            have hbk := HBW.out.buf
            obtain ⟨_, z, lr, hbk, _⟩ := hbk
            rw [← e, HBLK.out] at hbk; injection hbk with hbk; injection hbk with _ h3 _; exact absurd h3 (by decide)
          · injection e with _ h3 _; exact absurd h3 (by decide)
        have X := Lib.hid (And.intro hb2 (And.intro (HBEL.out.trans hbe) hblk2))
        clear hb2 hbe hk hblk2
        go_wp2_with fail
        go_roundw
        case rel =>
          refine ⟨k, u.put t, rfl, by omega, ?_, ⟨HBW.out.ok.put ht2, ?_, ?_, HBW.out.base⟩, X.out.2.1, ?_⟩
          · rw [← HP.out, ← HT.out]; rfl
          · have h := X.out.1
            have e : nums .u8 u.out ++ [Value.int .u8 x] = nums .u8 (u.put t).out := by simp [nums, WS.put, HNB.out, H7.out, HC.out, ← HX.out]
            rw [e] at h; exact h
          · rw [X.out.2.2]; simp [WS.put, HNB.out, H7.out]
          · simp [WS.put, HNB.out, H7.out]; omega
        case measure => simp [intOf]
      · have c2 : wr.cell? ⟨gw, 2, none⟩ = some (.int .u8 nb) := by rw [cell_of_row wr gw 2 _ _ _ hblk]; rfl
        have hb8 : ((nb : Int) + 1 == 8) = false := by simp; omega
        have H7 := Lib.hid h7
        clear hp hbw hbe hq ht hc hnb hblk h7 hx
        go_wp2_with fail
        go_roundw
        case rel =>
          refine ⟨k, u.put t, rfl, by omega, ?_, ⟨HBW.out.ok.put ht2, ?_, ?_, HBW.out.base⟩, ?_, ?_⟩
          · rw [← HP.out, ← HT.out]; rfl
          · have h := buf_set (buf_set HBW.out.buf HBLK.out (by decide) (by decide) 1 (.int .u8 x)) (blk_set (w := wr) HBLK.out 1 (.int .u8 x)) (by decide) (by decide) 2 (.int .u8 ((nb : Int) + 1))
            have e : (u.put t).out = u.out := by simp [WS.put, HNB.out, H7.out]
            rw [e]; exact h
          · rw [blk_set (blk_set (w := wr) HBLK.out 1 (.int .u8 x)) 2 (.int .u8 ((nb : Int) + 1))]
            simp [WS.put, HNB.out, H7.out, HC.out, ← HX.out]
          · exact (HBE.out.setCell (p := ⟨gw, 1, none⟩) HBW.out.base _).setCell (p := ⟨gw, 2, none⟩) HBW.out.base _
          · simp [WS.put, HNB.out, H7.out]; omega
        case measure => simp [intOf]

theorem WS.put_len (s : WS) (t : Nat) : (s.put t).out.length ≤ s.out.length + 1 := by
  unfold WS.put; split <;> simp
theorem WS.puts_len (v : Nat) : ∀ (n : Nat) (s : WS), (s.puts v n).out.length ≤ s.out.length + n
  | 0, s => Nat.le_refl _
  | n + 1, s => by
    have h1 := WS.puts_len v n (s.put (v / 2 ^ n % 2))
    have h2 := s.put_len (v / 2 ^ n % 2)
    rw [WS.puts]; omega
/-- A one in n + m + 1 bits: n noughts, and a one in m + 1 bits. -/
theorem WS.puts_one (m : Nat) : ∀ (n : Nat) (s : WS), s.puts 1 (n + m + 1) = (s.puts 0 n).puts 1 (m + 1)
  | 0, s => by rw [Nat.zero_add]; rfl
  | n + 1, s => by
    have e1 : 1 / 2 ^ (n + m + 1) % 2 = 0 := by
      rw [Nat.div_eq_of_lt (Nat.one_lt_two_pow (by omega))]
    have e0 : 0 / 2 ^ n % 2 = 0 := by rw [Nat.zero_div]
    have e2 : s.puts 0 (n + 1) = (s.put 0).puts 0 n := by
      show (s.put (0 / 2 ^ n % 2)).puts 0 n = _
      rw [e0]
    rw [show n + 1 + m + 1 = (n + m + 1) + 1 by omega, WS.puts, e1, WS.puts_one m n, e2]
def WS.flush (s : WS) : WS := if s.nb = 0 then s else s.puts 0 (8 - s.nb)

set_option maxHeartbeats 1000000 in
set_option maxRecDepth 100000 in
theorem bw_byte (B b gw x : Nat) (s : WS) (w : World) (h : Bw B b gw s w) (hB : B ≤ w.heap.size) (hx : x < 256) (hlim : s.out.length ≤ 900000) :
    Calls Tryd.prog 33 #[.pointer (some ⟨gw, 0, none⟩), .int .u8 x] w fun e w' =>
      e = .returned .nilIface ∧ Bw B b gw (s.puts x 8) w' ∧ Below B w w' := by
  have H := Lib.hid (bw_bits B b gw x 8 s w h hB (by omega) (by omega) hlim)
  clear h
  go_enter Tryd.func33, Tryd.ntmps33
  go_wp2_with fail
  refine H.out.mono ?_
  rintro e w1 ⟨rfl, hb, hbe⟩
  have X := Lib.hid (And.intro hb hbe)
  clear hb hbe
  go_wp2_with fail
  go_ret
  exact ⟨rfl, X.out⟩

set_option maxHeartbeats 1000000 in
set_option maxRecDepth 100000 in
theorem bw_align (B b gw : Nat) (s : WS) (w : World) (h : Bw B b gw s w) (hB : B ≤ w.heap.size) (hlim : s.out.length ≤ 900000) :
    Calls Tryd.prog 26 #[.pointer (some ⟨gw, 0, none⟩)] w fun e w' =>
      (∃ sk : Nat, e = .returned (.tuple #[.int .u8 sk, .nilIface])) ∧ Bw B b gw s.flush w' ∧ Below B w w' := by
  obtain ⟨nb, hnb⟩ : ∃ nb, s.nb = nb := ⟨_, rfl⟩
  have hnb8 := h.ok.nb
  have hblk := h.blk
  unfold WS.flush
  rw [hnb] at hnb8 hblk ⊢
  have c2 : w.cell? ⟨gw, 2, none⟩ = some (.int .u8 nb) := by rw [cell_of_row w gw 2 _ _ _ hblk]; rfl
  by_cases h0 : nb = 0
  · subst h0
    have HH := Lib.hid h
    clear h hblk hnb
    go_enter Tryd.func26, Tryd.ntmps26
    go_wp2_with fail
    go_ret2
    exact ⟨⟨0, rfl⟩, HH.out, Below.refl _ _⟩
  · rw [if_neg h0]
    obtain ⟨d, hd⟩ : ∃ d, 8 - nb = d := ⟨_, rfl⟩
    have H := Lib.hid (bw_bits B b gw 0 d s w h hB (by omega) (by omega) hlim)
    have hsub : (8 : Int) - (nb : Int) = (d : Int) := by omega
    have hd8 : d ≤ 8 := by omega
    have hgt : 0 < nb := by omega
    rw [hd]
    clear h hblk hnb h0 hd
    go_enter Tryd.func26, Tryd.ntmps26
    go_wp2_with fail
    refine H.out.mono ?_
    rintro e w1 ⟨rfl, hb, hbe⟩
    have X := Lib.hid (And.intro hb hbe)
    clear hb hbe
    go_wp2_with fail
    go_ret2
    exact ⟨⟨d, rfl⟩, X.out⟩
end Go.Proofs.YtfpeoadgbidahaaDoor.Walk
