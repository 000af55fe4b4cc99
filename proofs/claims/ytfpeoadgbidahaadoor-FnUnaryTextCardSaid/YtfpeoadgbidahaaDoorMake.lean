/- impl.reader: a bits.Reader over a bytes.Reader over a copy of the text. -/
import Derived.Test.YtfpeoadgbidahaaDoorBitsF
namespace Go.Proofs.YtfpeoadgbidahaaDoor.Walk
set_option linter.unusedVariables false
set_option linter.unusedSimpArgs false
open Go Go.RowKit Go.Proofs.YtfpeoadgbidahaaDoorW.PrintWords Go.Proofs.YtfpeoadgbidahaaDoor.Num

set_option maxHeartbeats 400000 in
set_option maxRecDepth 100000 in
theorem newRdr (A : Option Addr) (n c : Nat) (w : World) : Calls Tryd.prog 20 #[.slice A n c] w fun e w' =>
    e = .returned (.pointer (some ⟨w.heap.size, 0, none⟩)) ∧ w' = w.alloc (.cells #[.slice A n c, .int .i64 0, .int .i64 (-1)] 76) := by
  go_enter Tryd.func20, Tryd.ntmps20
  go_wp2
  go_ret
  exact ⟨rfl, rfl⟩
set_option maxHeartbeats 400000 in
set_option maxRecDepth 100000 in
theorem newBits (ty : Nat) (x : Value) (w : World) : Calls Tryd.prog 29 #[.iface ty x] w fun e w' =>
    e = .returned (.pointer (some ⟨w.heap.size, 0, none⟩)) ∧ w' = w.alloc (.cells (.iface ty x :: ((List.replicate 8 (.int .u8 0)) ++ [.int .u8 0, .int .u64 0])).toArray 72) := by
  go_enter Tryd.func29, Tryd.ntmps29
  go_wp2
  go_ret
  exact ⟨rfl, rfl⟩

/-- A bits.Reader, of the call's own, over a bytes.Reader over the bytes l, at its begin. -/
structure Made (w w' : World) (gb gr gd : Nat) (A : Option Addr) (n c : Nat) (l : List Int) : Prop where
  gb0 : w.heap.size ≤ gb
  gr0 : w.heap.size ≤ gr
  gd0 : w.heap.size ≤ gd
  gb1 : gb < w'.heap.size
  gr1 : gr < w'.heap.size
  gd1 : gd < w'.heap.size
  ne1 : gb ∉ [gr, gd]
  ne2 : gd ≠ gr
  blk : ∀ ad, A = some ad → ad.block = gd
  len : l.length = n
  br : Br 49 gr gb l (RdrSt gr A n c l) w' 0
def ReaderMade (l : List Int) (w : World) (e : Ending) (w' : World) : Prop :=
  ∃ (gb gr gd : Nat) (A : Option Addr) (n c : Nat), e = .returned (.pointer (some ⟨gb, 0, none⟩)) ∧ Below w.heap.size w w' ∧ Made w w' gb gr gd A n c l

set_option maxHeartbeats 1000000 in
set_option maxRecDepth 100000 in
theorem mkReader (A : Option Addr) (n c : Nat) (l : List Int) (w : World) (hl : ReadsInt w .u8 A n l) (hc : n ≤ c) (hm : n ≤ 140737488351232) :
    Calls Tryd.prog 17 #[.slice A n c] w (ReaderMade l w) := by
  have HL := Lib.hid hl
  clear hl
  go_enter Tryd.func17, Tryd.ntmps17
  go_wp2_with (with_reducible refine stop_dst (N := 5) rfl ?_)
  refine unstop ?_
  refine print_append_row (w0 := w) w.heap.size rfl (.tmp 3) (.tmp 4) 22 5 .u8 1 rfl Tryd.underlying22 infoU8 (by decide) _ [] l A n c rfl rfl ?aO ?aR ?aB ?aS ?aL ?_
  case aO => exact World.ownsRow_lit (base := w.heap.size) w #[] 0 (Nat.le_refl _) (by unfold maxLen; omega) (by simp)
  case aR => exact HL.out.below (below_alloc (Below.refl _ _) _)
  case aB => exact below_alloc (Below.refl _ _) _
  case aS => simp
  case aL => simp; omega
  intro v1 w1 HO hB hgrow _
  have hsz1 : w.heap.size < w1.heap.size := by have := hgrow.size; simp at this; omega
  clear hgrow
  rw [List.nil_append] at HO
  have hlen : l.length = n := HL.out.1
  have hbase := fun k hk => own_base HO k hk
  have hblk := fun k hk => own_lt HO k hk
  obtain ⟨A1, c1, hv, hR⟩ := own_reads HO
  have hc1 : l.length ≤ c1 := by
    rcases HO.2 with ⟨h0, hn⟩ | ⟨g, cap, cur, h0, _, _, hcap, _⟩
    · rw [hv] at h0; injection h0 with _ _ h3; omega
    · rw [hv] at h0; injection h0 with _ _ h3; omega
  rw [hlen] at hv hR hc1
  subst hv
  have HBB := Lib.hid hB
  have HR := Lib.hid hR
  have HBASE := Lib.hid hbase
  have HBLK := Lib.hid hblk
  have HLEN := Lib.hid hlen
  have HO' := Lib.hid HO
  clear HO hB hR hbase hblk hlen
  go_wp2_with fail
  refine (newRdr A1 n c1 w1).mono ?_
  rintro e w2 ⟨rfl, rfl⟩
  go_wp2_with fail
  refine (newBits _ _ _).mono ?_
  rintro e w3 ⟨rfl, rfl⟩
  go_wp2_with fail
  go_ret
  -- the source's block: that of the row, or any other
  obtain ⟨gd, hgd0, hgdlt, hgd1, hA⟩ : ∃ gd, w.heap.size ≤ gd ∧ gd < w1.heap.size ∧ gd ≠ w1.heap.size ∧ gd ≠ w1.heap.size + 1 ∧ ∀ ad, A1 = some ad → ad.block = gd := by
    rcases A1 with _ | ad
    · exact ⟨w.heap.size, Nat.le_refl _, hsz1, by omega, by omega, fun ad h => by cases h⟩
    · exact ⟨ad.block, HBASE.out _ rfl, HBLK.out _ rfl, by have := HBLK.out _ rfl; omega, by have := HBLK.out _ rfl; omega, fun ad' h => by cases h; rfl⟩
  have hsz := HBB.out.size
  refine ⟨w1.heap.size + 1, w1.heap.size, gd, A1, n, c1, by simp, ?_, ⟨by omega, by omega, hgd0, by simp, by simp; omega, by simp; omega, by simp; exact fun h => hA.1 h.symm, hgd1, hA.2, HLEN.out, ⟨0, 0, 0, List.replicate 8 (.int .u8 0), ?_, by omega, by omega, by omega, fun h => by omega, by simp, ?_⟩⟩⟩
  · exact (HBB.out.alloc (by omega) _).alloc (by simp; omega) _
  · refine ⟨⟨-1, ?_⟩, ?_, hc1, Nat.zero_le _⟩
    · rw [Below.heap_alloc _ _ _ (by simp)]; exact heap_alloc_new w1 _
    · exact (HR.out.below (below_alloc (Below.refl _ _) _)).below (below_alloc (Below.refl _ _) _)
  · have h := heap_alloc_new (w1.alloc (.cells #[.slice A1 n c1, .int .i64 0, .int .i64 (-1)] 76)) (.cells (.iface 49 (.pointer (some ⟨w1.heap.size, 0, none⟩)) :: ((List.replicate 8 (.int .u8 0)) ++ [.int .u8 0, .int .u64 0])).toArray 72)
    simpa [brCells] using h

theorem touch_grown {w w1 : World} {row : Option Nat} (h : w.grownBy w1 row) : Touch row.toList w w1 :=
  ⟨h.os, h.tape, h.output, h.size, fun k hk hn => h.block k hk (fun e => hn (by rw [← e]; simp))⟩
theorem Br.move {ty fn g gb : Nat} {S D : List Nat} {l : List Int} {St : World → Nat → Prop} (R : Src ty fn g S D l St) {w w' : World} {at_ : Nat} (h : Br ty g gb l St w at_) {U : List Nat} (t : Touch U w w')
    (hU : ∀ k ∈ U, k ≠ gb ∧ k ∉ D) : Br ty g gb l St w' at_ := by
  obtain ⟨p, nb, x, buf, hs, h1, h2, h3, h4, h5, hb⟩ := h.ex
  exact ⟨p, nb, x, buf, R.move U w w' p hs (fun k hk => (hU k hk).2) t, h1, h2, h3, h4, h5, t.heap hb (fun hm => (hU _ hm).1 rfl)⟩
theorem Br.le {ty fn g gb : Nat} {S D : List Nat} {l : List Int} {St : World → Nat → Prop} (R : Src ty fn g S D l St) {w : World} {at_ : Nat} (h : Br ty g gb l St w at_) : at_ ≤ 8 * l.length := by
  obtain ⟨p, nb, x, buf, hs, h1, _⟩ := h.ex
  have := R.le w p hs; omega
end Go.Proofs.YtfpeoadgbidahaaDoor.Walk
