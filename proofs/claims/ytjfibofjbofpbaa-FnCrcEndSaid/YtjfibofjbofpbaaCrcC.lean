/- The sums of headers and frames as the package reckons them (a table of 256 numbers made anew at each call), as plain functions of the bytes. -/
import Derived.Test.YtjfibofjbofpbaaCrcB
namespace Go.Proofs.Ytjfibofjbofpbaa.Crc
open Go.RowKit Go.Proofs.YtjfibofjbofpbaaW.PrintWords

def crc8 (l : List Int) : Int := up8 (f8 7) 0 l
def crc16 (l : List Int) : Int := up16 (f16 32773) 0 l

set_option maxHeartbeats 400000 in
theorem sumATM (A : Option Addr) (n cap : Nat) (l : List Int) (w : World) (hl : ReadsInt w .u8 A n l) :
    Calls Try.prog 24 #[.slice A n cap] w fun e w' => e = .returned (.int .u8 (crc8 l)) ∧ Below w.heap.size w w' := by
  have HL := Lib.hid hl
  clear hl
  go_enter Try.func24, Try.ntmps24
  go_wp2_with fail
  refine (mk8 _ _).mono ?_
  rintro e w1 ⟨rfl, hb, hs, hg⟩
  have HB := Lib.hid hb
  have HG := Lib.hid hg
  clear hb hs hg
  go_wp2_with fail
  refine (upd8 (f8 7) 0 _ A n cap l w1 (HL.out.below HB.out) HG.out).mono ?_
  rintro e w2 ⟨rfl, rfl⟩
  go_wp2_with fail
  go_ret
  exact ⟨rfl, HB.out⟩

set_option maxHeartbeats 400000 in
theorem sumIBM (A : Option Addr) (n cap : Nat) (l : List Int) (w : World) (hl : ReadsInt w .u8 A n l) (hb0 : ∀ x ∈ l, Byte x) :
    Calls Try.prog 22 #[.slice A n cap] w fun e w' => e = .returned (.int .u16 (crc16 l)) ∧ Below w.heap.size w w' := by
  have HL := Lib.hid hl
  have HB0 := Lib.hid hb0
  clear hl hb0
  go_enter Try.func22, Try.ntmps22
  go_wp2_with fail
  refine (mk16 _ _).mono ?_
  rintro e w1 ⟨rfl, hb, hs, hg⟩
  have HB := Lib.hid hb
  have HG := Lib.hid hg
  clear hb hs hg
  go_wp2_with fail
  refine (upd16 (f16 32773) 0 (by omega) _ A n cap l w1 (HL.out.below HB.out) HB0.out HG.out).mono ?_
  rintro e w2 ⟨rfl, rfl⟩
  go_wp2_with fail
  go_ret
  exact ⟨rfl, HB.out⟩

set_option maxHeartbeats 400000 in
theorem sum8 (A : Option Addr) (n cap : Nat) (l : List Int) (w : World) (hl : ReadsInt w .u8 A n l) :
    Calls Try.prog 17 #[.slice A n cap] w fun e w' => e = .returned (.int .u8 (crc8 l)) ∧ Below w.heap.size w w' := by
  have HL := Lib.hid hl
  clear hl
  go_enter Try.func17, Try.ntmps17
  go_wp2_with fail
  refine (sumATM A n cap l w HL.out).mono ?_
  rintro e w1 ⟨rfl, hb⟩
  have HB := Lib.hid hb
  clear hb
  go_wp2_with fail
  go_ret
  exact ⟨rfl, HB.out⟩

set_option maxHeartbeats 400000 in
theorem sum16 (A : Option Addr) (n cap : Nat) (l : List Int) (w : World) (hl : ReadsInt w .u8 A n l) (hb0 : ∀ x ∈ l, Byte x) :
    Calls Try.prog 15 #[.slice A n cap] w fun e w' => e = .returned (.int .u16 (crc16 l)) ∧ Below w.heap.size w w' := by
  have HL := Lib.hid hl
  have HB0 := Lib.hid hb0
  clear hl hb0
  go_enter Try.func15, Try.ntmps15
  go_wp2_with fail
  refine (sumIBM A n cap l w HL.out HB0.out).mono ?_
  rintro e w1 ⟨rfl, hb⟩
  have HB := Lib.hid hb
  clear hb
  go_wp2_with fail
  go_ret
  exact ⟨rfl, HB.out⟩
end Go.Proofs.Ytjfibofjbofpbaa.Crc
