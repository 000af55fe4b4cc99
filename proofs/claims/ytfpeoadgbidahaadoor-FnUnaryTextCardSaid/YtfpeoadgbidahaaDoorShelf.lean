/-
  DERIVED: THE SHELF's CONTRACTS AT THIS DUMP, IN PLAIN WORDS (tools/lay-plain.mjs out of 'TrydShelf.lean', which tools/lay-shelf.mjs wrote): THE SAME DECLARATIONS UNDER THE SAME NAMES: 'import', 'namespace', 'open', 'def', 'theorem' AND NOTHING ELSE: no command of the shelf's: FOR A HAND-IN. Each laying: the table of numbers ('.._ren') and one theorem, a field a fact of the dump's own or the kernel's comparison; each contract: ONE APPLICATION.
-/
import Derived.Shelf.LaysM
import Derived.Shelf.Bytes.Bytes
import Derived.Shelf.Bytes.WriteAny
import Derived.Test.YtfpeoadgbidahaaDoorProg
namespace Go.Proofs
open Go.Shelf
def Tryd.laysM183_ren : Go.Shelf.Ren := ⟨fun | 183 => 27 | n => n, fun | 130 => 60 | 37 => 22 | 0 => 0 | 93 => 57 | 3 => 3 | 5 => 5 | 91 => 55 | n => n, fun | n => n⟩
theorem Tryd.laysM183 : Go.Proofs.LaysM.n183 Tryd.prog Tryd.laysM183_ren := {
  mixed := by kernel_rfl
  f183 := Tryd.func27.trans (congrArg some (by kernel_rfl))
  t0 := Tryd.underlying0
  a0 := Tryd.isAgg0
  z0 := Tryd.sizeOf0
  v0 := Tryd.zeroValue0
  t3 := Tryd.underlying3
  a3 := Tryd.isAgg3
  z3 := Tryd.sizeOf3
  v3 := Tryd.zeroValue3
  t37 := Tryd.underlying22
  a37 := Tryd.isAgg22
  z37 := Tryd.sizeOf22
  v37 := Tryd.zeroValue22
  t93 := Tryd.underlying57
  a93 := Tryd.isAgg57
  z93 := Tryd.sizeOf57
  v93 := Tryd.zeroValue57
  t130 := Tryd.underlying60
  a130 := Tryd.isAgg60
  z130 := Tryd.sizeOf60
  v130 := Tryd.zeroValue60
  t5 := Tryd.underlying5
  a5 := Tryd.isAgg5
  z5 := Tryd.sizeOf5
  v5 := Tryd.zeroValue5
  t91 := Tryd.underlying55
  a91 := Tryd.isAgg55
  z91 := Tryd.sizeOf55
  v91 := Tryd.zeroValue55
  i0 := by kernel_rfl
  i3 := by kernel_rfl
  i5 := by kernel_rfl
  i37 := by kernel_rfl
  i91 := by kernel_rfl
  i93 := by kernel_rfl
  i130 := by kernel_rfl }
open Go.RowKit in
theorem Tryd.Buffer_Bytes (B b : Nat) (bs : List Value) (w : World) (h : Lib.IsBuffer 57 5 B b bs w) :
    Calls Tryd.prog 27 #[.pointer (some ⟨b, 0, none⟩)] w fun e w' => ∃ v, e = .returned v ∧ w'.ownsRow B 5 1 v bs.length bs ∧ ∃ n, w' = w.drewN n := Any.Buffer_Bytes Tryd.laysM183 B b bs w h
def Tryd.laysM180_ren : Go.Shelf.Ren := ⟨fun | 180 => 58 | 251 => 60 | 252 => 61 | 181 => 62 | 184 => 56 | 290 => 63 | 324 => 64 | n => n, fun | 130 => 60 | 37 => 22 | 3 => 3 | 75 => 45 | 0 => 0 | 93 => 57 | 91 => 55 | 131 => 108 | 4 => 4 | 20 => 20 | 5 => 5 | 80 => 91 | 9 => 9 | n => n, fun | 14 => 3 | n => n⟩
theorem Tryd.laysM180 : Go.Proofs.LaysM.n180 Tryd.prog Tryd.laysM180_ren := {
  mixed := by kernel_rfl
  f180 := Tryd.func58.trans (congrArg some (by kernel_rfl))
  f181 := Tryd.func62.trans (congrArg some (by kernel_rfl))
  f184 := Tryd.func56.trans (congrArg some (by kernel_rfl))
  f251 := Tryd.func60.trans (congrArg some (by kernel_rfl))
  f252 := Tryd.func61.trans (congrArg some (by kernel_rfl))
  f290 := Tryd.func63.trans (congrArg some (by kernel_rfl))
  f324 := Tryd.func64.trans (congrArg some (by kernel_rfl))
  t0 := Tryd.underlying0
  a0 := Tryd.isAgg0
  z0 := Tryd.sizeOf0
  v0 := Tryd.zeroValue0
  t3 := Tryd.underlying3
  a3 := Tryd.isAgg3
  z3 := Tryd.sizeOf3
  v3 := Tryd.zeroValue3
  t4 := Tryd.underlying4
  a4 := Tryd.isAgg4
  z4 := Tryd.sizeOf4
  v4 := Tryd.zeroValue4
  t20 := Tryd.underlying20
  a20 := Tryd.isAgg20
  z20 := Tryd.sizeOf20
  v20 := Tryd.zeroValue20
  t37 := Tryd.underlying22
  a37 := Tryd.isAgg22
  z37 := Tryd.sizeOf22
  v37 := Tryd.zeroValue22
  t75 := Tryd.underlying45
  a75 := Tryd.isAgg45
  z75 := Tryd.sizeOf45
  v75 := Tryd.zeroValue45
  t91 := Tryd.underlying55
  a91 := Tryd.isAgg55
  z91 := Tryd.sizeOf55
  v91 := Tryd.zeroValue55
  t93 := Tryd.underlying57
  a93 := Tryd.isAgg57
  z93 := Tryd.sizeOf57
  v93 := Tryd.zeroValue57
  t130 := Tryd.underlying60
  a130 := Tryd.isAgg60
  z130 := Tryd.sizeOf60
  v130 := Tryd.zeroValue60
  t131 := Tryd.underlying108
  a131 := Tryd.isAgg108
  z131 := Tryd.sizeOf108
  v131 := Tryd.zeroValue108
  g14 := by kernel_rfl
  t5 := Tryd.underlying5
  a5 := Tryd.isAgg5
  z5 := Tryd.sizeOf5
  v5 := Tryd.zeroValue5
  t9 := Tryd.underlying9
  a9 := Tryd.isAgg9
  z9 := Tryd.sizeOf9
  v9 := Tryd.zeroValue9
  t80 := Tryd.underlying91
  a80 := Tryd.isAgg91
  z80 := Tryd.sizeOf91
  v80 := Tryd.zeroValue91
  i0 := by kernel_rfl
  i3 := by kernel_rfl
  i4 := by kernel_rfl
  i5 := by kernel_rfl
  i9 := by kernel_rfl
  i20 := by kernel_rfl
  i37 := by kernel_rfl
  i75 := by kernel_rfl
  i80 := by kernel_rfl
  i91 := by kernel_rfl
  i93 := by kernel_rfl
  i130 := by kernel_rfl
  i131 := by kernel_rfl
  m14 := by kernel_rfl }
open Go.RowKit in
theorem Tryd.Buffer_Write_any (B b : Nat) (bs cs : List Value) (a : Addr) (n c : Nat) (w : World) (h : Lib.IsBuffer 57 5 B b bs w) (hBw : B ≤ w.heap.size) (h1 : ∀ v ∈ bs, v.oneCell' = true) (hn : cs.length = n) (hab : a.block ≠ b) (hsrc : ∀ j v, cs[j]? = some v → w.cell? (a.add j) = some v) (h1c : ∀ v ∈ cs, v.oneCell' = true) (hlim : bs.length + n ≤ 140737488355328) :
    Calls Tryd.prog 58 #[.pointer (some ⟨b, 0, none⟩), .slice (some a) n c] w fun e w' => e = .returned (.tuple #[.int .i64 n, .nilIface]) ∧ Lib.IsBuffer 57 5 B b (bs ++ cs) w' ∧ Below B w w' ∧ Lib.OthersKept 5 (some b) w w' := Any.Buffer_Write_any Tryd.laysM180 B b bs cs a n c w h hBw h1 hn hab hsrc h1c hlim
end Go.Proofs
