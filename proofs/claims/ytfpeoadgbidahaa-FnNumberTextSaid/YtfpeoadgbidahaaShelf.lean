/-
  DERIVED: THE SHELF's CONTRACTS AT THIS DUMP, IN PLAIN WORDS (tools/lay-plain.mjs out of 'TryShelf.lean', which tools/lay-shelf.mjs wrote): THE SAME DECLARATIONS UNDER THE SAME NAMES: 'import', 'namespace', 'open', 'def', 'theorem' AND NOTHING ELSE: no command of the shelf's: FOR A HAND-IN. Each laying: the table of numbers ('.._ren') and one theorem, a field a fact of the dump's own or the kernel's comparison; each contract: ONE APPLICATION.
-/
import Derived.Shelf.LaysM
import Derived.Shelf.Bytes.Bytes
import Derived.Shelf.Bytes.WriteAny
import Derived.Test.YtfpeoadgbidahaaProg
namespace Go.Proofs
open Go.Shelf
def Try.laysM183_ren : Go.Shelf.Ren := ⟨fun | 183 => 7 | n => n, fun | 130 => 35 | 37 => 23 | 0 => 0 | 93 => 31 | 3 => 3 | 5 => 5 | 91 => 29 | n => n, fun | n => n⟩
theorem Try.laysM183 : Go.Proofs.LaysM.n183 Try.prog Try.laysM183_ren := {
  mixed := by kernel_rfl
  f183 := Try.func7.trans (congrArg some (by kernel_rfl))
  t0 := Try.underlying0
  a0 := Try.isAgg0
  z0 := Try.sizeOf0
  v0 := Try.zeroValue0
  t3 := Try.underlying3
  a3 := Try.isAgg3
  z3 := Try.sizeOf3
  v3 := Try.zeroValue3
  t37 := Try.underlying23
  a37 := Try.isAgg23
  z37 := Try.sizeOf23
  v37 := Try.zeroValue23
  t93 := Try.underlying31
  a93 := Try.isAgg31
  z93 := Try.sizeOf31
  v93 := Try.zeroValue31
  t130 := Try.underlying35
  a130 := Try.isAgg35
  z130 := Try.sizeOf35
  v130 := Try.zeroValue35
  t5 := Try.underlying5
  a5 := Try.isAgg5
  z5 := Try.sizeOf5
  v5 := Try.zeroValue5
  t91 := Try.underlying29
  a91 := Try.isAgg29
  z91 := Try.sizeOf29
  v91 := Try.zeroValue29
  i0 := by kernel_rfl
  i3 := by kernel_rfl
  i5 := by kernel_rfl
  i37 := by kernel_rfl
  i91 := by kernel_rfl
  i93 := by kernel_rfl
  i130 := by kernel_rfl }
open Go.RowKit in
theorem Try.Buffer_Bytes (B b : Nat) (bs : List Value) (w : World) (h : Lib.IsBuffer 31 5 B b bs w) :
    Calls Try.prog 7 #[.pointer (some ⟨b, 0, none⟩)] w fun e w' => ∃ v, e = .returned v ∧ w'.ownsRow B 5 1 v bs.length bs ∧ ∃ n, w' = w.drewN n := Any.Buffer_Bytes Try.laysM183 B b bs w h
def Try.laysM180_ren : Go.Shelf.Ren := ⟨fun | 180 => 27 | 251 => 28 | 252 => 29 | 181 => 30 | 184 => 25 | 290 => 31 | 324 => 32 | n => n, fun | 130 => 35 | 37 => 23 | 3 => 3 | 75 => 33 | 0 => 0 | 93 => 31 | 91 => 29 | 131 => 61 | 4 => 4 | 20 => 20 | 5 => 5 | 80 => 45 | 9 => 9 | n => n, fun | 14 => 0 | n => n⟩
theorem Try.laysM180 : Go.Proofs.LaysM.n180 Try.prog Try.laysM180_ren := {
  mixed := by kernel_rfl
  f180 := Try.func27.trans (congrArg some (by kernel_rfl))
  f181 := Try.func30.trans (congrArg some (by kernel_rfl))
  f184 := Try.func25.trans (congrArg some (by kernel_rfl))
  f251 := Try.func28.trans (congrArg some (by kernel_rfl))
  f252 := Try.func29.trans (congrArg some (by kernel_rfl))
  f290 := Try.func31.trans (congrArg some (by kernel_rfl))
  f324 := Try.func32.trans (congrArg some (by kernel_rfl))
  t0 := Try.underlying0
  a0 := Try.isAgg0
  z0 := Try.sizeOf0
  v0 := Try.zeroValue0
  t3 := Try.underlying3
  a3 := Try.isAgg3
  z3 := Try.sizeOf3
  v3 := Try.zeroValue3
  t4 := Try.underlying4
  a4 := Try.isAgg4
  z4 := Try.sizeOf4
  v4 := Try.zeroValue4
  t20 := Try.underlying20
  a20 := Try.isAgg20
  z20 := Try.sizeOf20
  v20 := Try.zeroValue20
  t37 := Try.underlying23
  a37 := Try.isAgg23
  z37 := Try.sizeOf23
  v37 := Try.zeroValue23
  t75 := Try.underlying33
  a75 := Try.isAgg33
  z75 := Try.sizeOf33
  v75 := Try.zeroValue33
  t91 := Try.underlying29
  a91 := Try.isAgg29
  z91 := Try.sizeOf29
  v91 := Try.zeroValue29
  t93 := Try.underlying31
  a93 := Try.isAgg31
  z93 := Try.sizeOf31
  v93 := Try.zeroValue31
  t130 := Try.underlying35
  a130 := Try.isAgg35
  z130 := Try.sizeOf35
  v130 := Try.zeroValue35
  t131 := Try.underlying61
  a131 := Try.isAgg61
  z131 := Try.sizeOf61
  v131 := Try.zeroValue61
  g14 := by kernel_rfl
  t5 := Try.underlying5
  a5 := Try.isAgg5
  z5 := Try.sizeOf5
  v5 := Try.zeroValue5
  t9 := Try.underlying9
  a9 := Try.isAgg9
  z9 := Try.sizeOf9
  v9 := Try.zeroValue9
  t80 := Try.underlying45
  a80 := Try.isAgg45
  z80 := Try.sizeOf45
  v80 := Try.zeroValue45
  i0 := by kernel_rfl
  i3 := by kernel_rfl
  i4 := by kernel_rfl
  i5 := by kernel_rfl
  i9 := by kernel_rfl
  i20 := by kernel_rfl
  i37 := by kernel_rfl
  i75 := by kernel_rfl
  i80 := by kernel_rfl
  i91 := by kernel_rfl
  i93 := by kernel_rfl
  i130 := by kernel_rfl
  i131 := by kernel_rfl
  m14 := by kernel_rfl }
open Go.RowKit in
theorem Try.Buffer_Write_any (B b : Nat) (bs cs : List Value) (a : Addr) (n c : Nat) (w : World) (h : Lib.IsBuffer 31 5 B b bs w) (hBw : B ≤ w.heap.size) (h1 : ∀ v ∈ bs, v.oneCell' = true) (hn : cs.length = n) (hab : a.block ≠ b) (hsrc : ∀ j v, cs[j]? = some v → w.cell? (a.add j) = some v) (h1c : ∀ v ∈ cs, v.oneCell' = true) (hlim : bs.length + n ≤ 140737488355328) :
    Calls Try.prog 27 #[.pointer (some ⟨b, 0, none⟩), .slice (some a) n c] w fun e w' => e = .returned (.tuple #[.int .i64 n, .nilIface]) ∧ Lib.IsBuffer 31 5 B b (bs ++ cs) w' ∧ Below B w w' ∧ Lib.OthersKept 5 (some b) w w' := Any.Buffer_Write_any Try.laysM180 B b bs cs a n c w h hBw h1 hn hab hsrc h1c hlim
end Go.Proofs
