/- DERIVED: THE SHELF's CONTRACTS AT THIS DUMP, IN PLAIN WORDS (tools/lay-plain.mjs out of 'TryzShelf.lean', which tools/lay-shelf.mjs wrote): THE SAME DECLARATIONS UNDER THE SAME NAMES: 'import', 'namespace', 'open', 'def', 'theorem' AND NOTHING ELSE: no command of the shelf's: FOR A HAND-IN. Each laying: the table of numbers ('.._ren') and one theorem, a field a fact of the dump's own or the kernel's comparison; each contract: ONE APPLICATION. -/
import Derived.Shelf.LaysM
import Derived.Shelf.Bytes.Bytes
import Derived.Shelf.Bytes.WriteAny
import Derived.Test.YtmcllndnjdemaaaGreatDoorProg
namespace Go.Proofs
open Go.Shelf
def Tryz.laysM183_ren : Go.Shelf.Ren := ⟨fun | 183 => 19 | n => n, fun | 130 => 69 | 37 => 23 | 0 => 0 | 93 => 63 | 3 => 3 | 5 => 5 | 91 => 61 | n => n, fun | n => n⟩
theorem Tryz.laysM183 : Go.Proofs.LaysM.n183 Tryz.prog Tryz.laysM183_ren := {
 mixed := by kernel_rfl
 f183 := Tryz.func19.trans (congrArg some (by kernel_rfl))
 t0 := Tryz.underlying0
 a0 := Tryz.isAgg0
 z0 := Tryz.sizeOf0
 v0 := Tryz.zeroValue0
 t3 := Tryz.underlying3
 a3 := Tryz.isAgg3
 z3 := Tryz.sizeOf3
 v3 := Tryz.zeroValue3
 t37 := Tryz.underlying23
 a37 := Tryz.isAgg23
 z37 := Tryz.sizeOf23
 v37 := Tryz.zeroValue23
 t93 := Tryz.underlying63
 a93 := Tryz.isAgg63
 z93 := Tryz.sizeOf63
 v93 := Tryz.zeroValue63
 t130 := Tryz.underlying69
 a130 := Tryz.isAgg69
 z130 := Tryz.sizeOf69
 v130 := Tryz.zeroValue69
 t5 := Tryz.underlying5
 a5 := Tryz.isAgg5
 z5 := Tryz.sizeOf5
 v5 := Tryz.zeroValue5
 t91 := Tryz.underlying61
 a91 := Tryz.isAgg61
 z91 := Tryz.sizeOf61
 v91 := Tryz.zeroValue61
 i0 := by kernel_rfl
 i3 := by kernel_rfl
 i5 := by kernel_rfl
 i37 := by kernel_rfl
 i91 := by kernel_rfl
 i93 := by kernel_rfl
 i130 := by kernel_rfl }
open Go.RowKit in
theorem Tryz.Buffer_Bytes (B b : Nat) (bs : List Value) (w : World) (h : Lib.IsBuffer 63 5 B b bs w) :
  Calls Tryz.prog 19 #[.pointer (some ⟨b, 0, none⟩)] w fun e w' => ∃ v, e = .returned v ∧ w'.ownsRow B 5 1 v bs.length bs ∧ ∃ n, w' = w.drewN n := Any.Buffer_Bytes Tryz.laysM183 B b bs w h
def Tryz.laysM180_ren : Go.Shelf.Ren := ⟨fun | 180 => 155 | 251 => 159 | 252 => 158 | 181 => 160 | 184 => 153 | 290 => 161 | 324 => 162 | n => n, fun | 130 => 69 | 37 => 23 | 3 => 3 | 75 => 66 | 0 => 0 | 93 => 63 | 91 => 61 | 131 => 297 | 4 => 4 | 20 => 20 | 5 => 5 | 80 => 282 | 9 => 9 | n => n, fun | 14 => 6 | n => n⟩
theorem Tryz.laysM180 : Go.Proofs.LaysM.n180 Tryz.prog Tryz.laysM180_ren := {
 mixed := by kernel_rfl
 f180 := Tryz.func155.trans (congrArg some (by kernel_rfl))
 f181 := Tryz.func160.trans (congrArg some (by kernel_rfl))
 f184 := Tryz.func153.trans (congrArg some (by kernel_rfl))
 f251 := Tryz.func159.trans (congrArg some (by kernel_rfl))
 f252 := Tryz.func158.trans (congrArg some (by kernel_rfl))
 f290 := Tryz.func161.trans (congrArg some (by kernel_rfl))
 f324 := Tryz.func162.trans (congrArg some (by kernel_rfl))
 t0 := Tryz.underlying0
 a0 := Tryz.isAgg0
 z0 := Tryz.sizeOf0
 v0 := Tryz.zeroValue0
 t3 := Tryz.underlying3
 a3 := Tryz.isAgg3
 z3 := Tryz.sizeOf3
 v3 := Tryz.zeroValue3
 t4 := Tryz.underlying4
 a4 := Tryz.isAgg4
 z4 := Tryz.sizeOf4
 v4 := Tryz.zeroValue4
 t20 := Tryz.underlying20
 a20 := Tryz.isAgg20
 z20 := Tryz.sizeOf20
 v20 := Tryz.zeroValue20
 t37 := Tryz.underlying23
 a37 := Tryz.isAgg23
 z37 := Tryz.sizeOf23
 v37 := Tryz.zeroValue23
 t75 := Tryz.underlying66
 a75 := Tryz.isAgg66
 z75 := Tryz.sizeOf66
 v75 := Tryz.zeroValue66
 t91 := Tryz.underlying61
 a91 := Tryz.isAgg61
 z91 := Tryz.sizeOf61
 v91 := Tryz.zeroValue61
 t93 := Tryz.underlying63
 a93 := Tryz.isAgg63
 z93 := Tryz.sizeOf63
 v93 := Tryz.zeroValue63
 t130 := Tryz.underlying69
 a130 := Tryz.isAgg69
 z130 := Tryz.sizeOf69
 v130 := Tryz.zeroValue69
 t131 := Tryz.underlying297
 a131 := Tryz.isAgg297
 z131 := Tryz.sizeOf297
 v131 := Tryz.zeroValue297
 g14 := by kernel_rfl
 t5 := Tryz.underlying5
 a5 := Tryz.isAgg5
 z5 := Tryz.sizeOf5
 v5 := Tryz.zeroValue5
 t9 := Tryz.underlying9
 a9 := Tryz.isAgg9
 z9 := Tryz.sizeOf9
 v9 := Tryz.zeroValue9
 t80 := Tryz.underlying282
 a80 := Tryz.isAgg282
 z80 := Tryz.sizeOf282
 v80 := Tryz.zeroValue282
 i0 := by kernel_rfl
 i3 := by kernel_rfl
 i4 := by kernel_rfl
 i5 := by kernel_rfl
 i9 := by kernel_rfl
 i20 := by kernel_rfl
 i37 := by kernel_rfl
 i75 := by kernel_rfl
 i80 := by kernel_rfl
 i91 := by kernel_rfl
 i93 := by kernel_rfl
 i130 := by kernel_rfl
 i131 := by kernel_rfl
 m14 := by kernel_rfl }
open Go.RowKit in
theorem Tryz.Buffer_Write_any (B b : Nat) (bs cs : List Value) (a : Addr) (n c : Nat) (w : World) (h : Lib.IsBuffer 63 5 B b bs w) (hBw : B ≤ w.heap.size) (h1 : ∀ v ∈ bs, v.oneCell' = true) (hn : cs.length = n) (hab : a.block ≠ b) (hsrc : ∀ j v, cs[j]? = some v → w.cell? (a.add j) = some v) (h1c : ∀ v ∈ cs, v.oneCell' = true) (hlim : bs.length + n ≤ 140737488355328) :
  Calls Tryz.prog 155 #[.pointer (some ⟨b, 0, none⟩), .slice (some a) n c] w fun e w' => e = .returned (.tuple #[.int .i64 n, .nilIface]) ∧ Lib.IsBuffer 63 5 B b (bs ++ cs) w' ∧ Below B w w' ∧ Lib.OthersKept 5 (some b) w w' := Any.Buffer_Write_any Tryz.laysM180 B b bs cs a n c w h hBw h1 hn hab hsrc h1c hlim
end Go.Proofs
