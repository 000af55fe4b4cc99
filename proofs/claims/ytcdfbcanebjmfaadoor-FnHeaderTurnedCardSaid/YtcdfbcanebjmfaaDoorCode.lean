/- What all walks ask of bytes. -/
import Derived.Test.YtcdfbcanebjmfaaDoorProg
import Derived.Test.YtcdfbcanebjmfaaDoorWWords
import Derived.Test.YtcdfbcanebjmfaaDoorStop
import Derived.Lib.Hide
import Derived.KernelRfl
import Derived.WalkLawsBesides
import Derived.WalkSpells
import Derived.Deep.QuietTactic
import Derived.BigQuiet
import Derived.StillTailTactics
import Derived.Laws.CopyOwn
namespace Go.Proofs.YtcdfbcanebjmfaaDoor.Walk
set_option linter.unusedVariables false
set_option linter.unusedSimpArgs false
open Go Go.RowKit Go.Proofs.YtcdfbcanebjmfaaDoorW.PrintWords

theorem infoU8 : (Tryd.prog.info? 5).map (fun i => (i.zero, i.size, i.bytes)) = some (some (.int .u8 0), 1, 1) := by kernel_rfl
theorem sizeU8 : (Tryd.prog.info? 5).map (·.size) = some 1 := by kernel_rfl

end Go.Proofs.YtcdfbcanebjmfaaDoor.Walk
