/- What all walks ask of bytes; impl.code. -/
import Derived.Test.YtfpeoadgbidahaaDoorProg
import Derived.Test.YtfpeoadgbidahaaDoorWWords
import Derived.Test.YtfpeoadgbidahaaDoorStop
import Derived.Lib.Hide
import Derived.KernelRfl
import Derived.WalkLawsBesides
import Derived.WalkSpells
import Derived.Deep.QuietTactic
import Derived.BigQuiet
import Derived.StillTailTactics
import Derived.Laws.CopyOwn
namespace Go.Proofs.YtfpeoadgbidahaaDoor.Walk
set_option linter.unusedVariables false
set_option linter.unusedSimpArgs false
open Go Go.RowKit Go.Proofs.YtfpeoadgbidahaaDoorW.PrintWords

theorem infoU8 : (Tryd.prog.info? 5).map (fun i => (i.zero, i.size, i.bytes)) = some (some (.int .u8 0), 1, 1) := by kernel_rfl
theorem sizeU8 : (Tryd.prog.info? 5).map (·.size) = some 1 := by kernel_rfl

/-- Whether a call told an error. -/
theorem code_err (a : Addr) (w : World) : Calls Tryd.prog 23 #[.iface 85 (.pointer (some a))] w fun e w' => e = .returned (.int .i64 1) ∧ w' = w := by
  go_enter Tryd.func23, Tryd.ntmps23
  go_wp2_with fail
  go_ret
  exact ⟨rfl, rfl⟩
theorem code_good (w : World) : Calls Tryd.prog 23 #[.nilIface] w fun e w' => e = .returned (.int .i64 0) ∧ w' = w := by
  go_enter Tryd.func23, Tryd.ntmps23
  go_wp2_with fail
  go_ret
  exact ⟨rfl, rfl⟩

end Go.Proofs.YtfpeoadgbidahaaDoor.Walk
