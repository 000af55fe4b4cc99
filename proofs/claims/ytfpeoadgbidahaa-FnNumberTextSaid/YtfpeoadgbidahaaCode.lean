/- What all walks ask of bytes; impl.code. -/
import Derived.Test.YtfpeoadgbidahaaProg
import Derived.Test.YtfpeoadgbidahaaWWords
import Derived.Test.YtfpeoadgbidahaaStop
import Derived.Lib.Hide
import Derived.KernelRfl
import Derived.WalkLawsBesides
import Derived.WalkSpells
import Derived.Deep.QuietTactic
import Derived.BigQuiet
import Derived.StillTailTactics
import Derived.Laws.CopyOwn
namespace Go.Proofs.Ytfpeoadgbidahaa.Walk
set_option linter.unusedVariables false
set_option linter.unusedSimpArgs false
open Go Go.RowKit Go.Proofs.YtfpeoadgbidahaaW.PrintWords

theorem infoU8 : (Try.prog.info? 5).map (fun i => (i.zero, i.size, i.bytes)) = some (some (.int .u8 0), 1, 1) := by kernel_rfl
theorem sizeU8 : (Try.prog.info? 5).map (·.size) = some 1 := by kernel_rfl

/-- Whether a call told an error. -/
theorem code_err (a : Addr) (w : World) : Calls Try.prog 8 #[.iface 65 (.pointer (some a))] w fun e w' => e = .returned (.int .i64 1) ∧ w' = w := by
  go_enter Try.func8, Try.ntmps8
  go_wp2_with fail
  go_ret
  exact ⟨rfl, rfl⟩
theorem code_good (w : World) : Calls Try.prog 8 #[.nilIface] w fun e w' => e = .returned (.int .i64 0) ∧ w' = w := by
  go_enter Try.func8, Try.ntmps8
  go_wp2_with fail
  go_ret
  exact ⟨rfl, rfl⟩

end Go.Proofs.Ytfpeoadgbidahaa.Walk
