/- Small words for a walk that is driven by hand: it stops at the operation that writes a named slot. -/
import Derived.Test.YtcdfbcanebjmfaaDoorWWords
import Derived.Test.YtcdfbcanebjmfaaDoorWGuard
import Derived.WalkKit
namespace Go.Proofs.YtcdfbcanebjmfaaDoor.Walk
open Go Go.RowKit
def Stop (p : Prop) : Prop := p
theorem unstop {p : Prop} (h : p) : Stop p := h
section
variable {P : Program} {ops : Array Oper} {rest : List Oper} {o : Oper} {a : Act} {Q : Exit → Act → World → Prop} {W : World}
/-- In 'go_wp2_with (with_reducible refine stop_dst (N := 17) rfl ?_)': the walk stands at the operation that writes slot 17. Behind it: 'refine unstop ?_'. -/
theorem stop_dst {N : Tmp} (_h : o.dst = some N) (h : Stop (wpList P ops Q (o :: rest) a W)) : wpList P ops Q (o :: rest) a W := h
end
end Go.Proofs.YtcdfbcanebjmfaaDoor.Walk
