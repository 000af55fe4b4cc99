/-
  DERIVED. GIVEN WITH THE SEED: THE CARDS: each row of YtcdfbcanebjmfaaDoorRows.lean that lists a variable, with what it lists TIED to the program's text (the seventh form; the later family's looks); each row that meets fmt, with fmt's text TOLD by the authors' own Lean function (tested against real Go, not proved from fmt's source: count such statements apart). THE CARD IS WHAT COUNTS. Prove the row's statement (the work); the ties are given (YtcdfbcanebjmfaaDoorTie.lean); close each card by the builder's one call (the guide's Derived/Test/ToyasCard.lean, 'card_holds'). Laid BY PROGRAM, IN A SANDBOX (cutbox-door.mjs). By AI agents, Wed Nov 11 2026. No macro, syntax, notation, axiom, sorry.
-/
import Derived.Test.YtcdfbcanebjmfaaDoorRows
import GoSem.ClaimSeven
namespace Go.Proofs.YtcdfbcanebjmfaaDoor
namespace Rows

/-- THE TIED CARD OF 'laws.FnHeader'. -/
def fnHeaderCard : Claim7 := { stood := { row := fnHeaderRow, standIns := [], harness := (true, "bdaf1e2caffc8cfdcac97ac0c59d226dad2fd572e336c3037f4afdd9f5003e55"), looks := true }, kinds := [], alts := [], laidByText := true, laidKinds := [.sentinel, .sentinel, .sentinel, .sentinel], laidTests := true, laidLooks := .later }
def FnHeaderCardSaid : Prop := Claim7.holds Tryd.pinned (.plain (OpenSpec.ofChange fnHeaderSpec)) fnHeaderCard

/-- THE TIED CARD OF 'laws.FnHeaderTurned'. -/
def fnHeaderTurnedCard : Claim7 := { stood := { row := fnHeaderTurnedRow, standIns := [], harness := (true, "bdaf1e2caffc8cfdcac97ac0c59d226dad2fd572e336c3037f4afdd9f5003e55"), looks := true }, kinds := [], alts := [], laidByText := true, laidKinds := [.sentinel, .sentinel, .sentinel, .sentinel], laidTests := true, laidLooks := .later }
def FnHeaderTurnedCardSaid : Prop := Claim7.holds Tryd.pinned (.plain (OpenSpec.ofChange fnHeaderTurnedSpec)) fnHeaderTurnedCard

/-- THE SECOND FORM's CARD OF 'laws.FnHeader'. -/
def fnHeaderUptoCard : Claim7 := { stood := { row := fnHeaderUptoRow, standIns := [], harness := (true, "bdaf1e2caffc8cfdcac97ac0c59d226dad2fd572e336c3037f4afdd9f5003e55"), looks := true }, kinds := [], alts := [], laidByText := true, laidKinds := [.sentinel, .sentinel, .sentinel, .sentinel], laidTests := true, laidLooks := .later }
def FnHeaderUptoCardSaid : Prop := Claim7.holds Tryd.pinned (.plain (OpenSpec.upto fnHeaderSpec)) fnHeaderUptoCard

/-- THE SECOND FORM's CARD OF 'laws.FnHeaderTurned'. -/
def fnHeaderTurnedUptoCard : Claim7 := { stood := { row := fnHeaderTurnedUptoRow, standIns := [], harness := (true, "bdaf1e2caffc8cfdcac97ac0c59d226dad2fd572e336c3037f4afdd9f5003e55"), looks := true }, kinds := [], alts := [], laidByText := true, laidKinds := [.sentinel, .sentinel, .sentinel, .sentinel], laidTests := true, laidLooks := .later }
def FnHeaderTurnedUptoCardSaid : Prop := Claim7.holds Tryd.pinned (.plain (OpenSpec.upto fnHeaderTurnedSpec)) fnHeaderTurnedUptoCard
end Rows
end Go.Proofs.YtcdfbcanebjmfaaDoor
