/-
  DERIVED. GIVEN WITH THE SEED: THE CARDS: each row of YtfpeoadgbidahaaDoorRows.lean that lists a variable, with what it lists TIED to the program's text (the seventh form; the later family's looks); each row that meets fmt, with fmt's text TOLD by the authors' own Lean function (tested against real Go, not proved from fmt's source: count such statements apart). THE CARD IS WHAT COUNTS. Prove the row's statement (the work); the ties are given (YtfpeoadgbidahaaDoorTie.lean); close each card by the builder's one call (the guide's Derived/Test/ToyasCard.lean, 'card_holds'). Laid BY PROGRAM, IN A SANDBOX (cutbox-door.mjs). By AI agents, Wed Nov 11 2026. No macro, syntax, notation, axiom, sorry.
-/
import Derived.Test.YtfpeoadgbidahaaDoorRows
import GoSem.ClaimSeven
namespace Go.Proofs.YtfpeoadgbidahaaDoor
namespace Rows

/-- THE TIED CARD OF 'laws.FnWords'. -/
def fnWordsCard : Claim7 := { stood := { row := fnWordsRow, standIns := [], harness := (true, "73867144d54d58b0fc4bdf8f5890ffbff2cf3072ba3340997e7811c5c1071fa3"), looks := true }, kinds := [], alts := [], laidByText := true, laidKinds := [.sentinel, .sentinel, .sentinel], laidTests := true, laidLooks := .later }
def FnWordsCardSaid : Prop := Claim7.holds Tryd.pinned (.plain (OpenSpec.ofChange fnWordsSpec)) fnWordsCard

/-- THE TIED CARD OF 'laws.FnUnary'. -/
def fnUnaryCard : Claim7 := { stood := { row := fnUnaryRow, standIns := [], harness := (true, "73867144d54d58b0fc4bdf8f5890ffbff2cf3072ba3340997e7811c5c1071fa3"), looks := true }, kinds := [], alts := [], laidByText := true, laidKinds := [.sentinel, .sentinel, .sentinel], laidTests := true, laidLooks := .later }
def FnUnaryCardSaid : Prop := Claim7.holds Tryd.pinned (.plain (OpenSpec.ofChange fnUnarySpec)) fnUnaryCard

/-- THE TIED CARD OF 'laws.FnNumber'. -/
def fnNumberCard : Claim7 := { stood := { row := fnNumberRow, standIns := [], harness := (true, "73867144d54d58b0fc4bdf8f5890ffbff2cf3072ba3340997e7811c5c1071fa3"), looks := true }, kinds := [], alts := [], laidByText := true, laidKinds := [.sentinel, .sentinel, .sentinel], laidTests := true, laidLooks := .later }
def FnNumberCardSaid : Prop := Claim7.holds Tryd.pinned (.plain (OpenSpec.ofChange fnNumberSpec)) fnNumberCard

/-- THE TIED CARD OF 'laws.FnNumberBack'. -/
def fnNumberBackCard : Claim7 := { stood := { row := fnNumberBackRow, standIns := [], harness := (true, "73867144d54d58b0fc4bdf8f5890ffbff2cf3072ba3340997e7811c5c1071fa3"), looks := true }, kinds := [], alts := [], laidByText := true, laidKinds := [.sentinel, .sentinel, .sentinel], laidTests := true, laidLooks := .later }
def FnNumberBackCardSaid : Prop := Claim7.holds Tryd.pinned (.plain (OpenSpec.ofChange fnNumberBackSpec)) fnNumberBackCard

/-- THE TIED CARD OF 'laws.FnUnaryText'. -/
def fnUnaryTextCard : Claim7 := { stood := { row := fnUnaryTextRow, standIns := [], harness := (true, "73867144d54d58b0fc4bdf8f5890ffbff2cf3072ba3340997e7811c5c1071fa3"), looks := true }, kinds := [], alts := [], laidByText := true, laidKinds := [.sentinel, .sentinel, .sentinel], laidTests := true, laidLooks := .later }
def FnUnaryTextCardSaid : Prop := Claim7.holds Tryd.pinned (.plain (OpenSpec.ofChange fnUnaryTextSpec)) fnUnaryTextCard

/-- THE TIED CARD OF 'laws.FnNumberThere'. -/
def fnNumberThereCard : Claim7 := { stood := { row := fnNumberThereRow, standIns := [], harness := (true, "73867144d54d58b0fc4bdf8f5890ffbff2cf3072ba3340997e7811c5c1071fa3"), looks := true }, kinds := [], alts := [], laidByText := true, laidKinds := [.sentinel, .sentinel, .sentinel], laidTests := true, laidLooks := .later }
def FnNumberThereCardSaid : Prop := Claim7.holds Tryd.pinned (.plain (OpenSpec.ofChange fnNumberThereSpec)) fnNumberThereCard

/-- THE SECOND FORM's CARD OF 'laws.FnWords'. -/
def fnWordsUptoCard : Claim7 := { stood := { row := fnWordsUptoRow, standIns := [], harness := (true, "73867144d54d58b0fc4bdf8f5890ffbff2cf3072ba3340997e7811c5c1071fa3"), looks := true }, kinds := [], alts := [], laidByText := true, laidKinds := [.sentinel, .sentinel, .sentinel], laidTests := true, laidLooks := .later }
def FnWordsUptoCardSaid : Prop := Claim7.holds Tryd.pinned (.plain (OpenSpec.upto fnWordsSpec)) fnWordsUptoCard

/-- THE SECOND FORM's CARD OF 'laws.FnUnary'. -/
def fnUnaryUptoCard : Claim7 := { stood := { row := fnUnaryUptoRow, standIns := [], harness := (true, "73867144d54d58b0fc4bdf8f5890ffbff2cf3072ba3340997e7811c5c1071fa3"), looks := true }, kinds := [], alts := [], laidByText := true, laidKinds := [.sentinel, .sentinel, .sentinel], laidTests := true, laidLooks := .later }
def FnUnaryUptoCardSaid : Prop := Claim7.holds Tryd.pinned (.plain (OpenSpec.upto fnUnarySpec)) fnUnaryUptoCard

/-- THE SECOND FORM's CARD OF 'laws.FnNumber'. -/
def fnNumberUptoCard : Claim7 := { stood := { row := fnNumberUptoRow, standIns := [], harness := (true, "73867144d54d58b0fc4bdf8f5890ffbff2cf3072ba3340997e7811c5c1071fa3"), looks := true }, kinds := [], alts := [], laidByText := true, laidKinds := [.sentinel, .sentinel, .sentinel], laidTests := true, laidLooks := .later }
def FnNumberUptoCardSaid : Prop := Claim7.holds Tryd.pinned (.plain (OpenSpec.upto fnNumberSpec)) fnNumberUptoCard

/-- THE SECOND FORM's CARD OF 'laws.FnNumberBack'. -/
def fnNumberBackUptoCard : Claim7 := { stood := { row := fnNumberBackUptoRow, standIns := [], harness := (true, "73867144d54d58b0fc4bdf8f5890ffbff2cf3072ba3340997e7811c5c1071fa3"), looks := true }, kinds := [], alts := [], laidByText := true, laidKinds := [.sentinel, .sentinel, .sentinel], laidTests := true, laidLooks := .later }
def FnNumberBackUptoCardSaid : Prop := Claim7.holds Tryd.pinned (.plain (OpenSpec.upto fnNumberBackSpec)) fnNumberBackUptoCard

/-- THE SECOND FORM's CARD OF 'laws.FnUnaryText'. -/
def fnUnaryTextUptoCard : Claim7 := { stood := { row := fnUnaryTextUptoRow, standIns := [], harness := (true, "73867144d54d58b0fc4bdf8f5890ffbff2cf3072ba3340997e7811c5c1071fa3"), looks := true }, kinds := [], alts := [], laidByText := true, laidKinds := [.sentinel, .sentinel, .sentinel], laidTests := true, laidLooks := .later }
def FnUnaryTextUptoCardSaid : Prop := Claim7.holds Tryd.pinned (.plain (OpenSpec.upto fnUnaryTextSpec)) fnUnaryTextUptoCard

/-- THE SECOND FORM's CARD OF 'laws.FnNumberThere'. -/
def fnNumberThereUptoCard : Claim7 := { stood := { row := fnNumberThereUptoRow, standIns := [], harness := (true, "73867144d54d58b0fc4bdf8f5890ffbff2cf3072ba3340997e7811c5c1071fa3"), looks := true }, kinds := [], alts := [], laidByText := true, laidKinds := [.sentinel, .sentinel, .sentinel], laidTests := true, laidLooks := .later }
def FnNumberThereUptoCardSaid : Prop := Claim7.holds Tryd.pinned (.plain (OpenSpec.upto fnNumberThereSpec)) fnNumberThereUptoCard
end Rows
end Go.Proofs.YtfpeoadgbidahaaDoor
