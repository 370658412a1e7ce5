/-
  DERIVED. GIVEN WITH THE SEED: THE CARDS: each row of YtjdpmcacnllfpaaDoorRows.lean that lists a variable, with what it lists TIED to the program's text (the seventh form; the later family's looks); each row that meets fmt, with fmt's text TOLD by the authors' own Lean function (tested against real Go, not proved from fmt's source: count such statements apart). THE CARD IS WHAT COUNTS. Prove the row's statement (the work); the ties are given (YtjdpmcacnllfpaaDoorTie.lean); close each card by the builder's one call (the guide's Derived/Test/ToyasCard.lean, 'card_holds'). Laid BY PROGRAM, IN A SANDBOX (cutbox-door.mjs). By AI agents, Wed Nov 11 2026. No macro, syntax, notation, axiom, sorry.
-/
import Derived.Test.YtjdpmcacnllfpaaDoorRows
import GoSem.ClaimSeven
namespace Go.Proofs.YtjdpmcacnllfpaaDoor
namespace Rows

/-- THE TIED CARD OF 'laws.FnCronNumberText'. -/
def fnCronNumberTextCard : Claim7 := { stood := { row := fnCronNumberTextRow, standIns := [], harness := (true, "ad9fb501f55725b4fb856034c776d89b4b87ced592064dffb603474fe9c33dc1"), looks := true }, kinds := [], alts := [], laidByText := true, laidKinds := [.data, .data, .data, .sentinel, .sentinel], laidTests := true, laidLooks := .later }
def FnCronNumberTextCardSaid : Prop := Claim7.holds Tryd.pinned (.plain (OpenSpec.ofChange fnCronNumberTextSpec)) fnCronNumberTextCard

/-- THE TIED CARD OF 'laws.FnCronFieldIn'. -/
def fnCronFieldInCard : Claim7 := { stood := { row := fnCronFieldInRow, standIns := [], harness := (true, "ad9fb501f55725b4fb856034c776d89b4b87ced592064dffb603474fe9c33dc1"), looks := true }, kinds := [], alts := [], laidByText := true, laidKinds := [.data, .data, .data, .sentinel, .sentinel], laidTests := true, laidLooks := .later }
def FnCronFieldInCardSaid : Prop := Claim7.holds Tryd.pinned (.plain (OpenSpec.ofChange fnCronFieldInSpec)) fnCronFieldInCard

/-- THE TIED CARD OF 'laws.FnCronStepToEnd'. -/
def fnCronStepToEndCard : Claim7 := { stood := { row := fnCronStepToEndRow, standIns := [], harness := (true, "ad9fb501f55725b4fb856034c776d89b4b87ced592064dffb603474fe9c33dc1"), looks := true }, kinds := [], alts := [], laidByText := true, laidKinds := [.data, .data, .data, .sentinel, .sentinel], laidTests := true, laidLooks := .later }
def FnCronStepToEndCardSaid : Prop := Claim7.holds Tryd.pinned (.plain (OpenSpec.ofChange fnCronStepToEndSpec)) fnCronStepToEndCard

/-- THE TIED CARD OF 'laws.FnCronItemOfKind'. -/
def fnCronItemOfKindCard : Claim7 := { stood := { row := fnCronItemOfKindRow, standIns := [], harness := (true, "ad9fb501f55725b4fb856034c776d89b4b87ced592064dffb603474fe9c33dc1"), looks := true }, kinds := [], alts := [], laidByText := true, laidKinds := [.data, .data, .data, .sentinel, .sentinel], laidTests := true, laidLooks := .later }
def FnCronItemOfKindCardSaid : Prop := Claim7.holds Tryd.pinned (.plain (OpenSpec.ofChange fnCronItemOfKindSpec)) fnCronItemOfKindCard

/-- THE SECOND FORM's CARD OF 'laws.FnCronNumberText'. -/
def fnCronNumberTextUptoCard : Claim7 := { stood := { row := fnCronNumberTextUptoRow, standIns := [], harness := (true, "ad9fb501f55725b4fb856034c776d89b4b87ced592064dffb603474fe9c33dc1"), looks := true }, kinds := [], alts := [], laidByText := true, laidKinds := [.data, .data, .data, .sentinel, .sentinel], laidTests := true, laidLooks := .later }
def FnCronNumberTextUptoCardSaid : Prop := Claim7.holds Tryd.pinned (.plain (OpenSpec.upto fnCronNumberTextSpec)) fnCronNumberTextUptoCard

/-- THE SECOND FORM's CARD OF 'laws.FnCronFieldIn'. -/
def fnCronFieldInUptoCard : Claim7 := { stood := { row := fnCronFieldInUptoRow, standIns := [], harness := (true, "ad9fb501f55725b4fb856034c776d89b4b87ced592064dffb603474fe9c33dc1"), looks := true }, kinds := [], alts := [], laidByText := true, laidKinds := [.data, .data, .data, .sentinel, .sentinel], laidTests := true, laidLooks := .later }
def FnCronFieldInUptoCardSaid : Prop := Claim7.holds Tryd.pinned (.plain (OpenSpec.upto fnCronFieldInSpec)) fnCronFieldInUptoCard

/-- THE SECOND FORM's CARD OF 'laws.FnCronStepToEnd'. -/
def fnCronStepToEndUptoCard : Claim7 := { stood := { row := fnCronStepToEndUptoRow, standIns := [], harness := (true, "ad9fb501f55725b4fb856034c776d89b4b87ced592064dffb603474fe9c33dc1"), looks := true }, kinds := [], alts := [], laidByText := true, laidKinds := [.data, .data, .data, .sentinel, .sentinel], laidTests := true, laidLooks := .later }
def FnCronStepToEndUptoCardSaid : Prop := Claim7.holds Tryd.pinned (.plain (OpenSpec.upto fnCronStepToEndSpec)) fnCronStepToEndUptoCard

/-- THE SECOND FORM's CARD OF 'laws.FnCronItemOfKind'. -/
def fnCronItemOfKindUptoCard : Claim7 := { stood := { row := fnCronItemOfKindUptoRow, standIns := [], harness := (true, "ad9fb501f55725b4fb856034c776d89b4b87ced592064dffb603474fe9c33dc1"), looks := true }, kinds := [], alts := [], laidByText := true, laidKinds := [.data, .data, .data, .sentinel, .sentinel], laidTests := true, laidLooks := .later }
def FnCronItemOfKindUptoCardSaid : Prop := Claim7.holds Tryd.pinned (.plain (OpenSpec.upto fnCronItemOfKindSpec)) fnCronItemOfKindUptoCard
end Rows
end Go.Proofs.YtjdpmcacnllfpaaDoor
