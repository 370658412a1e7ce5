/-
  DERIVED. GIVEN WITH THE SEED: THE CARDS: each row of YtmnjmhlodbifjaaGreatDoorRows.lean that lists a variable, with what it lists TIED to the program's text (the seventh form; the later family's looks); each row that meets fmt, with fmt's text TOLD by the authors' own Lean function (tested against real Go, not proved from fmt's source: count such statements apart). THE CARD IS WHAT COUNTS. Prove the row's statement (the work); the ties are given (YtmnjmhlodbifjaaGreatDoorTie.lean); close each card by the builder's one call (the guide's Derived/Test/ToyasCard.lean, 'card_holds'). Laid BY PROGRAM, IN A SANDBOX (cutbox-door.mjs). By AI agents, Wed Nov 11 2026. No macro, syntax, notation, axiom, sorry.
-/
import Derived.Test.YtmnjmhlodbifjaaGreatDoorRows
import GoSem.ClaimSeven
namespace Go.Proofs.YtmnjmhlodbifjaaGreatDoor
namespace Rows

/-- THE TIED CARD OF 'laws.FnCronCase'. -/
def fnCronCaseCard : Claim7 := { stood := { row := fnCronCaseRow, standIns := [], harness := (true, "97ea7e567ee8b2f92eef03e33232fe5e0ee5d1f9e2063b9493d577bf9e02a2ae"), looks := true }, kinds := [], alts := [], laidByText := true, laidKinds := [.data, .data, .data, .data, .sentinel, .sentinel, .sentinel, .sentinel, .pinned], laidTests := true, laidLooks := .later }
def FnCronCaseCardSaid : Prop := Claim7.holds Tryz.pinned (.plain (OpenSpec.ofChange fnCronCaseSpec)) fnCronCaseCard

/-- THE TIED CARD OF 'laws.FnCronMonthlyAt'. -/
def fnCronMonthlyAtCard : Claim7 := { stood := { row := fnCronMonthlyAtRow, standIns := [], harness := (true, "97ea7e567ee8b2f92eef03e33232fe5e0ee5d1f9e2063b9493d577bf9e02a2ae"), looks := true }, kinds := [], alts := [], laidByText := true, laidKinds := [.data, .data, .data, .data, .sentinel, .sentinel, .sentinel, .sentinel, .pinned], laidTests := true, laidLooks := .later }
def FnCronMonthlyAtCardSaid : Prop := Claim7.holds Tryz.pinned (.plain (OpenSpec.ofChange fnCronMonthlyAtSpec)) fnCronMonthlyAtCard

/-- THE TIED CARD OF 'laws.FnCronZoned'. -/
def fnCronZonedCard : Claim7 := { stood := { row := fnCronZonedRow, standIns := [], harness := (true, "97ea7e567ee8b2f92eef03e33232fe5e0ee5d1f9e2063b9493d577bf9e02a2ae"), looks := true }, kinds := [], alts := [], laidByText := true, laidKinds := [.data, .data, .data, .data, .sentinel, .sentinel, .sentinel, .sentinel, .pinned], laidTests := true, laidLooks := .later }
def FnCronZonedCardSaid : Prop := Claim7.holds Tryz.pinned (.plain (OpenSpec.ofChange fnCronZonedSpec)) fnCronZonedCard

/-- THE TIED CARD OF 'laws.FnCronTextNext'. -/
def fnCronTextNextCard : Claim7 := { stood := { row := fnCronTextNextRow, standIns := [], harness := (true, "97ea7e567ee8b2f92eef03e33232fe5e0ee5d1f9e2063b9493d577bf9e02a2ae"), looks := true }, kinds := [], alts := [], laidByText := true, laidKinds := [.data, .data, .data, .data, .sentinel, .sentinel, .sentinel, .sentinel, .pinned], laidTests := true, laidLooks := .later }
def FnCronTextNextCardSaid : Prop := Claim7.holds Tryz.pinned (.plain (OpenSpec.ofChange fnCronTextNextSpec)) fnCronTextNextCard

/-- THE SECOND FORM's CARD OF 'laws.FnCronCase'. -/
def fnCronCaseUptoCard : Claim7 := { stood := { row := fnCronCaseUptoRow, standIns := [], harness := (true, "97ea7e567ee8b2f92eef03e33232fe5e0ee5d1f9e2063b9493d577bf9e02a2ae"), looks := true }, kinds := [], alts := [], laidByText := true, laidKinds := [.data, .data, .data, .data, .sentinel, .sentinel, .sentinel, .sentinel, .pinned], laidTests := true, laidLooks := .later }
def FnCronCaseUptoCardSaid : Prop := Claim7.holds Tryz.pinned (.plain (OpenSpec.upto fnCronCaseSpec)) fnCronCaseUptoCard

/-- THE SECOND FORM's CARD OF 'laws.FnCronMonthlyAt'. -/
def fnCronMonthlyAtUptoCard : Claim7 := { stood := { row := fnCronMonthlyAtUptoRow, standIns := [], harness := (true, "97ea7e567ee8b2f92eef03e33232fe5e0ee5d1f9e2063b9493d577bf9e02a2ae"), looks := true }, kinds := [], alts := [], laidByText := true, laidKinds := [.data, .data, .data, .data, .sentinel, .sentinel, .sentinel, .sentinel, .pinned], laidTests := true, laidLooks := .later }
def FnCronMonthlyAtUptoCardSaid : Prop := Claim7.holds Tryz.pinned (.plain (OpenSpec.upto fnCronMonthlyAtSpec)) fnCronMonthlyAtUptoCard

/-- THE SECOND FORM's CARD OF 'laws.FnCronZoned'. -/
def fnCronZonedUptoCard : Claim7 := { stood := { row := fnCronZonedUptoRow, standIns := [], harness := (true, "97ea7e567ee8b2f92eef03e33232fe5e0ee5d1f9e2063b9493d577bf9e02a2ae"), looks := true }, kinds := [], alts := [], laidByText := true, laidKinds := [.data, .data, .data, .data, .sentinel, .sentinel, .sentinel, .sentinel, .pinned], laidTests := true, laidLooks := .later }
def FnCronZonedUptoCardSaid : Prop := Claim7.holds Tryz.pinned (.plain (OpenSpec.upto fnCronZonedSpec)) fnCronZonedUptoCard

/-- THE SECOND FORM's CARD OF 'laws.FnCronTextNext'. -/
def fnCronTextNextUptoCard : Claim7 := { stood := { row := fnCronTextNextUptoRow, standIns := [], harness := (true, "97ea7e567ee8b2f92eef03e33232fe5e0ee5d1f9e2063b9493d577bf9e02a2ae"), looks := true }, kinds := [], alts := [], laidByText := true, laidKinds := [.data, .data, .data, .data, .sentinel, .sentinel, .sentinel, .sentinel, .pinned], laidTests := true, laidLooks := .later }
def FnCronTextNextUptoCardSaid : Prop := Claim7.holds Tryz.pinned (.plain (OpenSpec.upto fnCronTextNextSpec)) fnCronTextNextUptoCard
end Rows
end Go.Proofs.YtmnjmhlodbifjaaGreatDoor
