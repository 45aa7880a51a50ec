/-
  DERIVED. GIVEN WITH THE SEED: THE CARDS: each row of YtoejpgjanoideaaGreatDoorRows.lean that lists a variable, with what it lists TIED to the program's text (the seventh form; the later family's looks); each row that meets fmt, with fmt's text TOLD by the authors' own Lean function (tested against real Go, not proved from fmt's source: count such statements apart). THE CARD IS WHAT COUNTS. Prove the row's statement (the work); the ties are given (YtoejpgjanoideaaGreatDoorTie.lean); close each card by the builder's one call (the guide's Derived/Test/ToyasCard.lean, 'card_holds'). Laid BY PROGRAM, IN A SANDBOX (cutbox-door.mjs). By AI agents, Wed Nov 11 2026. No macro, syntax, notation, axiom, sorry.
-/
import Derived.Test.YtoejpgjanoideaaGreatDoorRows
import GoSem.ClaimSeven
namespace Go.Proofs.YtoejpgjanoideaaGreatDoor
namespace Rows

/-- THE TIED CARD OF 'laws.FnGjQueryText'. -/
def fnGjQueryTextCard : Claim7 := { stood := { row := fnGjQueryTextRow, standIns := [], harness := (true, "9f713817a368fd7277ee906fafd38cac0231dfcb9403bc3ad7c09ab894e95620"), looks := true }, kinds := [], alts := [], laidByText := true, laidKinds := [.data, .data, .widerDeep, .widerDeep, .data, .data, .data, .data, .data, .data, .sentinel, .sentinel, .data, .data, .pinned, .pinned, .pinned], laidTests := true, laidLooks := .later }
def FnGjQueryTextCardSaid : Prop := Claim7.holds Tryz.pinned (.plain (OpenSpec.ofChange fnGjQueryTextSpec)) fnGjQueryTextCard

/-- THE TIED CARD OF 'laws.FnGjQueryTilde'. -/
def fnGjQueryTildeCard : Claim7 := { stood := { row := fnGjQueryTildeRow, standIns := [], harness := (true, "9f713817a368fd7277ee906fafd38cac0231dfcb9403bc3ad7c09ab894e95620"), looks := true }, kinds := [], alts := [], laidByText := true, laidKinds := [.data, .data, .widerDeep, .widerDeep, .data, .data, .data, .data, .data, .data, .sentinel, .sentinel, .data, .data, .pinned, .pinned, .pinned], laidTests := true, laidLooks := .later }
def FnGjQueryTildeCardSaid : Prop := Claim7.holds Tryz.pinned (.plain (OpenSpec.ofChange fnGjQueryTildeSpec)) fnGjQueryTildeCard

/-- THE TIED CARD OF 'laws.FnGjReverseTwice'. -/
def fnGjReverseTwiceCard : Claim7 := { stood := { row := fnGjReverseTwiceRow, standIns := [], harness := (true, "9f713817a368fd7277ee906fafd38cac0231dfcb9403bc3ad7c09ab894e95620"), looks := true }, kinds := [], alts := [], laidByText := true, laidKinds := [.data, .data, .widerDeep, .widerDeep, .data, .data, .data, .data, .data, .data, .sentinel, .sentinel, .data, .data, .pinned, .pinned, .pinned], laidTests := true, laidLooks := .later }
def FnGjReverseTwiceCardSaid : Prop := Claim7.holds Tryz.pinned (.plain (OpenSpec.ofChange fnGjReverseTwiceSpec)) fnGjReverseTwiceCard

/-- THE TIED CARD OF 'laws.FnGjEachStop'. -/
def fnGjEachStopCard : Claim7 := { stood := { row := fnGjEachStopRow, standIns := [], harness := (true, "9f713817a368fd7277ee906fafd38cac0231dfcb9403bc3ad7c09ab894e95620"), looks := true }, kinds := [], alts := [], laidByText := true, laidKinds := [.data, .data, .widerDeep, .widerDeep, .data, .data, .data, .data, .data, .data, .sentinel, .sentinel, .data, .data, .pinned, .pinned, .pinned], laidTests := true, laidLooks := .later }
def FnGjEachStopCardSaid : Prop := Claim7.holds Tryz.pinned (.plain (OpenSpec.ofChange fnGjEachStopSpec)) fnGjEachStopCard

/-- THE TIED CARD OF 'laws.FnGjEscapeOften'. -/
def fnGjEscapeOftenCard : Claim7 := { stood := { row := fnGjEscapeOftenRow, standIns := [], harness := (true, "9f713817a368fd7277ee906fafd38cac0231dfcb9403bc3ad7c09ab894e95620"), looks := true }, kinds := [], alts := [], laidByText := true, laidKinds := [.data, .data, .widerDeep, .widerDeep, .data, .data, .data, .data, .data, .data, .sentinel, .sentinel, .data, .data, .pinned, .pinned, .pinned], laidTests := true, laidLooks := .later }
def FnGjEscapeOftenCardSaid : Prop := Claim7.holds Tryz.pinned (.plain (OpenSpec.ofChange fnGjEscapeOftenSpec)) fnGjEscapeOftenCard

/-- THE SECOND FORM's CARD OF 'laws.FnGjQueryText'. -/
def fnGjQueryTextUptoCard : Claim7 := { stood := { row := fnGjQueryTextUptoRow, standIns := [], harness := (true, "9f713817a368fd7277ee906fafd38cac0231dfcb9403bc3ad7c09ab894e95620"), looks := true }, kinds := [], alts := [], laidByText := true, laidKinds := [.data, .data, .widerDeep, .widerDeep, .data, .data, .data, .data, .data, .data, .sentinel, .sentinel, .data, .data, .pinned, .pinned, .pinned], laidTests := true, laidLooks := .later }
def FnGjQueryTextUptoCardSaid : Prop := Claim7.holds Tryz.pinned (.plain (OpenSpec.upto fnGjQueryTextSpec)) fnGjQueryTextUptoCard

/-- THE SECOND FORM's CARD OF 'laws.FnGjQueryTilde'. -/
def fnGjQueryTildeUptoCard : Claim7 := { stood := { row := fnGjQueryTildeUptoRow, standIns := [], harness := (true, "9f713817a368fd7277ee906fafd38cac0231dfcb9403bc3ad7c09ab894e95620"), looks := true }, kinds := [], alts := [], laidByText := true, laidKinds := [.data, .data, .widerDeep, .widerDeep, .data, .data, .data, .data, .data, .data, .sentinel, .sentinel, .data, .data, .pinned, .pinned, .pinned], laidTests := true, laidLooks := .later }
def FnGjQueryTildeUptoCardSaid : Prop := Claim7.holds Tryz.pinned (.plain (OpenSpec.upto fnGjQueryTildeSpec)) fnGjQueryTildeUptoCard

/-- THE SECOND FORM's CARD OF 'laws.FnGjReverseTwice'. -/
def fnGjReverseTwiceUptoCard : Claim7 := { stood := { row := fnGjReverseTwiceUptoRow, standIns := [], harness := (true, "9f713817a368fd7277ee906fafd38cac0231dfcb9403bc3ad7c09ab894e95620"), looks := true }, kinds := [], alts := [], laidByText := true, laidKinds := [.data, .data, .widerDeep, .widerDeep, .data, .data, .data, .data, .data, .data, .sentinel, .sentinel, .data, .data, .pinned, .pinned, .pinned], laidTests := true, laidLooks := .later }
def FnGjReverseTwiceUptoCardSaid : Prop := Claim7.holds Tryz.pinned (.plain (OpenSpec.upto fnGjReverseTwiceSpec)) fnGjReverseTwiceUptoCard

/-- THE SECOND FORM's CARD OF 'laws.FnGjEachStop'. -/
def fnGjEachStopUptoCard : Claim7 := { stood := { row := fnGjEachStopUptoRow, standIns := [], harness := (true, "9f713817a368fd7277ee906fafd38cac0231dfcb9403bc3ad7c09ab894e95620"), looks := true }, kinds := [], alts := [], laidByText := true, laidKinds := [.data, .data, .widerDeep, .widerDeep, .data, .data, .data, .data, .data, .data, .sentinel, .sentinel, .data, .data, .pinned, .pinned, .pinned], laidTests := true, laidLooks := .later }
def FnGjEachStopUptoCardSaid : Prop := Claim7.holds Tryz.pinned (.plain (OpenSpec.upto fnGjEachStopSpec)) fnGjEachStopUptoCard

/-- THE SECOND FORM's CARD OF 'laws.FnGjEscapeOften'. -/
def fnGjEscapeOftenUptoCard : Claim7 := { stood := { row := fnGjEscapeOftenUptoRow, standIns := [], harness := (true, "9f713817a368fd7277ee906fafd38cac0231dfcb9403bc3ad7c09ab894e95620"), looks := true }, kinds := [], alts := [], laidByText := true, laidKinds := [.data, .data, .widerDeep, .widerDeep, .data, .data, .data, .data, .data, .data, .sentinel, .sentinel, .data, .data, .pinned, .pinned, .pinned], laidTests := true, laidLooks := .later }
def FnGjEscapeOftenUptoCardSaid : Prop := Claim7.holds Tryz.pinned (.plain (OpenSpec.upto fnGjEscapeOftenSpec)) fnGjEscapeOftenUptoCard
end Rows
end Go.Proofs.YtoejpgjanoideaaGreatDoor
