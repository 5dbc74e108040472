/-
  DERIVED. GIVEN WITH THE SEED: THE CARDS: each row of YtogmacnlpclgkaaDoorRows.lean that lists a variable, with what it lists TIED to the program's text (the seventh form; the later family's looks); each row that meets fmt, with fmt's text TOLD by the authors' own Lean function (tested against real Go, not proved from fmt's source: count such statements apart). THE CARD IS WHAT COUNTS. Prove the row's statement (the work); the ties are given (YtogmacnlpclgkaaDoorTie.lean); close each card by the builder's one call (the guide's Derived/Test/ToyasCard.lean, 'card_holds'). Laid BY PROGRAM, IN A SANDBOX (cutbox-door.mjs). By AI agents, Wed Nov 11 2026. No macro, syntax, notation, axiom, sorry.
-/
import Derived.Test.YtogmacnlpclgkaaDoorRows
import GoSem.ClaimSeven
namespace Go.Proofs.YtogmacnlpclgkaaDoor
namespace Rows

/-- THE TIED CARD OF 'laws.FnHeader'. -/
def fnHeaderCard : Claim7 := { stood := { row := fnHeaderRow, standIns := [], harness := (true, "59fc913065b2ede9d5caa0010520e724d3c07c3a3d9228de2456e40b903ab901"), looks := true }, kinds := [], alts := [], laidByText := true, laidKinds := [.sentinel, .sentinel, .sentinel, .data], laidTests := true, laidLooks := .later }
def FnHeaderCardSaid : Prop := Claim7.holds Tryd.pinned (.plain (OpenSpec.ofChange fnHeaderSpec)) fnHeaderCard

/-- THE TIED CARD OF 'laws.FnSizeIsAsked'. -/
def fnSizeIsAskedCard : Claim7 := { stood := { row := fnSizeIsAskedRow, standIns := [], harness := (true, "59fc913065b2ede9d5caa0010520e724d3c07c3a3d9228de2456e40b903ab901"), looks := true }, kinds := [], alts := [], laidByText := true, laidKinds := [.sentinel, .sentinel, .sentinel, .data, .data, .data], laidTests := true, laidLooks := .later }
def FnSizeIsAskedCardSaid : Prop := Claim7.holds Tryd.pinned (.plain (OpenSpec.ofChange fnSizeIsAskedSpec)) fnSizeIsAskedCard

/-- THE TIED CARD OF 'laws.FnSumIsAsked'. -/
def fnSumIsAskedCard : Claim7 := { stood := { row := fnSumIsAskedRow, standIns := [], harness := (true, "59fc913065b2ede9d5caa0010520e724d3c07c3a3d9228de2456e40b903ab901"), looks := true }, kinds := [], alts := [], laidByText := true, laidKinds := [.sentinel, .sentinel, .sentinel, .data, .data, .data], laidTests := true, laidLooks := .later }
def FnSumIsAskedCardSaid : Prop := Claim7.holds Tryd.pinned (.plain (OpenSpec.ofChange fnSumIsAskedSpec)) fnSumIsAskedCard

/-- THE TIED CARD OF 'laws.FnAnyBytesEnd'. -/
def fnAnyBytesEndCard : Claim7 := { stood := { row := fnAnyBytesEndRow, standIns := [], harness := (true, "59fc913065b2ede9d5caa0010520e724d3c07c3a3d9228de2456e40b903ab901"), looks := true }, kinds := [], alts := [], laidByText := true, laidKinds := [.sentinel, .sentinel, .sentinel, .data, .data, .data], laidTests := true, laidLooks := .later }
def FnAnyBytesEndCardSaid : Prop := Claim7.holds Tryd.pinned (.plain (OpenSpec.ofChange fnAnyBytesEndSpec)) fnAnyBytesEndCard

/-- THE SECOND FORM's CARD OF 'laws.FnHeader'. -/
def fnHeaderUptoCard : Claim7 := { stood := { row := fnHeaderUptoRow, standIns := [], harness := (true, "59fc913065b2ede9d5caa0010520e724d3c07c3a3d9228de2456e40b903ab901"), looks := true }, kinds := [], alts := [], laidByText := true, laidKinds := [.sentinel, .sentinel, .sentinel, .data], laidTests := true, laidLooks := .later }
def FnHeaderUptoCardSaid : Prop := Claim7.holds Tryd.pinned (.plain (OpenSpec.upto fnHeaderSpec)) fnHeaderUptoCard

/-- THE SECOND FORM's CARD OF 'laws.FnSizeIsAsked'. -/
def fnSizeIsAskedUptoCard : Claim7 := { stood := { row := fnSizeIsAskedUptoRow, standIns := [], harness := (true, "59fc913065b2ede9d5caa0010520e724d3c07c3a3d9228de2456e40b903ab901"), looks := true }, kinds := [], alts := [], laidByText := true, laidKinds := [.sentinel, .sentinel, .sentinel, .data, .data, .data], laidTests := true, laidLooks := .later }
def FnSizeIsAskedUptoCardSaid : Prop := Claim7.holds Tryd.pinned (.plain (OpenSpec.upto fnSizeIsAskedSpec)) fnSizeIsAskedUptoCard

/-- THE SECOND FORM's CARD OF 'laws.FnSumIsAsked'. -/
def fnSumIsAskedUptoCard : Claim7 := { stood := { row := fnSumIsAskedUptoRow, standIns := [], harness := (true, "59fc913065b2ede9d5caa0010520e724d3c07c3a3d9228de2456e40b903ab901"), looks := true }, kinds := [], alts := [], laidByText := true, laidKinds := [.sentinel, .sentinel, .sentinel, .data, .data, .data], laidTests := true, laidLooks := .later }
def FnSumIsAskedUptoCardSaid : Prop := Claim7.holds Tryd.pinned (.plain (OpenSpec.upto fnSumIsAskedSpec)) fnSumIsAskedUptoCard

/-- THE SECOND FORM's CARD OF 'laws.FnAnyBytesEnd'. -/
def fnAnyBytesEndUptoCard : Claim7 := { stood := { row := fnAnyBytesEndUptoRow, standIns := [], harness := (true, "59fc913065b2ede9d5caa0010520e724d3c07c3a3d9228de2456e40b903ab901"), looks := true }, kinds := [], alts := [], laidByText := true, laidKinds := [.sentinel, .sentinel, .sentinel, .data, .data, .data], laidTests := true, laidLooks := .later }
def FnAnyBytesEndUptoCardSaid : Prop := Claim7.holds Tryd.pinned (.plain (OpenSpec.upto fnAnyBytesEndSpec)) fnAnyBytesEndUptoCard
end Rows
end Go.Proofs.YtogmacnlpclgkaaDoor
