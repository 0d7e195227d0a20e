/-
  DERIVED. GIVEN WITH THE SEED: THE CARDS: each row of YtagcmlbpppmbfaaDoorRows.lean that lists a variable, with what it lists TIED to the program's text (the seventh form; the later family's looks); each row that meets fmt, with fmt's text TOLD by the authors' own Lean function (tested against real Go, not proved from fmt's source: count such statements apart). THE CARD IS WHAT COUNTS. Prove the row's statement (the work); the ties are given (YtagcmlbpppmbfaaDoorTie.lean); close each card by the builder's one call (the guide's Derived/Test/ToyasCard.lean, 'card_holds'). Laid BY PROGRAM, IN A SANDBOX (cutbox-door.mjs). By AI agents, Wed Nov 11 2026. No macro, syntax, notation, axiom, sorry.
-/
import Derived.Test.YtagcmlbpppmbfaaDoorRows
import GoSem.ClaimSeven
namespace Go.Proofs.YtagcmlbpppmbfaaDoor
namespace Rows

/-- THE TIED CARD OF 'laws.FnForward'. -/
def fnForwardCard : Claim7 := { stood := { row := fnForwardRow, standIns := [], harness := (true, "775d79d49786878c72dffc445dfcbdfa31c000d9ee96841a325d45a01e7e34e4"), looks := true }, kinds := [], alts := [], laidByText := true, laidKinds := [.sentinel, .sentinel], laidTests := true, laidLooks := .later }
def FnForwardCardSaid : Prop := Claim7.holds Tryd.pinned (.plain (OpenSpec.ofChange fnForwardSpec)) fnForwardCard

/-- THE TIED CARD OF 'laws.FnForwardPlace'. -/
def fnForwardPlaceCard : Claim7 := { stood := { row := fnForwardPlaceRow, standIns := [], harness := (true, "775d79d49786878c72dffc445dfcbdfa31c000d9ee96841a325d45a01e7e34e4"), looks := true }, kinds := [], alts := [], laidByText := true, laidKinds := [.sentinel, .sentinel], laidTests := true, laidLooks := .later }
def FnForwardPlaceCardSaid : Prop := Claim7.holds Tryd.pinned (.plain (OpenSpec.ofChange fnForwardPlaceSpec)) fnForwardPlaceCard

/-- THE TIED CARD OF 'laws.FnReverse'. -/
def fnReverseCard : Claim7 := { stood := { row := fnReverseRow, standIns := [], harness := (true, "775d79d49786878c72dffc445dfcbdfa31c000d9ee96841a325d45a01e7e34e4"), looks := true }, kinds := [], alts := [], laidByText := true, laidKinds := [.sentinel, .sentinel], laidTests := true, laidLooks := .later }
def FnReverseCardSaid : Prop := Claim7.holds Tryd.pinned (.plain (OpenSpec.ofChange fnReverseSpec)) fnReverseCard

/-- THE TIED CARD OF 'laws.FnStreamBack'. -/
def fnStreamBackCard : Claim7 := { stood := { row := fnStreamBackRow, standIns := [], harness := (true, "775d79d49786878c72dffc445dfcbdfa31c000d9ee96841a325d45a01e7e34e4"), looks := true }, kinds := [], alts := [], laidByText := true, laidKinds := [.sentinel, .sentinel], laidTests := true, laidLooks := .later }
def FnStreamBackCardSaid : Prop := Claim7.holds Tryd.pinned (.plain (OpenSpec.ofChange fnStreamBackSpec)) fnStreamBackCard

/-- THE TIED CARD OF 'laws.FnFetched'. -/
def fnFetchedCard : Claim7 := { stood := { row := fnFetchedRow, standIns := [], harness := (true, "775d79d49786878c72dffc445dfcbdfa31c000d9ee96841a325d45a01e7e34e4"), looks := true }, kinds := [], alts := [], laidByText := true, laidKinds := [.sentinel, .sentinel], laidTests := true, laidLooks := .later }
def FnFetchedCardSaid : Prop := Claim7.holds Tryd.pinned (.plain (OpenSpec.ofChange fnFetchedSpec)) fnFetchedCard

/-- THE SECOND FORM's CARD OF 'laws.FnForward'. -/
def fnForwardUptoCard : Claim7 := { stood := { row := fnForwardUptoRow, standIns := [], harness := (true, "775d79d49786878c72dffc445dfcbdfa31c000d9ee96841a325d45a01e7e34e4"), looks := true }, kinds := [], alts := [], laidByText := true, laidKinds := [.sentinel, .sentinel], laidTests := true, laidLooks := .later }
def FnForwardUptoCardSaid : Prop := Claim7.holds Tryd.pinned (.plain (OpenSpec.upto fnForwardSpec)) fnForwardUptoCard

/-- THE SECOND FORM's CARD OF 'laws.FnForwardPlace'. -/
def fnForwardPlaceUptoCard : Claim7 := { stood := { row := fnForwardPlaceUptoRow, standIns := [], harness := (true, "775d79d49786878c72dffc445dfcbdfa31c000d9ee96841a325d45a01e7e34e4"), looks := true }, kinds := [], alts := [], laidByText := true, laidKinds := [.sentinel, .sentinel], laidTests := true, laidLooks := .later }
def FnForwardPlaceUptoCardSaid : Prop := Claim7.holds Tryd.pinned (.plain (OpenSpec.upto fnForwardPlaceSpec)) fnForwardPlaceUptoCard

/-- THE SECOND FORM's CARD OF 'laws.FnReverse'. -/
def fnReverseUptoCard : Claim7 := { stood := { row := fnReverseUptoRow, standIns := [], harness := (true, "775d79d49786878c72dffc445dfcbdfa31c000d9ee96841a325d45a01e7e34e4"), looks := true }, kinds := [], alts := [], laidByText := true, laidKinds := [.sentinel, .sentinel], laidTests := true, laidLooks := .later }
def FnReverseUptoCardSaid : Prop := Claim7.holds Tryd.pinned (.plain (OpenSpec.upto fnReverseSpec)) fnReverseUptoCard

/-- THE SECOND FORM's CARD OF 'laws.FnStreamBack'. -/
def fnStreamBackUptoCard : Claim7 := { stood := { row := fnStreamBackUptoRow, standIns := [], harness := (true, "775d79d49786878c72dffc445dfcbdfa31c000d9ee96841a325d45a01e7e34e4"), looks := true }, kinds := [], alts := [], laidByText := true, laidKinds := [.sentinel, .sentinel], laidTests := true, laidLooks := .later }
def FnStreamBackUptoCardSaid : Prop := Claim7.holds Tryd.pinned (.plain (OpenSpec.upto fnStreamBackSpec)) fnStreamBackUptoCard

/-- THE SECOND FORM's CARD OF 'laws.FnFetched'. -/
def fnFetchedUptoCard : Claim7 := { stood := { row := fnFetchedUptoRow, standIns := [], harness := (true, "775d79d49786878c72dffc445dfcbdfa31c000d9ee96841a325d45a01e7e34e4"), looks := true }, kinds := [], alts := [], laidByText := true, laidKinds := [.sentinel, .sentinel], laidTests := true, laidLooks := .later }
def FnFetchedUptoCardSaid : Prop := Claim7.holds Tryd.pinned (.plain (OpenSpec.upto fnFetchedSpec)) fnFetchedUptoCard
end Rows
end Go.Proofs.YtagcmlbpppmbfaaDoor
