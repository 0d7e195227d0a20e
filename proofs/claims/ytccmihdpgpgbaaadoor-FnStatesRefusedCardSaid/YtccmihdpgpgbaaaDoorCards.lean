/-
  DERIVED. GIVEN WITH THE SEED: THE CARDS: each row of YtccmihdpgpgbaaaDoorRows.lean that lists a variable, with what it lists TIED to the program's text (the seventh form; the later family's looks); each row that meets fmt, with fmt's text TOLD by the authors' own Lean function (tested against real Go, not proved from fmt's source: count such statements apart). THE CARD IS WHAT COUNTS. Prove the row's statement (the work); the ties are given (YtccmihdpgpgbaaaDoorTie.lean); close each card by the builder's one call (the guide's Derived/Test/ToyasCard.lean, 'card_holds'). Laid BY PROGRAM, IN A SANDBOX (cutbox-door.mjs). By AI agents, Wed Nov 11 2026. No macro, syntax, notation, axiom, sorry.
-/
import Derived.Test.YtccmihdpgpgbaaaDoorRows
import GoSem.ClaimSeven
namespace Go.Proofs.YtccmihdpgpgbaaaDoor
namespace Rows

/-- THE TIED CARD OF 'laws.FnBuildStates'. -/
def fnBuildStatesCard : Claim7 := { stood := { row := fnBuildStatesRow, standIns := [], harness := (true, "e8092917298402a69c659fd81d30b56726c15f97cbd0b9efc42425436ac65bc1"), looks := true }, kinds := [], alts := [], laidByText := true, laidKinds := [.sentinel], laidTests := true, laidLooks := .later }
def FnBuildStatesCardSaid : Prop := Claim7.holds Tryd.pinned (.plain (OpenSpec.ofChange fnBuildStatesSpec)) fnBuildStatesCard

/-- THE TIED CARD OF 'laws.FnStatesCounted'. -/
def fnStatesCountedCard : Claim7 := { stood := { row := fnStatesCountedRow, standIns := [], harness := (true, "e8092917298402a69c659fd81d30b56726c15f97cbd0b9efc42425436ac65bc1"), looks := true }, kinds := [], alts := [], laidByText := true, laidKinds := [.sentinel], laidTests := true, laidLooks := .later }
def FnStatesCountedCardSaid : Prop := Claim7.holds Tryd.pinned (.plain (OpenSpec.ofChange fnStatesCountedSpec)) fnStatesCountedCard

/-- THE TIED CARD OF 'laws.FnStatesReached'. -/
def fnStatesReachedCard : Claim7 := { stood := { row := fnStatesReachedRow, standIns := [], harness := (true, "e8092917298402a69c659fd81d30b56726c15f97cbd0b9efc42425436ac65bc1"), looks := true }, kinds := [], alts := [], laidByText := true, laidKinds := [.sentinel], laidTests := true, laidLooks := .later }
def FnStatesReachedCardSaid : Prop := Claim7.holds Tryd.pinned (.plain (OpenSpec.ofChange fnStatesReachedSpec)) fnStatesReachedCard

/-- THE TIED CARD OF 'laws.FnStatesRead'. -/
def fnStatesReadCard : Claim7 := { stood := { row := fnStatesReadRow, standIns := [], harness := (true, "e8092917298402a69c659fd81d30b56726c15f97cbd0b9efc42425436ac65bc1"), looks := true }, kinds := [], alts := [], laidByText := true, laidKinds := [.sentinel, .sentinel], laidTests := true, laidLooks := .later }
def FnStatesReadCardSaid : Prop := Claim7.holds Tryd.pinned (.plain (OpenSpec.ofChange fnStatesReadSpec)) fnStatesReadCard

/-- THE TIED CARD OF 'laws.FnStatesReference'. -/
def fnStatesReferenceCard : Claim7 := { stood := { row := fnStatesReferenceRow, standIns := [], harness := (true, "e8092917298402a69c659fd81d30b56726c15f97cbd0b9efc42425436ac65bc1"), looks := true }, kinds := [], alts := [], laidByText := true, laidKinds := [.sentinel, .sentinel], laidTests := true, laidLooks := .later }
def FnStatesReferenceCardSaid : Prop := Claim7.holds Tryd.pinned (.plain (OpenSpec.ofChange fnStatesReferenceSpec)) fnStatesReferenceCard

/-- THE TIED CARD OF 'laws.FnStatesRefused'. -/
def fnStatesRefusedCard : Claim7 := { stood := { row := fnStatesRefusedRow, standIns := [], harness := (true, "e8092917298402a69c659fd81d30b56726c15f97cbd0b9efc42425436ac65bc1"), looks := true }, kinds := [], alts := [], laidByText := true, laidKinds := [.sentinel, .sentinel], laidTests := true, laidLooks := .later }
def FnStatesRefusedCardSaid : Prop := Claim7.holds Tryd.pinned (.plain (OpenSpec.ofChange fnStatesRefusedSpec)) fnStatesRefusedCard

/-- THE SECOND FORM's CARD OF 'laws.FnBuildStates'. -/
def fnBuildStatesUptoCard : Claim7 := { stood := { row := fnBuildStatesUptoRow, standIns := [], harness := (true, "e8092917298402a69c659fd81d30b56726c15f97cbd0b9efc42425436ac65bc1"), looks := true }, kinds := [], alts := [], laidByText := true, laidKinds := [.sentinel], laidTests := true, laidLooks := .later }
def FnBuildStatesUptoCardSaid : Prop := Claim7.holds Tryd.pinned (.plain (OpenSpec.upto fnBuildStatesSpec)) fnBuildStatesUptoCard

/-- THE SECOND FORM's CARD OF 'laws.FnStatesCounted'. -/
def fnStatesCountedUptoCard : Claim7 := { stood := { row := fnStatesCountedUptoRow, standIns := [], harness := (true, "e8092917298402a69c659fd81d30b56726c15f97cbd0b9efc42425436ac65bc1"), looks := true }, kinds := [], alts := [], laidByText := true, laidKinds := [.sentinel], laidTests := true, laidLooks := .later }
def FnStatesCountedUptoCardSaid : Prop := Claim7.holds Tryd.pinned (.plain (OpenSpec.upto fnStatesCountedSpec)) fnStatesCountedUptoCard

/-- THE SECOND FORM's CARD OF 'laws.FnStatesReached'. -/
def fnStatesReachedUptoCard : Claim7 := { stood := { row := fnStatesReachedUptoRow, standIns := [], harness := (true, "e8092917298402a69c659fd81d30b56726c15f97cbd0b9efc42425436ac65bc1"), looks := true }, kinds := [], alts := [], laidByText := true, laidKinds := [.sentinel], laidTests := true, laidLooks := .later }
def FnStatesReachedUptoCardSaid : Prop := Claim7.holds Tryd.pinned (.plain (OpenSpec.upto fnStatesReachedSpec)) fnStatesReachedUptoCard

/-- THE SECOND FORM's CARD OF 'laws.FnStatesRead'. -/
def fnStatesReadUptoCard : Claim7 := { stood := { row := fnStatesReadUptoRow, standIns := [], harness := (true, "e8092917298402a69c659fd81d30b56726c15f97cbd0b9efc42425436ac65bc1"), looks := true }, kinds := [], alts := [], laidByText := true, laidKinds := [.sentinel, .sentinel], laidTests := true, laidLooks := .later }
def FnStatesReadUptoCardSaid : Prop := Claim7.holds Tryd.pinned (.plain (OpenSpec.upto fnStatesReadSpec)) fnStatesReadUptoCard

/-- THE SECOND FORM's CARD OF 'laws.FnStatesReference'. -/
def fnStatesReferenceUptoCard : Claim7 := { stood := { row := fnStatesReferenceUptoRow, standIns := [], harness := (true, "e8092917298402a69c659fd81d30b56726c15f97cbd0b9efc42425436ac65bc1"), looks := true }, kinds := [], alts := [], laidByText := true, laidKinds := [.sentinel, .sentinel], laidTests := true, laidLooks := .later }
def FnStatesReferenceUptoCardSaid : Prop := Claim7.holds Tryd.pinned (.plain (OpenSpec.upto fnStatesReferenceSpec)) fnStatesReferenceUptoCard

/-- THE SECOND FORM's CARD OF 'laws.FnStatesRefused'. -/
def fnStatesRefusedUptoCard : Claim7 := { stood := { row := fnStatesRefusedUptoRow, standIns := [], harness := (true, "e8092917298402a69c659fd81d30b56726c15f97cbd0b9efc42425436ac65bc1"), looks := true }, kinds := [], alts := [], laidByText := true, laidKinds := [.sentinel, .sentinel], laidTests := true, laidLooks := .later }
def FnStatesRefusedUptoCardSaid : Prop := Claim7.holds Tryd.pinned (.plain (OpenSpec.upto fnStatesRefusedSpec)) fnStatesRefusedUptoCard
end Rows
end Go.Proofs.YtccmihdpgpgbaaaDoor
