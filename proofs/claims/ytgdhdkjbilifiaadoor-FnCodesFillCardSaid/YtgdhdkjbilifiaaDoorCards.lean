/-
  DERIVED. GIVEN WITH THE SEED: THE CARDS: each row of YtgdhdkjbilifiaaDoorRows.lean that lists a variable, with what it lists TIED to the program's text (the seventh form; the later family's looks); each row that meets fmt, with fmt's text TOLD by the authors' own Lean function (tested against real Go, not proved from fmt's source: count such statements apart). THE CARD IS WHAT COUNTS. Prove the row's statement (the work); the ties are given (YtgdhdkjbilifiaaDoorTie.lean); close each card by the builder's one call (the guide's Derived/Test/ToyasCard.lean, 'card_holds'). Laid BY PROGRAM, IN A SANDBOX (cutbox-door.mjs). By AI agents, Wed Nov 11 2026. No macro, syntax, notation, axiom, sorry.
-/
import Derived.Test.YtgdhdkjbilifiaaDoorRows
import GoSem.ClaimSeven
namespace Go.Proofs.YtgdhdkjbilifiaaDoor
namespace Rows

/-- THE TIED CARD OF 'laws.FnCodesFill'. -/
def fnCodesFillCard : Claim7 := { stood := { row := fnCodesFillRow, standIns := [], harness := (true, "8b885bf6cb460c1f619aae489678c468bc5bc491c2ef6ebc5f640a67557cd773"), looks := true }, kinds := [], alts := [], laidByText := true, laidKinds := [.sentinel, .sentinel], laidTests := true, laidLooks := .later }
def FnCodesFillCardSaid : Prop := Claim7.holds Tryd.pinned (.plain (OpenSpec.ofChange fnCodesFillSpec)) fnCodesFillCard

/-- THE TIED CARD OF 'laws.FnCodesRead'. -/
def fnCodesReadCard : Claim7 := { stood := { row := fnCodesReadRow, standIns := [], harness := (true, "8b885bf6cb460c1f619aae489678c468bc5bc491c2ef6ebc5f640a67557cd773"), looks := true }, kinds := [], alts := [], laidByText := true, laidKinds := [.sentinel, .sentinel], laidTests := true, laidLooks := .later }
def FnCodesReadCardSaid : Prop := Claim7.holds Tryd.pinned (.plain (OpenSpec.ofChange fnCodesReadSpec)) fnCodesReadCard

/-- THE TIED CARD OF 'laws.FnCodesReference'. -/
def fnCodesReferenceCard : Claim7 := { stood := { row := fnCodesReferenceRow, standIns := [], harness := (true, "8b885bf6cb460c1f619aae489678c468bc5bc491c2ef6ebc5f640a67557cd773"), looks := true }, kinds := [], alts := [], laidByText := true, laidKinds := [.sentinel, .sentinel], laidTests := true, laidLooks := .later }
def FnCodesReferenceCardSaid : Prop := Claim7.holds Tryd.pinned (.plain (OpenSpec.ofChange fnCodesReferenceSpec)) fnCodesReferenceCard

/-- THE TIED CARD OF 'laws.FnCodesRefused'. -/
def fnCodesRefusedCard : Claim7 := { stood := { row := fnCodesRefusedRow, standIns := [], harness := (true, "8b885bf6cb460c1f619aae489678c468bc5bc491c2ef6ebc5f640a67557cd773"), looks := true }, kinds := [], alts := [], laidByText := true, laidKinds := [.sentinel, .sentinel], laidTests := true, laidLooks := .later }
def FnCodesRefusedCardSaid : Prop := Claim7.holds Tryd.pinned (.plain (OpenSpec.ofChange fnCodesRefusedSpec)) fnCodesRefusedCard

/-- THE TIED CARD OF 'laws.FnStreamRead'. -/
def fnStreamReadCard : Claim7 := { stood := { row := fnStreamReadRow, standIns := [], harness := (true, "8b885bf6cb460c1f619aae489678c468bc5bc491c2ef6ebc5f640a67557cd773"), looks := true }, kinds := [], alts := [], laidByText := true, laidKinds := [.sentinel, .sentinel], laidTests := true, laidLooks := .later }
def FnStreamReadCardSaid : Prop := Claim7.holds Tryd.pinned (.plain (OpenSpec.ofChange fnStreamReadSpec)) fnStreamReadCard

/-- THE TIED CARD OF 'laws.FnStreamReference'. -/
def fnStreamReferenceCard : Claim7 := { stood := { row := fnStreamReferenceRow, standIns := [], harness := (true, "8b885bf6cb460c1f619aae489678c468bc5bc491c2ef6ebc5f640a67557cd773"), looks := true }, kinds := [], alts := [], laidByText := true, laidKinds := [.sentinel, .sentinel], laidTests := true, laidLooks := .later }
def FnStreamReferenceCardSaid : Prop := Claim7.holds Tryd.pinned (.plain (OpenSpec.ofChange fnStreamReferenceSpec)) fnStreamReferenceCard

/-- THE TIED CARD OF 'laws.FnRawLiterals'. -/
def fnRawLiteralsCard : Claim7 := { stood := { row := fnRawLiteralsRow, standIns := [], harness := (true, "8b885bf6cb460c1f619aae489678c468bc5bc491c2ef6ebc5f640a67557cd773"), looks := true }, kinds := [], alts := [], laidByText := true, laidKinds := [.sentinel, .sentinel], laidTests := true, laidLooks := .later }
def FnRawLiteralsCardSaid : Prop := Claim7.holds Tryd.pinned (.plain (OpenSpec.ofChange fnRawLiteralsSpec)) fnRawLiteralsCard

/-- THE TIED CARD OF 'laws.FnFourSpoiled'. -/
def fnFourSpoiledCard : Claim7 := { stood := { row := fnFourSpoiledRow, standIns := [], harness := (true, "8b885bf6cb460c1f619aae489678c468bc5bc491c2ef6ebc5f640a67557cd773"), looks := true }, kinds := [], alts := [], laidByText := true, laidKinds := [.sentinel, .sentinel], laidTests := true, laidLooks := .later }
def FnFourSpoiledCardSaid : Prop := Claim7.holds Tryd.pinned (.plain (OpenSpec.ofChange fnFourSpoiledSpec)) fnFourSpoiledCard

/-- THE TIED CARD OF 'laws.FnSectionRaw'. -/
def fnSectionRawCard : Claim7 := { stood := { row := fnSectionRawRow, standIns := [], harness := (true, "8b885bf6cb460c1f619aae489678c468bc5bc491c2ef6ebc5f640a67557cd773"), looks := true }, kinds := [], alts := [], laidByText := true, laidKinds := [.sentinel, .sentinel], laidTests := true, laidLooks := .later }
def FnSectionRawCardSaid : Prop := Claim7.holds Tryd.pinned (.plain (OpenSpec.ofChange fnSectionRawSpec)) fnSectionRawCard

/-- THE SECOND FORM's CARD OF 'laws.FnCodesFill'. -/
def fnCodesFillUptoCard : Claim7 := { stood := { row := fnCodesFillUptoRow, standIns := [], harness := (true, "8b885bf6cb460c1f619aae489678c468bc5bc491c2ef6ebc5f640a67557cd773"), looks := true }, kinds := [], alts := [], laidByText := true, laidKinds := [.sentinel, .sentinel], laidTests := true, laidLooks := .later }
def FnCodesFillUptoCardSaid : Prop := Claim7.holds Tryd.pinned (.plain (OpenSpec.upto fnCodesFillSpec)) fnCodesFillUptoCard

/-- THE SECOND FORM's CARD OF 'laws.FnCodesRead'. -/
def fnCodesReadUptoCard : Claim7 := { stood := { row := fnCodesReadUptoRow, standIns := [], harness := (true, "8b885bf6cb460c1f619aae489678c468bc5bc491c2ef6ebc5f640a67557cd773"), looks := true }, kinds := [], alts := [], laidByText := true, laidKinds := [.sentinel, .sentinel], laidTests := true, laidLooks := .later }
def FnCodesReadUptoCardSaid : Prop := Claim7.holds Tryd.pinned (.plain (OpenSpec.upto fnCodesReadSpec)) fnCodesReadUptoCard

/-- THE SECOND FORM's CARD OF 'laws.FnCodesReference'. -/
def fnCodesReferenceUptoCard : Claim7 := { stood := { row := fnCodesReferenceUptoRow, standIns := [], harness := (true, "8b885bf6cb460c1f619aae489678c468bc5bc491c2ef6ebc5f640a67557cd773"), looks := true }, kinds := [], alts := [], laidByText := true, laidKinds := [.sentinel, .sentinel], laidTests := true, laidLooks := .later }
def FnCodesReferenceUptoCardSaid : Prop := Claim7.holds Tryd.pinned (.plain (OpenSpec.upto fnCodesReferenceSpec)) fnCodesReferenceUptoCard

/-- THE SECOND FORM's CARD OF 'laws.FnCodesRefused'. -/
def fnCodesRefusedUptoCard : Claim7 := { stood := { row := fnCodesRefusedUptoRow, standIns := [], harness := (true, "8b885bf6cb460c1f619aae489678c468bc5bc491c2ef6ebc5f640a67557cd773"), looks := true }, kinds := [], alts := [], laidByText := true, laidKinds := [.sentinel, .sentinel], laidTests := true, laidLooks := .later }
def FnCodesRefusedUptoCardSaid : Prop := Claim7.holds Tryd.pinned (.plain (OpenSpec.upto fnCodesRefusedSpec)) fnCodesRefusedUptoCard

/-- THE SECOND FORM's CARD OF 'laws.FnStreamRead'. -/
def fnStreamReadUptoCard : Claim7 := { stood := { row := fnStreamReadUptoRow, standIns := [], harness := (true, "8b885bf6cb460c1f619aae489678c468bc5bc491c2ef6ebc5f640a67557cd773"), looks := true }, kinds := [], alts := [], laidByText := true, laidKinds := [.sentinel, .sentinel], laidTests := true, laidLooks := .later }
def FnStreamReadUptoCardSaid : Prop := Claim7.holds Tryd.pinned (.plain (OpenSpec.upto fnStreamReadSpec)) fnStreamReadUptoCard

/-- THE SECOND FORM's CARD OF 'laws.FnStreamReference'. -/
def fnStreamReferenceUptoCard : Claim7 := { stood := { row := fnStreamReferenceUptoRow, standIns := [], harness := (true, "8b885bf6cb460c1f619aae489678c468bc5bc491c2ef6ebc5f640a67557cd773"), looks := true }, kinds := [], alts := [], laidByText := true, laidKinds := [.sentinel, .sentinel], laidTests := true, laidLooks := .later }
def FnStreamReferenceUptoCardSaid : Prop := Claim7.holds Tryd.pinned (.plain (OpenSpec.upto fnStreamReferenceSpec)) fnStreamReferenceUptoCard

/-- THE SECOND FORM's CARD OF 'laws.FnRawLiterals'. -/
def fnRawLiteralsUptoCard : Claim7 := { stood := { row := fnRawLiteralsUptoRow, standIns := [], harness := (true, "8b885bf6cb460c1f619aae489678c468bc5bc491c2ef6ebc5f640a67557cd773"), looks := true }, kinds := [], alts := [], laidByText := true, laidKinds := [.sentinel, .sentinel], laidTests := true, laidLooks := .later }
def FnRawLiteralsUptoCardSaid : Prop := Claim7.holds Tryd.pinned (.plain (OpenSpec.upto fnRawLiteralsSpec)) fnRawLiteralsUptoCard

/-- THE SECOND FORM's CARD OF 'laws.FnFourSpoiled'. -/
def fnFourSpoiledUptoCard : Claim7 := { stood := { row := fnFourSpoiledUptoRow, standIns := [], harness := (true, "8b885bf6cb460c1f619aae489678c468bc5bc491c2ef6ebc5f640a67557cd773"), looks := true }, kinds := [], alts := [], laidByText := true, laidKinds := [.sentinel, .sentinel], laidTests := true, laidLooks := .later }
def FnFourSpoiledUptoCardSaid : Prop := Claim7.holds Tryd.pinned (.plain (OpenSpec.upto fnFourSpoiledSpec)) fnFourSpoiledUptoCard

/-- THE SECOND FORM's CARD OF 'laws.FnSectionRaw'. -/
def fnSectionRawUptoCard : Claim7 := { stood := { row := fnSectionRawUptoRow, standIns := [], harness := (true, "8b885bf6cb460c1f619aae489678c468bc5bc491c2ef6ebc5f640a67557cd773"), looks := true }, kinds := [], alts := [], laidByText := true, laidKinds := [.sentinel, .sentinel], laidTests := true, laidLooks := .later }
def FnSectionRawUptoCardSaid : Prop := Claim7.holds Tryd.pinned (.plain (OpenSpec.upto fnSectionRawSpec)) fnSectionRawUptoCard
end Rows
end Go.Proofs.YtgdhdkjbilifiaaDoor
