/-
  DERIVED. GIVEN WITH THE SEED: THE CARDS: each row of YtkdfminibmdkgaaDoorRows.lean that lists a variable, with what it lists TIED to the program's text (the seventh form; the later family's looks); each row that meets fmt, with fmt's text TOLD by the authors' own Lean function (tested against real Go, not proved from fmt's source: count such statements apart). THE CARD IS WHAT COUNTS. Prove the row's statement (the work); the ties are given (YtkdfminibmdkgaaDoorTie.lean); close each card by the builder's one call (the guide's Derived/Test/ToyasCard.lean, 'card_holds'). Laid BY PROGRAM, IN A SANDBOX (cutbox-door.mjs). By AI agents, Wed Nov 11 2026. No macro, syntax, notation, axiom, sorry.
-/
import Derived.Test.YtkdfminibmdkgaaDoorRows
import GoSem.ClaimSeven
namespace Go.Proofs.YtkdfminibmdkgaaDoor
namespace Rows

/-- THE TIED CARD OF 'laws.FnCopyMatch'. -/
def fnCopyMatchCard : Claim7 := { stood := { row := fnCopyMatchRow, standIns := [], harness := (true, "e5e00727f72456eb0444438bd8239f7b24b3a6761f1b06d0269cc3c5e66f2b80"), looks := true }, kinds := [], alts := [], laidByText := true, laidKinds := [.sentinel], laidTests := true, laidLooks := .later }
def FnCopyMatchCardSaid : Prop := Claim7.holds Tryd.pinned (.plain (OpenSpec.ofChange fnCopyMatchSpec)) fnCopyMatchCard

/-- THE SECOND FORM's CARD OF 'laws.FnCopyMatch'. -/
def fnCopyMatchUptoCard : Claim7 := { stood := { row := fnCopyMatchUptoRow, standIns := [], harness := (true, "e5e00727f72456eb0444438bd8239f7b24b3a6761f1b06d0269cc3c5e66f2b80"), looks := true }, kinds := [], alts := [], laidByText := true, laidKinds := [.sentinel], laidTests := true, laidLooks := .later }
def FnCopyMatchUptoCardSaid : Prop := Claim7.holds Tryd.pinned (.plain (OpenSpec.upto fnCopyMatchSpec)) fnCopyMatchUptoCard
end Rows
end Go.Proofs.YtkdfminibmdkgaaDoor
