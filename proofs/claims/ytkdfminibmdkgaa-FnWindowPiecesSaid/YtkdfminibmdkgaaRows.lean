/-
  No cell of these rows narrows 'for every input' (looked for: loops, veiled, ifaces, maps, wideKeys, modest, calm, conditions, laid).
  DERIVED. THE GIVEN ROWS OF THIS SEAT. 3 by the template 'for every input the law returns true; each argument reads behind the call as it read before'; 0 by the template 'total and deterministic' (their statements: YtkdfminibmdkgaaTotals.lean).
  GIVEN WITH THE SEED: the statements are not yours to turn. If you find one false, say at which input.
  Laid BY PROGRAM, IN A SANDBOX (cutbox-rows.mjs): the forced cells as the released guide's own fill.sh prints them over the translation 3b249f9340bf817e… (all of the seat's roots in one cut). By AI agents, Wed Nov 11 2026. No macro, syntax, notation, axiom, sorry.
-/
import Derived.Test.YtkdfminibmdkgaaChecked
import GoSem.Claim
import GoSem.ClaimJoined
import GoSem.ClaimMapViews
import Derived.JoinedTies
import Derived.KernelRfl
namespace Go.Proofs.Ytkdfminibmdkgaa
/- THE CELL 'sum', in the pinned program and in every row, IS THE sha256 OF THE DUMP (.gsa) THAT YtkdfminibmdkgaaProg.lean LOADS. Nothing in Lean hashes anything: it is a label: what it is worth is what the hold of that sum in a sandbox is worth. -/
noncomputable def Try.pinned : Pinned := { name := "ytkdfminibmdkgaa", sum := "3b249f9340bf817ee4ad860cdc2a0b71cdf446e8c9ede23be82b276e1390ba14", checked := Try.checked }
namespace Rows
def none {H : Type} : Left H := { results := [], args := [] }

/-- 'laws.FnWindow': WHATEVER THE INPUT: true; the input reads as it did. -/
def fnWindowSpec : ChangeSpec := { name := "fnWindow", fn := fun _ => fun
  | [d1, d2, d3, d4] => { results := [.lit (.bool true)], args := [d1, d2, d3, d4] }
  | _ => none }
def fnWindowRow : OpenClaim := { program := "ytkdfminibmdkgaa", sum := "3b249f9340bf817ee4ad860cdc2a0b71cdf446e8c9ede23be82b276e1390ba14", func := "loop.example/pub-g01462/laws.FnWindow", spec := "fnWindow", apart := false }
def FnWindowSaid : Prop := fnWindowRow.holds Try.pinned (OpenSpec.ofChange fnWindowSpec)

/-- ITS FALSE NEIGHBOUR: 'it returns false'. Refute it at one input. -/
def fnWindowWrong : ChangeSpec := { name := "fnWindow", fn := fun _ => fun
  | [d1, d2, d3, d4] => { results := [.lit (.bool false)], args := [d1, d2, d3, d4] }
  | _ => none }
def FnWindowWrongFalsely : Prop := fnWindowRow.holds Try.pinned (OpenSpec.ofChange fnWindowWrong)

/-- 'laws.FnWindowAgain': WHATEVER THE INPUT: true; the input reads as it did. -/
def fnWindowAgainSpec : ChangeSpec := { name := "fnWindowAgain", fn := fun _ => fun
  | [d1, d2, d3, d4] => { results := [.lit (.bool true)], args := [d1, d2, d3, d4] }
  | _ => none }
def fnWindowAgainRow : OpenClaim := { program := "ytkdfminibmdkgaa", sum := "3b249f9340bf817ee4ad860cdc2a0b71cdf446e8c9ede23be82b276e1390ba14", func := "loop.example/pub-g01462/laws.FnWindowAgain", spec := "fnWindowAgain", apart := false }
def FnWindowAgainSaid : Prop := fnWindowAgainRow.holds Try.pinned (OpenSpec.ofChange fnWindowAgainSpec)

/-- ITS FALSE NEIGHBOUR: 'it returns false'. Refute it at one input. -/
def fnWindowAgainWrong : ChangeSpec := { name := "fnWindowAgain", fn := fun _ => fun
  | [d1, d2, d3, d4] => { results := [.lit (.bool false)], args := [d1, d2, d3, d4] }
  | _ => none }
def FnWindowAgainWrongFalsely : Prop := fnWindowAgainRow.holds Try.pinned (OpenSpec.ofChange fnWindowAgainWrong)

/-- 'laws.FnWindowPieces': WHATEVER THE INPUT: true; the input reads as it did. -/
def fnWindowPiecesSpec : ChangeSpec := { name := "fnWindowPieces", fn := fun _ => fun
  | [d1, d2] => { results := [.lit (.bool true)], args := [d1, d2] }
  | _ => none }
def fnWindowPiecesRow : OpenClaim := { program := "ytkdfminibmdkgaa", sum := "3b249f9340bf817ee4ad860cdc2a0b71cdf446e8c9ede23be82b276e1390ba14", func := "loop.example/pub-g01462/laws.FnWindowPieces", spec := "fnWindowPieces", apart := false }
def FnWindowPiecesSaid : Prop := fnWindowPiecesRow.holds Try.pinned (OpenSpec.ofChange fnWindowPiecesSpec)

/-- ITS FALSE NEIGHBOUR: 'it returns false'. Refute it at one input. -/
def fnWindowPiecesWrong : ChangeSpec := { name := "fnWindowPieces", fn := fun _ => fun
  | [d1, d2] => { results := [.lit (.bool false)], args := [d1, d2] }
  | _ => none }
def FnWindowPiecesWrongFalsely : Prop := fnWindowPiecesRow.holds Try.pinned (OpenSpec.ofChange fnWindowPiecesWrong)

/- THE SECOND FORM. 'bulk': how many values and letters a reading holds, each counted each time it is reached (what is shared counts as often as it is met; a slice's spare places count too). A statement '..UptoSaid' is the law's where the arguments, and the package variables that the reading takes, are together of bulk at most 1048576: NARROWER than '..Said'. Prove '..Said' where nothing that the law and all that it calls make is longer than what came in: it says more and counts as full. Else prove '..UptoSaid'. A law counts once. -/
mutual
def uptoBulk {H : Type} : DataW H → Nat
  | .lit (.string bytes) => bytes.length + 1
  | .lit _ => 1
  | .nil => 1
  | .ptr d => uptoBulk d + 1
  | .slice elems spare => uptoBulkAll elems + uptoBulkAll spare + 1
  | .agg parts => uptoBulkAll parts + 1
  | .iface _ d => uptoBulk d + 1
  | .map entries => uptoBulkEntries entries + 1
  | .held _ => 1
def uptoBulkAll {H : Type} : List (DataW H) → Nat
  | [] => 0
  | d :: r => uptoBulk d + uptoBulkAll r
def uptoBulkEntries {H : Type} : List (Lit × DataW H) → Nat
  | [] => 0
  | x :: r => uptoBulkEntry x + uptoBulkEntries r
def uptoBulkEntry {H : Type} : Lit × DataW H → Nat
  | (.string bytes, d) => bytes.length + uptoBulk d + 1
  | (_, d) => uptoBulk d + 1
 end
def uptoSmall : (H : Type) → List (DataW H) → Bool := fun _ ds => decide (uptoBulkAll ds ≤ 1048576)
def OpenSpec.upto (s : _root_.Go.ChangeSpec) : _root_.Go.OpenSpec := { _root_.Go.OpenSpec.ofChange s with cond := some uptoSmall }

/-- 'laws.FnWindow', WHERE WHAT IT READS IS OF BULK AT MOST 1048576: true; the input reads as it did. -/
def fnWindowUptoRow : OpenClaim := { program := "ytkdfminibmdkgaa", sum := "3b249f9340bf817ee4ad860cdc2a0b71cdf446e8c9ede23be82b276e1390ba14", func := "loop.example/pub-g01462/laws.FnWindow", spec := "fnWindow", apart := false, narrowed := true }
def FnWindowUptoSaid : Prop := fnWindowUptoRow.holds Try.pinned (OpenSpec.upto fnWindowSpec)

/-- 'laws.FnWindowAgain', WHERE WHAT IT READS IS OF BULK AT MOST 1048576: true; the input reads as it did. -/
def fnWindowAgainUptoRow : OpenClaim := { program := "ytkdfminibmdkgaa", sum := "3b249f9340bf817ee4ad860cdc2a0b71cdf446e8c9ede23be82b276e1390ba14", func := "loop.example/pub-g01462/laws.FnWindowAgain", spec := "fnWindowAgain", apart := false, narrowed := true }
def FnWindowAgainUptoSaid : Prop := fnWindowAgainUptoRow.holds Try.pinned (OpenSpec.upto fnWindowAgainSpec)

/-- 'laws.FnWindowPieces', WHERE WHAT IT READS IS OF BULK AT MOST 1048576: true; the input reads as it did. -/
def fnWindowPiecesUptoRow : OpenClaim := { program := "ytkdfminibmdkgaa", sum := "3b249f9340bf817ee4ad860cdc2a0b71cdf446e8c9ede23be82b276e1390ba14", func := "loop.example/pub-g01462/laws.FnWindowPieces", spec := "fnWindowPieces", apart := false, narrowed := true }
def FnWindowPiecesUptoSaid : Prop := fnWindowPiecesUptoRow.holds Try.pinned (OpenSpec.upto fnWindowPiecesSpec)

end Rows
end Go.Proofs.Ytkdfminibmdkgaa
