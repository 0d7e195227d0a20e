/-
  NARROWER THAN 'FOR EVERY INPUT', by the rows' own cells (each row's printed sentence says how): FnForward: laid · FnForwardPlace: laid · FnReverse: laid · FnStreamBack: laid · FnFetched: laid.
  DERIVED. THE GIVEN ROWS OF THIS SEAT. 5 by the template 'for every input the law returns true; each argument reads behind the call as it read before'; 0 by the template 'total and deterministic' (their statements: YtagcmlbpppmbfaaDoorTotals.lean).
  GIVEN WITH THE SEED: the statements are not yours to turn. If you find one false, say at which input.
  Laid BY PROGRAM, IN A SANDBOX (cutbox-rows.mjs): the forced cells as the released guide's own fill.sh prints them over the translation 16ab6959a9d3fbb9… (all of the seat's roots in one cut). By AI agents, Wed Nov 11 2026. No macro, syntax, notation, axiom, sorry.
-/
import Derived.Test.YtagcmlbpppmbfaaDoorChecked
import GoSem.Claim
import GoSem.ClaimJoined
import GoSem.ClaimMapViews
import Derived.JoinedTies
import Derived.KernelRfl
namespace Go.Proofs.YtagcmlbpppmbfaaDoor
/- THE CELL 'sum', in the pinned program and in every row, IS THE sha256 OF THE DUMP (.gsa) THAT YtagcmlbpppmbfaaDoorProg.lean LOADS. Nothing in Lean hashes anything: it is a label: what it is worth is what the hold of that sum in a sandbox is worth. -/
noncomputable def Tryd.pinned : Pinned := { name := "ytagcmlbpppmbfaadoor", sum := "16ab6959a9d3fbb9fa01782c388cda4708a6581bdd938e2a3659f2251e5cc2a6", checked := Tryd.checked }
namespace Rows
def none {H : Type} : Left H := { results := [], args := [] }

/- WHAT THE LISTED PACKAGE-LEVEL VARIABLES READ AS WHEN THE CALL BEGINS. Each datum BY PROGRAM (the guide's laid-datum.mjs) off the statement by which the dump's own 'gosem.cut.vars' lays the variable. In a bare row this is a premise. The card (YtagcmlbpppmbfaaDoorCards.lean) ties it to the program's text. -/
def laid_io_EOF {H : Type} : DataW H := .iface "*errors.errorString" (.ptr (.agg [.lit (.string [69, 79, 70])]))
def laid_io_ErrUnexpectedEOF {H : Type} : DataW H := .iface "*errors.errorString" (.ptr (.agg [.lit (.string [117, 110, 101, 120, 112, 101, 99, 116, 101, 100, 32, 69, 79, 70])]))

/-- 'laws.FnForward': WHATEVER THE INPUT: true; the input reads as it did. -/
def fnForwardSpec : ChangeSpec := { name := "fnForward", fn := fun _ => fun
  | [d1, d2, d3] => { results := [.lit (.bool true)], args := [d1, d2, d3] }
  | _ => none }
def fnForwardRow : OpenClaim := { program := "ytagcmlbpppmbfaadoor", sum := "16ab6959a9d3fbb9fa01782c388cda4708a6581bdd938e2a3659f2251e5cc2a6", func := "loop.example/pub-g01462/laws.FnForward", spec := "fnForward", named := ["io.ErrUnexpectedEOF", "io.EOF"], apart := false, laid := [("io.EOF", laid_io_EOF), ("io.ErrUnexpectedEOF", laid_io_ErrUnexpectedEOF)] }
def FnForwardSaid : Prop := fnForwardRow.holds Tryd.pinned (OpenSpec.ofChange fnForwardSpec)

/-- ITS FALSE NEIGHBOUR: 'it returns false'. Refute it at one input. -/
def fnForwardWrong : ChangeSpec := { name := "fnForward", fn := fun _ => fun
  | [d1, d2, d3] => { results := [.lit (.bool false)], args := [d1, d2, d3] }
  | _ => none }
def FnForwardWrongFalsely : Prop := fnForwardRow.holds Tryd.pinned (OpenSpec.ofChange fnForwardWrong)

/-- 'laws.FnForwardPlace': WHATEVER THE INPUT: true; the input reads as it did. -/
def fnForwardPlaceSpec : ChangeSpec := { name := "fnForwardPlace", fn := fun _ => fun
  | [d1, d2, d3] => { results := [.lit (.bool true)], args := [d1, d2, d3] }
  | _ => none }
def fnForwardPlaceRow : OpenClaim := { program := "ytagcmlbpppmbfaadoor", sum := "16ab6959a9d3fbb9fa01782c388cda4708a6581bdd938e2a3659f2251e5cc2a6", func := "loop.example/pub-g01462/laws.FnForwardPlace", spec := "fnForwardPlace", named := ["io.ErrUnexpectedEOF", "io.EOF"], apart := false, laid := [("io.EOF", laid_io_EOF), ("io.ErrUnexpectedEOF", laid_io_ErrUnexpectedEOF)] }
def FnForwardPlaceSaid : Prop := fnForwardPlaceRow.holds Tryd.pinned (OpenSpec.ofChange fnForwardPlaceSpec)

/-- ITS FALSE NEIGHBOUR: 'it returns false'. Refute it at one input. -/
def fnForwardPlaceWrong : ChangeSpec := { name := "fnForwardPlace", fn := fun _ => fun
  | [d1, d2, d3] => { results := [.lit (.bool false)], args := [d1, d2, d3] }
  | _ => none }
def FnForwardPlaceWrongFalsely : Prop := fnForwardPlaceRow.holds Tryd.pinned (OpenSpec.ofChange fnForwardPlaceWrong)

/-- 'laws.FnReverse': WHATEVER THE INPUT: true; the input reads as it did. -/
def fnReverseSpec : ChangeSpec := { name := "fnReverse", fn := fun _ => fun
  | [d1, d2, d3, d4] => { results := [.lit (.bool true)], args := [d1, d2, d3, d4] }
  | _ => none }
def fnReverseRow : OpenClaim := { program := "ytagcmlbpppmbfaadoor", sum := "16ab6959a9d3fbb9fa01782c388cda4708a6581bdd938e2a3659f2251e5cc2a6", func := "loop.example/pub-g01462/laws.FnReverse", spec := "fnReverse", named := ["io.EOF", "io.ErrUnexpectedEOF"], apart := false, laid := [("io.EOF", laid_io_EOF), ("io.ErrUnexpectedEOF", laid_io_ErrUnexpectedEOF)] }
def FnReverseSaid : Prop := fnReverseRow.holds Tryd.pinned (OpenSpec.ofChange fnReverseSpec)

/-- ITS FALSE NEIGHBOUR: 'it returns false'. Refute it at one input. -/
def fnReverseWrong : ChangeSpec := { name := "fnReverse", fn := fun _ => fun
  | [d1, d2, d3, d4] => { results := [.lit (.bool false)], args := [d1, d2, d3, d4] }
  | _ => none }
def FnReverseWrongFalsely : Prop := fnReverseRow.holds Tryd.pinned (OpenSpec.ofChange fnReverseWrong)

/-- 'laws.FnStreamBack': WHATEVER THE INPUT: true; the input reads as it did. -/
def fnStreamBackSpec : ChangeSpec := { name := "fnStreamBack", fn := fun _ => fun
  | [d] => { results := [.lit (.bool true)], args := [d] }
  | _ => none }
def fnStreamBackRow : OpenClaim := { program := "ytagcmlbpppmbfaadoor", sum := "16ab6959a9d3fbb9fa01782c388cda4708a6581bdd938e2a3659f2251e5cc2a6", func := "loop.example/pub-g01462/laws.FnStreamBack", spec := "fnStreamBack", named := ["io.EOF", "io.ErrUnexpectedEOF"], apart := false, laid := [("io.EOF", laid_io_EOF), ("io.ErrUnexpectedEOF", laid_io_ErrUnexpectedEOF)] }
def FnStreamBackSaid : Prop := fnStreamBackRow.holds Tryd.pinned (OpenSpec.ofChange fnStreamBackSpec)

/-- ITS FALSE NEIGHBOUR: 'it returns false'. Refute it at one input. -/
def fnStreamBackWrong : ChangeSpec := { name := "fnStreamBack", fn := fun _ => fun
  | [d] => { results := [.lit (.bool false)], args := [d] }
  | _ => none }
def FnStreamBackWrongFalsely : Prop := fnStreamBackRow.holds Tryd.pinned (OpenSpec.ofChange fnStreamBackWrong)

/-- 'laws.FnFetched': WHATEVER THE INPUT: true; the input reads as it did. -/
def fnFetchedSpec : ChangeSpec := { name := "fnFetched", fn := fun _ => fun
  | [d1, d2, d3, d4] => { results := [.lit (.bool true)], args := [d1, d2, d3, d4] }
  | _ => none }
def fnFetchedRow : OpenClaim := { program := "ytagcmlbpppmbfaadoor", sum := "16ab6959a9d3fbb9fa01782c388cda4708a6581bdd938e2a3659f2251e5cc2a6", func := "loop.example/pub-g01462/laws.FnFetched", spec := "fnFetched", named := ["io.EOF", "io.ErrUnexpectedEOF"], apart := false, laid := [("io.EOF", laid_io_EOF), ("io.ErrUnexpectedEOF", laid_io_ErrUnexpectedEOF)] }
def FnFetchedSaid : Prop := fnFetchedRow.holds Tryd.pinned (OpenSpec.ofChange fnFetchedSpec)

/-- ITS FALSE NEIGHBOUR: 'it returns false'. Refute it at one input. -/
def fnFetchedWrong : ChangeSpec := { name := "fnFetched", fn := fun _ => fun
  | [d1, d2, d3, d4] => { results := [.lit (.bool false)], args := [d1, d2, d3, d4] }
  | _ => none }
def FnFetchedWrongFalsely : Prop := fnFetchedRow.holds Tryd.pinned (OpenSpec.ofChange fnFetchedWrong)

/- THE SECOND FORM. 'bulk': how many values and letters a reading holds, each counted each time it is reached (what is shared counts as often as it is met; a slice's spare places count too). A statement '..UptoSaid' is the law's where the arguments, and the package variables that the reading takes, are together of bulk at most 1048576: NARROWER than '..Said'. Prove '..Said' where nothing that the law and all that it calls make is longer than what came in: it says more and counts as full. Else prove '..UptoSaid'. A law counts once. -/
mutual
def uptoBulk {H : Type} : DataW H → Nat
  | .lit (.string bytes) => bytes.length + 1
  | .lit _ => 1
  | .nil => 1
  | .ptr d => uptoBulk d + 1
  | .slice elems spare => uptoBulkAll elems + uptoBulkAll spare + 1
  | .agg parts => uptoBulkAll parts + 1
  | .iface _ d => uptoBulk d + 1
  | .map entries => uptoBulkEntries entries + 1
  | .held _ => 1
def uptoBulkAll {H : Type} : List (DataW H) → Nat
  | [] => 0
  | d :: r => uptoBulk d + uptoBulkAll r
def uptoBulkEntries {H : Type} : List (Lit × DataW H) → Nat
  | [] => 0
  | x :: r => uptoBulkEntry x + uptoBulkEntries r
def uptoBulkEntry {H : Type} : Lit × DataW H → Nat
  | (.string bytes, d) => bytes.length + uptoBulk d + 1
  | (_, d) => uptoBulk d + 1
 end
def uptoSmall : (H : Type) → List (DataW H) → Bool := fun _ ds => decide (uptoBulkAll ds ≤ 1048576)
def OpenSpec.upto (s : _root_.Go.ChangeSpec) : _root_.Go.OpenSpec := { _root_.Go.OpenSpec.ofChange s with cond := some uptoSmall }

/-- 'laws.FnForward', WHERE WHAT IT READS IS OF BULK AT MOST 1048576: true; the input reads as it did. -/
def fnForwardUptoRow : OpenClaim := { program := "ytagcmlbpppmbfaadoor", sum := "16ab6959a9d3fbb9fa01782c388cda4708a6581bdd938e2a3659f2251e5cc2a6", func := "loop.example/pub-g01462/laws.FnForward", spec := "fnForward", named := ["io.ErrUnexpectedEOF", "io.EOF"], apart := false, laid := [("io.EOF", laid_io_EOF), ("io.ErrUnexpectedEOF", laid_io_ErrUnexpectedEOF)], narrowed := true }
def FnForwardUptoSaid : Prop := fnForwardUptoRow.holds Tryd.pinned (OpenSpec.upto fnForwardSpec)

/-- 'laws.FnForwardPlace', WHERE WHAT IT READS IS OF BULK AT MOST 1048576: true; the input reads as it did. -/
def fnForwardPlaceUptoRow : OpenClaim := { program := "ytagcmlbpppmbfaadoor", sum := "16ab6959a9d3fbb9fa01782c388cda4708a6581bdd938e2a3659f2251e5cc2a6", func := "loop.example/pub-g01462/laws.FnForwardPlace", spec := "fnForwardPlace", named := ["io.ErrUnexpectedEOF", "io.EOF"], apart := false, laid := [("io.EOF", laid_io_EOF), ("io.ErrUnexpectedEOF", laid_io_ErrUnexpectedEOF)], narrowed := true }
def FnForwardPlaceUptoSaid : Prop := fnForwardPlaceUptoRow.holds Tryd.pinned (OpenSpec.upto fnForwardPlaceSpec)

/-- 'laws.FnReverse', WHERE WHAT IT READS IS OF BULK AT MOST 1048576: true; the input reads as it did. -/
def fnReverseUptoRow : OpenClaim := { program := "ytagcmlbpppmbfaadoor", sum := "16ab6959a9d3fbb9fa01782c388cda4708a6581bdd938e2a3659f2251e5cc2a6", func := "loop.example/pub-g01462/laws.FnReverse", spec := "fnReverse", named := ["io.EOF", "io.ErrUnexpectedEOF"], apart := false, laid := [("io.EOF", laid_io_EOF), ("io.ErrUnexpectedEOF", laid_io_ErrUnexpectedEOF)], narrowed := true }
def FnReverseUptoSaid : Prop := fnReverseUptoRow.holds Tryd.pinned (OpenSpec.upto fnReverseSpec)

/-- 'laws.FnStreamBack', WHERE WHAT IT READS IS OF BULK AT MOST 1048576: true; the input reads as it did. -/
def fnStreamBackUptoRow : OpenClaim := { program := "ytagcmlbpppmbfaadoor", sum := "16ab6959a9d3fbb9fa01782c388cda4708a6581bdd938e2a3659f2251e5cc2a6", func := "loop.example/pub-g01462/laws.FnStreamBack", spec := "fnStreamBack", named := ["io.EOF", "io.ErrUnexpectedEOF"], apart := false, laid := [("io.EOF", laid_io_EOF), ("io.ErrUnexpectedEOF", laid_io_ErrUnexpectedEOF)], narrowed := true }
def FnStreamBackUptoSaid : Prop := fnStreamBackUptoRow.holds Tryd.pinned (OpenSpec.upto fnStreamBackSpec)

/-- 'laws.FnFetched', WHERE WHAT IT READS IS OF BULK AT MOST 1048576: true; the input reads as it did. -/
def fnFetchedUptoRow : OpenClaim := { program := "ytagcmlbpppmbfaadoor", sum := "16ab6959a9d3fbb9fa01782c388cda4708a6581bdd938e2a3659f2251e5cc2a6", func := "loop.example/pub-g01462/laws.FnFetched", spec := "fnFetched", named := ["io.EOF", "io.ErrUnexpectedEOF"], apart := false, laid := [("io.EOF", laid_io_EOF), ("io.ErrUnexpectedEOF", laid_io_ErrUnexpectedEOF)], narrowed := true }
def FnFetchedUptoSaid : Prop := fnFetchedUptoRow.holds Tryd.pinned (OpenSpec.upto fnFetchedSpec)

end Rows
end Go.Proofs.YtagcmlbpppmbfaaDoor
