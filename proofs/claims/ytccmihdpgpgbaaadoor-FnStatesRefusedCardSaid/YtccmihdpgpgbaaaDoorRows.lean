/-
  NARROWER THAN 'FOR EVERY INPUT', by the rows' own cells (each row's printed sentence says how): FnBuildStates: laid · FnStatesCounted: laid · FnStatesReached: laid · FnStatesRead: laid · FnStatesReference: laid · FnStatesRefused: laid.
  DERIVED. THE GIVEN ROWS OF THIS SEAT. 6 by the template 'for every input the law returns true; each argument reads behind the call as it read before'; 0 by the template 'total and deterministic' (their statements: YtccmihdpgpgbaaaDoorTotals.lean).
  GIVEN WITH THE SEED: the statements are not yours to turn. If you find one false, say at which input.
  Laid BY PROGRAM, IN A SANDBOX (cutbox-rows.mjs): the forced cells as the released guide's own fill.sh prints them over the translation e1fffae0cbd4e8a9… (all of the seat's roots in one cut). By AI agents, Wed Nov 11 2026. No macro, syntax, notation, axiom, sorry.
-/
import Derived.Test.YtccmihdpgpgbaaaDoorChecked
import GoSem.Claim
import GoSem.ClaimJoined
import GoSem.ClaimMapViews
import Derived.JoinedTies
import Derived.KernelRfl
namespace Go.Proofs.YtccmihdpgpgbaaaDoor
/- THE CELL 'sum', in the pinned program and in every row, IS THE sha256 OF THE DUMP (.gsa) THAT YtccmihdpgpgbaaaDoorProg.lean LOADS. Nothing in Lean hashes anything: it is a label: what it is worth is what the hold of that sum in a sandbox is worth. -/
noncomputable def Tryd.pinned : Pinned := { name := "ytccmihdpgpgbaaadoor", sum := "e1fffae0cbd4e8a9cf9885f11a05791da9951f617e867c91df9d4e2b4ff6e7d4", checked := Tryd.checked }
namespace Rows
def none {H : Type} : Left H := { results := [], args := [] }

/- WHAT THE LISTED PACKAGE-LEVEL VARIABLES READ AS WHEN THE CALL BEGINS. Each datum BY PROGRAM (the guide's laid-datum.mjs) off the statement by which the dump's own 'gosem.cut.vars' lays the variable. In a bare row this is a premise. The card (YtccmihdpgpgbaaaDoorCards.lean) ties it to the program's text. -/
def laid_io_EOF {H : Type} : DataW H := .iface "*errors.errorString" (.ptr (.agg [.lit (.string [69, 79, 70])]))
def laid_io_ErrUnexpectedEOF {H : Type} : DataW H := .iface "*errors.errorString" (.ptr (.agg [.lit (.string [117, 110, 101, 120, 112, 101, 99, 116, 101, 100, 32, 69, 79, 70])]))

/-- 'laws.FnBuildStates': WHATEVER THE INPUT: true; the input reads as it did. -/
def fnBuildStatesSpec : ChangeSpec := { name := "fnBuildStates", fn := fun _ => fun
  | [d1, d2] => { results := [.lit (.bool true)], args := [d1, d2] }
  | _ => none }
def fnBuildStatesRow : OpenClaim := { program := "ytccmihdpgpgbaaadoor", sum := "e1fffae0cbd4e8a9cf9885f11a05791da9951f617e867c91df9d4e2b4ff6e7d4", func := "loop.example/pub-g01462/laws.FnBuildStates", spec := "fnBuildStates", named := ["io.EOF"], apart := false, laid := [("io.EOF", laid_io_EOF)] }
def FnBuildStatesSaid : Prop := fnBuildStatesRow.holds Tryd.pinned (OpenSpec.ofChange fnBuildStatesSpec)

/-- ITS FALSE NEIGHBOUR: 'it returns false'. Refute it at one input. -/
def fnBuildStatesWrong : ChangeSpec := { name := "fnBuildStates", fn := fun _ => fun
  | [d1, d2] => { results := [.lit (.bool false)], args := [d1, d2] }
  | _ => none }
def FnBuildStatesWrongFalsely : Prop := fnBuildStatesRow.holds Tryd.pinned (OpenSpec.ofChange fnBuildStatesWrong)

/-- 'laws.FnStatesCounted': WHATEVER THE INPUT: true; the input reads as it did. -/
def fnStatesCountedSpec : ChangeSpec := { name := "fnStatesCounted", fn := fun _ => fun
  | [d1, d2] => { results := [.lit (.bool true)], args := [d1, d2] }
  | _ => none }
def fnStatesCountedRow : OpenClaim := { program := "ytccmihdpgpgbaaadoor", sum := "e1fffae0cbd4e8a9cf9885f11a05791da9951f617e867c91df9d4e2b4ff6e7d4", func := "loop.example/pub-g01462/laws.FnStatesCounted", spec := "fnStatesCounted", named := ["io.EOF"], apart := false, laid := [("io.EOF", laid_io_EOF)] }
def FnStatesCountedSaid : Prop := fnStatesCountedRow.holds Tryd.pinned (OpenSpec.ofChange fnStatesCountedSpec)

/-- ITS FALSE NEIGHBOUR: 'it returns false'. Refute it at one input. -/
def fnStatesCountedWrong : ChangeSpec := { name := "fnStatesCounted", fn := fun _ => fun
  | [d1, d2] => { results := [.lit (.bool false)], args := [d1, d2] }
  | _ => none }
def FnStatesCountedWrongFalsely : Prop := fnStatesCountedRow.holds Tryd.pinned (OpenSpec.ofChange fnStatesCountedWrong)

/-- 'laws.FnStatesReached': WHATEVER THE INPUT: true; the input reads as it did. -/
def fnStatesReachedSpec : ChangeSpec := { name := "fnStatesReached", fn := fun _ => fun
  | [d1, d2] => { results := [.lit (.bool true)], args := [d1, d2] }
  | _ => none }
def fnStatesReachedRow : OpenClaim := { program := "ytccmihdpgpgbaaadoor", sum := "e1fffae0cbd4e8a9cf9885f11a05791da9951f617e867c91df9d4e2b4ff6e7d4", func := "loop.example/pub-g01462/laws.FnStatesReached", spec := "fnStatesReached", named := ["io.EOF"], apart := false, laid := [("io.EOF", laid_io_EOF)] }
def FnStatesReachedSaid : Prop := fnStatesReachedRow.holds Tryd.pinned (OpenSpec.ofChange fnStatesReachedSpec)

/-- ITS FALSE NEIGHBOUR: 'it returns false'. Refute it at one input. -/
def fnStatesReachedWrong : ChangeSpec := { name := "fnStatesReached", fn := fun _ => fun
  | [d1, d2] => { results := [.lit (.bool false)], args := [d1, d2] }
  | _ => none }
def FnStatesReachedWrongFalsely : Prop := fnStatesReachedRow.holds Tryd.pinned (OpenSpec.ofChange fnStatesReachedWrong)

/-- 'laws.FnStatesRead': WHATEVER THE INPUT: true; the input reads as it did. -/
def fnStatesReadSpec : ChangeSpec := { name := "fnStatesRead", fn := fun _ => fun
  | [d1, d2, d3, d4] => { results := [.lit (.bool true)], args := [d1, d2, d3, d4] }
  | _ => none }
def fnStatesReadRow : OpenClaim := { program := "ytccmihdpgpgbaaadoor", sum := "e1fffae0cbd4e8a9cf9885f11a05791da9951f617e867c91df9d4e2b4ff6e7d4", func := "loop.example/pub-g01462/laws.FnStatesRead", spec := "fnStatesRead", named := ["io.EOF", "io.ErrUnexpectedEOF"], apart := false, laid := [("io.EOF", laid_io_EOF), ("io.ErrUnexpectedEOF", laid_io_ErrUnexpectedEOF)] }
def FnStatesReadSaid : Prop := fnStatesReadRow.holds Tryd.pinned (OpenSpec.ofChange fnStatesReadSpec)

/-- ITS FALSE NEIGHBOUR: 'it returns false'. Refute it at one input. -/
def fnStatesReadWrong : ChangeSpec := { name := "fnStatesRead", fn := fun _ => fun
  | [d1, d2, d3, d4] => { results := [.lit (.bool false)], args := [d1, d2, d3, d4] }
  | _ => none }
def FnStatesReadWrongFalsely : Prop := fnStatesReadRow.holds Tryd.pinned (OpenSpec.ofChange fnStatesReadWrong)

/-- 'laws.FnStatesReference': WHATEVER THE INPUT: true; the input reads as it did. -/
def fnStatesReferenceSpec : ChangeSpec := { name := "fnStatesReference", fn := fun _ => fun
  | [d1, d2, d3, d4] => { results := [.lit (.bool true)], args := [d1, d2, d3, d4] }
  | _ => none }
def fnStatesReferenceRow : OpenClaim := { program := "ytccmihdpgpgbaaadoor", sum := "e1fffae0cbd4e8a9cf9885f11a05791da9951f617e867c91df9d4e2b4ff6e7d4", func := "loop.example/pub-g01462/laws.FnStatesReference", spec := "fnStatesReference", named := ["io.EOF", "io.ErrUnexpectedEOF"], apart := false, laid := [("io.EOF", laid_io_EOF), ("io.ErrUnexpectedEOF", laid_io_ErrUnexpectedEOF)] }
def FnStatesReferenceSaid : Prop := fnStatesReferenceRow.holds Tryd.pinned (OpenSpec.ofChange fnStatesReferenceSpec)

/-- ITS FALSE NEIGHBOUR: 'it returns false'. Refute it at one input. -/
def fnStatesReferenceWrong : ChangeSpec := { name := "fnStatesReference", fn := fun _ => fun
  | [d1, d2, d3, d4] => { results := [.lit (.bool false)], args := [d1, d2, d3, d4] }
  | _ => none }
def FnStatesReferenceWrongFalsely : Prop := fnStatesReferenceRow.holds Tryd.pinned (OpenSpec.ofChange fnStatesReferenceWrong)

/-- 'laws.FnStatesRefused': WHATEVER THE INPUT: true; the input reads as it did. -/
def fnStatesRefusedSpec : ChangeSpec := { name := "fnStatesRefused", fn := fun _ => fun
  | [d1, d2, d3, d4] => { results := [.lit (.bool true)], args := [d1, d2, d3, d4] }
  | _ => none }
def fnStatesRefusedRow : OpenClaim := { program := "ytccmihdpgpgbaaadoor", sum := "e1fffae0cbd4e8a9cf9885f11a05791da9951f617e867c91df9d4e2b4ff6e7d4", func := "loop.example/pub-g01462/laws.FnStatesRefused", spec := "fnStatesRefused", named := ["io.EOF", "io.ErrUnexpectedEOF"], apart := false, laid := [("io.EOF", laid_io_EOF), ("io.ErrUnexpectedEOF", laid_io_ErrUnexpectedEOF)] }
def FnStatesRefusedSaid : Prop := fnStatesRefusedRow.holds Tryd.pinned (OpenSpec.ofChange fnStatesRefusedSpec)

/-- ITS FALSE NEIGHBOUR: 'it returns false'. Refute it at one input. -/
def fnStatesRefusedWrong : ChangeSpec := { name := "fnStatesRefused", fn := fun _ => fun
  | [d1, d2, d3, d4] => { results := [.lit (.bool false)], args := [d1, d2, d3, d4] }
  | _ => none }
def FnStatesRefusedWrongFalsely : Prop := fnStatesRefusedRow.holds Tryd.pinned (OpenSpec.ofChange fnStatesRefusedWrong)

/- THE SECOND FORM. 'bulk': how many values and letters a reading holds, each counted each time it is reached (what is shared counts as often as it is met; a slice's spare places count too). A statement '..UptoSaid' is the law's where the arguments, and the package variables that the reading takes, are together of bulk at most 1048576: NARROWER than '..Said'. Prove '..Said' where nothing that the law and all that it calls make is longer than what came in: it says more and counts as full. Else prove '..UptoSaid'. A law counts once. -/
mutual
def uptoBulk {H : Type} : DataW H → Nat
  | .lit (.string bytes) => bytes.length + 1
  | .lit _ => 1
  | .nil => 1
  | .ptr d => uptoBulk d + 1
  | .slice elems spare => uptoBulkAll elems + uptoBulkAll spare + 1
  | .agg parts => uptoBulkAll parts + 1
  | .iface _ d => uptoBulk d + 1
  | .map entries => uptoBulkEntries entries + 1
  | .held _ => 1
def uptoBulkAll {H : Type} : List (DataW H) → Nat
  | [] => 0
  | d :: r => uptoBulk d + uptoBulkAll r
def uptoBulkEntries {H : Type} : List (Lit × DataW H) → Nat
  | [] => 0
  | x :: r => uptoBulkEntry x + uptoBulkEntries r
def uptoBulkEntry {H : Type} : Lit × DataW H → Nat
  | (.string bytes, d) => bytes.length + uptoBulk d + 1
  | (_, d) => uptoBulk d + 1
 end
def uptoSmall : (H : Type) → List (DataW H) → Bool := fun _ ds => decide (uptoBulkAll ds ≤ 1048576)
def OpenSpec.upto (s : _root_.Go.ChangeSpec) : _root_.Go.OpenSpec := { _root_.Go.OpenSpec.ofChange s with cond := some uptoSmall }

/-- 'laws.FnBuildStates', WHERE WHAT IT READS IS OF BULK AT MOST 1048576: true; the input reads as it did. -/
def fnBuildStatesUptoRow : OpenClaim := { program := "ytccmihdpgpgbaaadoor", sum := "e1fffae0cbd4e8a9cf9885f11a05791da9951f617e867c91df9d4e2b4ff6e7d4", func := "loop.example/pub-g01462/laws.FnBuildStates", spec := "fnBuildStates", named := ["io.EOF"], apart := false, laid := [("io.EOF", laid_io_EOF)], narrowed := true }
def FnBuildStatesUptoSaid : Prop := fnBuildStatesUptoRow.holds Tryd.pinned (OpenSpec.upto fnBuildStatesSpec)

/-- 'laws.FnStatesCounted', WHERE WHAT IT READS IS OF BULK AT MOST 1048576: true; the input reads as it did. -/
def fnStatesCountedUptoRow : OpenClaim := { program := "ytccmihdpgpgbaaadoor", sum := "e1fffae0cbd4e8a9cf9885f11a05791da9951f617e867c91df9d4e2b4ff6e7d4", func := "loop.example/pub-g01462/laws.FnStatesCounted", spec := "fnStatesCounted", named := ["io.EOF"], apart := false, laid := [("io.EOF", laid_io_EOF)], narrowed := true }
def FnStatesCountedUptoSaid : Prop := fnStatesCountedUptoRow.holds Tryd.pinned (OpenSpec.upto fnStatesCountedSpec)

/-- 'laws.FnStatesReached', WHERE WHAT IT READS IS OF BULK AT MOST 1048576: true; the input reads as it did. -/
def fnStatesReachedUptoRow : OpenClaim := { program := "ytccmihdpgpgbaaadoor", sum := "e1fffae0cbd4e8a9cf9885f11a05791da9951f617e867c91df9d4e2b4ff6e7d4", func := "loop.example/pub-g01462/laws.FnStatesReached", spec := "fnStatesReached", named := ["io.EOF"], apart := false, laid := [("io.EOF", laid_io_EOF)], narrowed := true }
def FnStatesReachedUptoSaid : Prop := fnStatesReachedUptoRow.holds Tryd.pinned (OpenSpec.upto fnStatesReachedSpec)

/-- 'laws.FnStatesRead', WHERE WHAT IT READS IS OF BULK AT MOST 1048576: true; the input reads as it did. -/
def fnStatesReadUptoRow : OpenClaim := { program := "ytccmihdpgpgbaaadoor", sum := "e1fffae0cbd4e8a9cf9885f11a05791da9951f617e867c91df9d4e2b4ff6e7d4", func := "loop.example/pub-g01462/laws.FnStatesRead", spec := "fnStatesRead", named := ["io.EOF", "io.ErrUnexpectedEOF"], apart := false, laid := [("io.EOF", laid_io_EOF), ("io.ErrUnexpectedEOF", laid_io_ErrUnexpectedEOF)], narrowed := true }
def FnStatesReadUptoSaid : Prop := fnStatesReadUptoRow.holds Tryd.pinned (OpenSpec.upto fnStatesReadSpec)

/-- 'laws.FnStatesReference', WHERE WHAT IT READS IS OF BULK AT MOST 1048576: true; the input reads as it did. -/
def fnStatesReferenceUptoRow : OpenClaim := { program := "ytccmihdpgpgbaaadoor", sum := "e1fffae0cbd4e8a9cf9885f11a05791da9951f617e867c91df9d4e2b4ff6e7d4", func := "loop.example/pub-g01462/laws.FnStatesReference", spec := "fnStatesReference", named := ["io.EOF", "io.ErrUnexpectedEOF"], apart := false, laid := [("io.EOF", laid_io_EOF), ("io.ErrUnexpectedEOF", laid_io_ErrUnexpectedEOF)], narrowed := true }
def FnStatesReferenceUptoSaid : Prop := fnStatesReferenceUptoRow.holds Tryd.pinned (OpenSpec.upto fnStatesReferenceSpec)

/-- 'laws.FnStatesRefused', WHERE WHAT IT READS IS OF BULK AT MOST 1048576: true; the input reads as it did. -/
def fnStatesRefusedUptoRow : OpenClaim := { program := "ytccmihdpgpgbaaadoor", sum := "e1fffae0cbd4e8a9cf9885f11a05791da9951f617e867c91df9d4e2b4ff6e7d4", func := "loop.example/pub-g01462/laws.FnStatesRefused", spec := "fnStatesRefused", named := ["io.EOF", "io.ErrUnexpectedEOF"], apart := false, laid := [("io.EOF", laid_io_EOF), ("io.ErrUnexpectedEOF", laid_io_ErrUnexpectedEOF)], narrowed := true }
def FnStatesRefusedUptoSaid : Prop := fnStatesRefusedUptoRow.holds Tryd.pinned (OpenSpec.upto fnStatesRefusedSpec)

end Rows
end Go.Proofs.YtccmihdpgpgbaaaDoor
