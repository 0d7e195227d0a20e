/-
  NARROWER THAN 'FOR EVERY INPUT', by the rows' own cells (each row's printed sentence says how): FnCodesFill: laid · FnCodesRead: laid · FnCodesReference: laid · FnCodesRefused: laid · FnStreamRead: laid · FnStreamReference: laid · FnRawLiterals: laid · FnFourSpoiled: laid · FnSectionRaw: laid.
  DERIVED. THE GIVEN ROWS OF THIS SEAT. 9 by the template 'for every input the law returns true; each argument reads behind the call as it read before'; 0 by the template 'total and deterministic' (their statements: YtgdhdkjbilifiaaDoorTotals.lean).
  GIVEN WITH THE SEED: the statements are not yours to turn. If you find one false, say at which input.
  Laid BY PROGRAM, IN A SANDBOX (cutbox-rows.mjs): the forced cells as the released guide's own fill.sh prints them over the translation 07f202f6c2435ecf… (all of the seat's roots in one cut). By AI agents, Wed Nov 11 2026. No macro, syntax, notation, axiom, sorry.
-/
import Derived.Test.YtgdhdkjbilifiaaDoorChecked
import GoSem.Claim
import GoSem.ClaimJoined
import GoSem.ClaimMapViews
import Derived.JoinedTies
import Derived.KernelRfl
namespace Go.Proofs.YtgdhdkjbilifiaaDoor
/- THE CELL 'sum', in the pinned program and in every row, IS THE sha256 OF THE DUMP (.gsa) THAT YtgdhdkjbilifiaaDoorProg.lean LOADS. Nothing in Lean hashes anything: it is a label: what it is worth is what the hold of that sum in a sandbox is worth. -/
noncomputable def Tryd.pinned : Pinned := { name := "ytgdhdkjbilifiaadoor", sum := "07f202f6c2435ecfacf9f9e29aef7db5bf0162e7edc1f29b3d4c906699fc11bf", checked := Tryd.checked }
namespace Rows
def none {H : Type} : Left H := { results := [], args := [] }

/- WHAT THE LISTED PACKAGE-LEVEL VARIABLES READ AS WHEN THE CALL BEGINS. Each datum BY PROGRAM (the guide's laid-datum.mjs) off the statement by which the dump's own 'gosem.cut.vars' lays the variable. In a bare row this is a premise. The card (YtgdhdkjbilifiaaDoorCards.lean) ties it to the program's text. -/
def laid_io_EOF {H : Type} : DataW H := .iface "*errors.errorString" (.ptr (.agg [.lit (.string [69, 79, 70])]))
def laid_io_ErrUnexpectedEOF {H : Type} : DataW H := .iface "*errors.errorString" (.ptr (.agg [.lit (.string [117, 110, 101, 120, 112, 101, 99, 116, 101, 100, 32, 69, 79, 70])]))

/-- 'laws.FnCodesFill': WHATEVER THE INPUT: true; the input reads as it did. -/
def fnCodesFillSpec : ChangeSpec := { name := "fnCodesFill", fn := fun _ => fun
  | [d1, d2] => { results := [.lit (.bool true)], args := [d1, d2] }
  | _ => none }
def fnCodesFillRow : OpenClaim := { program := "ytgdhdkjbilifiaadoor", sum := "07f202f6c2435ecfacf9f9e29aef7db5bf0162e7edc1f29b3d4c906699fc11bf", func := "loop.example/pub-g01462/laws.FnCodesFill", spec := "fnCodesFill", unfollowed := true, recurses := true, named := ["io.ErrUnexpectedEOF", "io.EOF"], apart := false, laid := [("io.EOF", laid_io_EOF), ("io.ErrUnexpectedEOF", laid_io_ErrUnexpectedEOF)] }
def FnCodesFillSaid : Prop := fnCodesFillRow.holds Tryd.pinned (OpenSpec.ofChange fnCodesFillSpec)

/-- ITS FALSE NEIGHBOUR: 'it returns false'. Refute it at one input. -/
def fnCodesFillWrong : ChangeSpec := { name := "fnCodesFill", fn := fun _ => fun
  | [d1, d2] => { results := [.lit (.bool false)], args := [d1, d2] }
  | _ => none }
def FnCodesFillWrongFalsely : Prop := fnCodesFillRow.holds Tryd.pinned (OpenSpec.ofChange fnCodesFillWrong)

/-- 'laws.FnCodesRead': WHATEVER THE INPUT: true; the input reads as it did. -/
def fnCodesReadSpec : ChangeSpec := { name := "fnCodesRead", fn := fun _ => fun
  | [d1, d2, d3] => { results := [.lit (.bool true)], args := [d1, d2, d3] }
  | _ => none }
def fnCodesReadRow : OpenClaim := { program := "ytgdhdkjbilifiaadoor", sum := "07f202f6c2435ecfacf9f9e29aef7db5bf0162e7edc1f29b3d4c906699fc11bf", func := "loop.example/pub-g01462/laws.FnCodesRead", spec := "fnCodesRead", named := ["io.ErrUnexpectedEOF", "io.EOF"], apart := false, laid := [("io.EOF", laid_io_EOF), ("io.ErrUnexpectedEOF", laid_io_ErrUnexpectedEOF)] }
def FnCodesReadSaid : Prop := fnCodesReadRow.holds Tryd.pinned (OpenSpec.ofChange fnCodesReadSpec)

/-- ITS FALSE NEIGHBOUR: 'it returns false'. Refute it at one input. -/
def fnCodesReadWrong : ChangeSpec := { name := "fnCodesRead", fn := fun _ => fun
  | [d1, d2, d3] => { results := [.lit (.bool false)], args := [d1, d2, d3] }
  | _ => none }
def FnCodesReadWrongFalsely : Prop := fnCodesReadRow.holds Tryd.pinned (OpenSpec.ofChange fnCodesReadWrong)

/-- 'laws.FnCodesReference': WHATEVER THE INPUT: true; the input reads as it did. -/
def fnCodesReferenceSpec : ChangeSpec := { name := "fnCodesReference", fn := fun _ => fun
  | [d1, d2] => { results := [.lit (.bool true)], args := [d1, d2] }
  | _ => none }
def fnCodesReferenceRow : OpenClaim := { program := "ytgdhdkjbilifiaadoor", sum := "07f202f6c2435ecfacf9f9e29aef7db5bf0162e7edc1f29b3d4c906699fc11bf", func := "loop.example/pub-g01462/laws.FnCodesReference", spec := "fnCodesReference", unfollowed := true, recurses := true, named := ["io.ErrUnexpectedEOF", "io.EOF"], apart := false, laid := [("io.EOF", laid_io_EOF), ("io.ErrUnexpectedEOF", laid_io_ErrUnexpectedEOF)] }
def FnCodesReferenceSaid : Prop := fnCodesReferenceRow.holds Tryd.pinned (OpenSpec.ofChange fnCodesReferenceSpec)

/-- ITS FALSE NEIGHBOUR: 'it returns false'. Refute it at one input. -/
def fnCodesReferenceWrong : ChangeSpec := { name := "fnCodesReference", fn := fun _ => fun
  | [d1, d2] => { results := [.lit (.bool false)], args := [d1, d2] }
  | _ => none }
def FnCodesReferenceWrongFalsely : Prop := fnCodesReferenceRow.holds Tryd.pinned (OpenSpec.ofChange fnCodesReferenceWrong)

/-- 'laws.FnCodesRefused': WHATEVER THE INPUT: true; the input reads as it did. -/
def fnCodesRefusedSpec : ChangeSpec := { name := "fnCodesRefused", fn := fun _ => fun
  | [d1, d2] => { results := [.lit (.bool true)], args := [d1, d2] }
  | _ => none }
def fnCodesRefusedRow : OpenClaim := { program := "ytgdhdkjbilifiaadoor", sum := "07f202f6c2435ecfacf9f9e29aef7db5bf0162e7edc1f29b3d4c906699fc11bf", func := "loop.example/pub-g01462/laws.FnCodesRefused", spec := "fnCodesRefused", named := ["io.ErrUnexpectedEOF", "io.EOF"], apart := false, laid := [("io.EOF", laid_io_EOF), ("io.ErrUnexpectedEOF", laid_io_ErrUnexpectedEOF)] }
def FnCodesRefusedSaid : Prop := fnCodesRefusedRow.holds Tryd.pinned (OpenSpec.ofChange fnCodesRefusedSpec)

/-- ITS FALSE NEIGHBOUR: 'it returns false'. Refute it at one input. -/
def fnCodesRefusedWrong : ChangeSpec := { name := "fnCodesRefused", fn := fun _ => fun
  | [d1, d2] => { results := [.lit (.bool false)], args := [d1, d2] }
  | _ => none }
def FnCodesRefusedWrongFalsely : Prop := fnCodesRefusedRow.holds Tryd.pinned (OpenSpec.ofChange fnCodesRefusedWrong)

/-- 'laws.FnStreamRead': WHATEVER THE INPUT: true; the input reads as it did. -/
def fnStreamReadSpec : ChangeSpec := { name := "fnStreamRead", fn := fun _ => fun
  | [d1, d2, d3, d4] => { results := [.lit (.bool true)], args := [d1, d2, d3, d4] }
  | _ => none }
def fnStreamReadRow : OpenClaim := { program := "ytgdhdkjbilifiaadoor", sum := "07f202f6c2435ecfacf9f9e29aef7db5bf0162e7edc1f29b3d4c906699fc11bf", func := "loop.example/pub-g01462/laws.FnStreamRead", spec := "fnStreamRead", named := ["io.ErrUnexpectedEOF", "io.EOF"], apart := false, laid := [("io.EOF", laid_io_EOF), ("io.ErrUnexpectedEOF", laid_io_ErrUnexpectedEOF)] }
def FnStreamReadSaid : Prop := fnStreamReadRow.holds Tryd.pinned (OpenSpec.ofChange fnStreamReadSpec)

/-- ITS FALSE NEIGHBOUR: 'it returns false'. Refute it at one input. -/
def fnStreamReadWrong : ChangeSpec := { name := "fnStreamRead", fn := fun _ => fun
  | [d1, d2, d3, d4] => { results := [.lit (.bool false)], args := [d1, d2, d3, d4] }
  | _ => none }
def FnStreamReadWrongFalsely : Prop := fnStreamReadRow.holds Tryd.pinned (OpenSpec.ofChange fnStreamReadWrong)

/-- 'laws.FnStreamReference': WHATEVER THE INPUT: true; the input reads as it did. -/
def fnStreamReferenceSpec : ChangeSpec := { name := "fnStreamReference", fn := fun _ => fun
  | [d1, d2, d3, d4, d5] => { results := [.lit (.bool true)], args := [d1, d2, d3, d4, d5] }
  | _ => none }
def fnStreamReferenceRow : OpenClaim := { program := "ytgdhdkjbilifiaadoor", sum := "07f202f6c2435ecfacf9f9e29aef7db5bf0162e7edc1f29b3d4c906699fc11bf", func := "loop.example/pub-g01462/laws.FnStreamReference", spec := "fnStreamReference", named := ["io.ErrUnexpectedEOF", "io.EOF"], apart := false, laid := [("io.EOF", laid_io_EOF), ("io.ErrUnexpectedEOF", laid_io_ErrUnexpectedEOF)] }
def FnStreamReferenceSaid : Prop := fnStreamReferenceRow.holds Tryd.pinned (OpenSpec.ofChange fnStreamReferenceSpec)

/-- ITS FALSE NEIGHBOUR: 'it returns false'. Refute it at one input. -/
def fnStreamReferenceWrong : ChangeSpec := { name := "fnStreamReference", fn := fun _ => fun
  | [d1, d2, d3, d4, d5] => { results := [.lit (.bool false)], args := [d1, d2, d3, d4, d5] }
  | _ => none }
def FnStreamReferenceWrongFalsely : Prop := fnStreamReferenceRow.holds Tryd.pinned (OpenSpec.ofChange fnStreamReferenceWrong)

/-- 'laws.FnRawLiterals': WHATEVER THE INPUT: true; the input reads as it did. -/
def fnRawLiteralsSpec : ChangeSpec := { name := "fnRawLiterals", fn := fun _ => fun
  | [d1, d2, d3] => { results := [.lit (.bool true)], args := [d1, d2, d3] }
  | _ => none }
def fnRawLiteralsRow : OpenClaim := { program := "ytgdhdkjbilifiaadoor", sum := "07f202f6c2435ecfacf9f9e29aef7db5bf0162e7edc1f29b3d4c906699fc11bf", func := "loop.example/pub-g01462/laws.FnRawLiterals", spec := "fnRawLiterals", named := ["io.ErrUnexpectedEOF", "io.EOF"], apart := false, laid := [("io.EOF", laid_io_EOF), ("io.ErrUnexpectedEOF", laid_io_ErrUnexpectedEOF)] }
def FnRawLiteralsSaid : Prop := fnRawLiteralsRow.holds Tryd.pinned (OpenSpec.ofChange fnRawLiteralsSpec)

/-- ITS FALSE NEIGHBOUR: 'it returns false'. Refute it at one input. -/
def fnRawLiteralsWrong : ChangeSpec := { name := "fnRawLiterals", fn := fun _ => fun
  | [d1, d2, d3] => { results := [.lit (.bool false)], args := [d1, d2, d3] }
  | _ => none }
def FnRawLiteralsWrongFalsely : Prop := fnRawLiteralsRow.holds Tryd.pinned (OpenSpec.ofChange fnRawLiteralsWrong)

/-- 'laws.FnFourSpoiled': WHATEVER THE INPUT: true; the input reads as it did. -/
def fnFourSpoiledSpec : ChangeSpec := { name := "fnFourSpoiled", fn := fun _ => fun
  | [d1, d2, d3, d4] => { results := [.lit (.bool true)], args := [d1, d2, d3, d4] }
  | _ => none }
def fnFourSpoiledRow : OpenClaim := { program := "ytgdhdkjbilifiaadoor", sum := "07f202f6c2435ecfacf9f9e29aef7db5bf0162e7edc1f29b3d4c906699fc11bf", func := "loop.example/pub-g01462/laws.FnFourSpoiled", spec := "fnFourSpoiled", unfollowed := true, recurses := true, named := ["io.ErrUnexpectedEOF", "io.EOF"], apart := false, laid := [("io.EOF", laid_io_EOF), ("io.ErrUnexpectedEOF", laid_io_ErrUnexpectedEOF)] }
def FnFourSpoiledSaid : Prop := fnFourSpoiledRow.holds Tryd.pinned (OpenSpec.ofChange fnFourSpoiledSpec)

/-- ITS FALSE NEIGHBOUR: 'it returns false'. Refute it at one input. -/
def fnFourSpoiledWrong : ChangeSpec := { name := "fnFourSpoiled", fn := fun _ => fun
  | [d1, d2, d3, d4] => { results := [.lit (.bool false)], args := [d1, d2, d3, d4] }
  | _ => none }
def FnFourSpoiledWrongFalsely : Prop := fnFourSpoiledRow.holds Tryd.pinned (OpenSpec.ofChange fnFourSpoiledWrong)

/-- 'laws.FnSectionRaw': WHATEVER THE INPUT: true; the input reads as it did. -/
def fnSectionRawSpec : ChangeSpec := { name := "fnSectionRaw", fn := fun _ => fun
  | [d1, d2] => { results := [.lit (.bool true)], args := [d1, d2] }
  | _ => none }
def fnSectionRawRow : OpenClaim := { program := "ytgdhdkjbilifiaadoor", sum := "07f202f6c2435ecfacf9f9e29aef7db5bf0162e7edc1f29b3d4c906699fc11bf", func := "loop.example/pub-g01462/laws.FnSectionRaw", spec := "fnSectionRaw", unfollowed := true, recurses := true, named := ["io.ErrUnexpectedEOF", "io.EOF"], apart := false, laid := [("io.EOF", laid_io_EOF), ("io.ErrUnexpectedEOF", laid_io_ErrUnexpectedEOF)] }
def FnSectionRawSaid : Prop := fnSectionRawRow.holds Tryd.pinned (OpenSpec.ofChange fnSectionRawSpec)

/-- ITS FALSE NEIGHBOUR: 'it returns false'. Refute it at one input. -/
def fnSectionRawWrong : ChangeSpec := { name := "fnSectionRaw", fn := fun _ => fun
  | [d1, d2] => { results := [.lit (.bool false)], args := [d1, d2] }
  | _ => none }
def FnSectionRawWrongFalsely : Prop := fnSectionRawRow.holds Tryd.pinned (OpenSpec.ofChange fnSectionRawWrong)

/- THE SECOND FORM. 'bulk': how many values and letters a reading holds, each counted each time it is reached (what is shared counts as often as it is met; a slice's spare places count too). A statement '..UptoSaid' is the law's where the arguments, and the package variables that the reading takes, are together of bulk at most 1048576: NARROWER than '..Said'. Prove '..Said' where nothing that the law and all that it calls make is longer than what came in: it says more and counts as full. Else prove '..UptoSaid'. A law counts once. -/
mutual
def uptoBulk {H : Type} : DataW H → Nat
  | .lit (.string bytes) => bytes.length + 1
  | .lit _ => 1
  | .nil => 1
  | .ptr d => uptoBulk d + 1
  | .slice elems spare => uptoBulkAll elems + uptoBulkAll spare + 1
  | .agg parts => uptoBulkAll parts + 1
  | .iface _ d => uptoBulk d + 1
  | .map entries => uptoBulkEntries entries + 1
  | .held _ => 1
def uptoBulkAll {H : Type} : List (DataW H) → Nat
  | [] => 0
  | d :: r => uptoBulk d + uptoBulkAll r
def uptoBulkEntries {H : Type} : List (Lit × DataW H) → Nat
  | [] => 0
  | x :: r => uptoBulkEntry x + uptoBulkEntries r
def uptoBulkEntry {H : Type} : Lit × DataW H → Nat
  | (.string bytes, d) => bytes.length + uptoBulk d + 1
  | (_, d) => uptoBulk d + 1
 end
def uptoSmall : (H : Type) → List (DataW H) → Bool := fun _ ds => decide (uptoBulkAll ds ≤ 1048576)
def OpenSpec.upto (s : _root_.Go.ChangeSpec) : _root_.Go.OpenSpec := { _root_.Go.OpenSpec.ofChange s with cond := some uptoSmall }

/-- 'laws.FnCodesFill', WHERE WHAT IT READS IS OF BULK AT MOST 1048576: true; the input reads as it did. -/
def fnCodesFillUptoRow : OpenClaim := { program := "ytgdhdkjbilifiaadoor", sum := "07f202f6c2435ecfacf9f9e29aef7db5bf0162e7edc1f29b3d4c906699fc11bf", func := "loop.example/pub-g01462/laws.FnCodesFill", spec := "fnCodesFill", unfollowed := true, recurses := true, named := ["io.ErrUnexpectedEOF", "io.EOF"], apart := false, laid := [("io.EOF", laid_io_EOF), ("io.ErrUnexpectedEOF", laid_io_ErrUnexpectedEOF)], narrowed := true }
def FnCodesFillUptoSaid : Prop := fnCodesFillUptoRow.holds Tryd.pinned (OpenSpec.upto fnCodesFillSpec)

/-- 'laws.FnCodesRead', WHERE WHAT IT READS IS OF BULK AT MOST 1048576: true; the input reads as it did. -/
def fnCodesReadUptoRow : OpenClaim := { program := "ytgdhdkjbilifiaadoor", sum := "07f202f6c2435ecfacf9f9e29aef7db5bf0162e7edc1f29b3d4c906699fc11bf", func := "loop.example/pub-g01462/laws.FnCodesRead", spec := "fnCodesRead", named := ["io.ErrUnexpectedEOF", "io.EOF"], apart := false, laid := [("io.EOF", laid_io_EOF), ("io.ErrUnexpectedEOF", laid_io_ErrUnexpectedEOF)], narrowed := true }
def FnCodesReadUptoSaid : Prop := fnCodesReadUptoRow.holds Tryd.pinned (OpenSpec.upto fnCodesReadSpec)

/-- 'laws.FnCodesReference', WHERE WHAT IT READS IS OF BULK AT MOST 1048576: true; the input reads as it did. -/
def fnCodesReferenceUptoRow : OpenClaim := { program := "ytgdhdkjbilifiaadoor", sum := "07f202f6c2435ecfacf9f9e29aef7db5bf0162e7edc1f29b3d4c906699fc11bf", func := "loop.example/pub-g01462/laws.FnCodesReference", spec := "fnCodesReference", unfollowed := true, recurses := true, named := ["io.ErrUnexpectedEOF", "io.EOF"], apart := false, laid := [("io.EOF", laid_io_EOF), ("io.ErrUnexpectedEOF", laid_io_ErrUnexpectedEOF)], narrowed := true }
def FnCodesReferenceUptoSaid : Prop := fnCodesReferenceUptoRow.holds Tryd.pinned (OpenSpec.upto fnCodesReferenceSpec)

/-- 'laws.FnCodesRefused', WHERE WHAT IT READS IS OF BULK AT MOST 1048576: true; the input reads as it did. -/
def fnCodesRefusedUptoRow : OpenClaim := { program := "ytgdhdkjbilifiaadoor", sum := "07f202f6c2435ecfacf9f9e29aef7db5bf0162e7edc1f29b3d4c906699fc11bf", func := "loop.example/pub-g01462/laws.FnCodesRefused", spec := "fnCodesRefused", named := ["io.ErrUnexpectedEOF", "io.EOF"], apart := false, laid := [("io.EOF", laid_io_EOF), ("io.ErrUnexpectedEOF", laid_io_ErrUnexpectedEOF)], narrowed := true }
def FnCodesRefusedUptoSaid : Prop := fnCodesRefusedUptoRow.holds Tryd.pinned (OpenSpec.upto fnCodesRefusedSpec)

/-- 'laws.FnStreamRead', WHERE WHAT IT READS IS OF BULK AT MOST 1048576: true; the input reads as it did. -/
def fnStreamReadUptoRow : OpenClaim := { program := "ytgdhdkjbilifiaadoor", sum := "07f202f6c2435ecfacf9f9e29aef7db5bf0162e7edc1f29b3d4c906699fc11bf", func := "loop.example/pub-g01462/laws.FnStreamRead", spec := "fnStreamRead", named := ["io.ErrUnexpectedEOF", "io.EOF"], apart := false, laid := [("io.EOF", laid_io_EOF), ("io.ErrUnexpectedEOF", laid_io_ErrUnexpectedEOF)], narrowed := true }
def FnStreamReadUptoSaid : Prop := fnStreamReadUptoRow.holds Tryd.pinned (OpenSpec.upto fnStreamReadSpec)

/-- 'laws.FnStreamReference', WHERE WHAT IT READS IS OF BULK AT MOST 1048576: true; the input reads as it did. -/
def fnStreamReferenceUptoRow : OpenClaim := { program := "ytgdhdkjbilifiaadoor", sum := "07f202f6c2435ecfacf9f9e29aef7db5bf0162e7edc1f29b3d4c906699fc11bf", func := "loop.example/pub-g01462/laws.FnStreamReference", spec := "fnStreamReference", named := ["io.ErrUnexpectedEOF", "io.EOF"], apart := false, laid := [("io.EOF", laid_io_EOF), ("io.ErrUnexpectedEOF", laid_io_ErrUnexpectedEOF)], narrowed := true }
def FnStreamReferenceUptoSaid : Prop := fnStreamReferenceUptoRow.holds Tryd.pinned (OpenSpec.upto fnStreamReferenceSpec)

/-- 'laws.FnRawLiterals', WHERE WHAT IT READS IS OF BULK AT MOST 1048576: true; the input reads as it did. -/
def fnRawLiteralsUptoRow : OpenClaim := { program := "ytgdhdkjbilifiaadoor", sum := "07f202f6c2435ecfacf9f9e29aef7db5bf0162e7edc1f29b3d4c906699fc11bf", func := "loop.example/pub-g01462/laws.FnRawLiterals", spec := "fnRawLiterals", named := ["io.ErrUnexpectedEOF", "io.EOF"], apart := false, laid := [("io.EOF", laid_io_EOF), ("io.ErrUnexpectedEOF", laid_io_ErrUnexpectedEOF)], narrowed := true }
def FnRawLiteralsUptoSaid : Prop := fnRawLiteralsUptoRow.holds Tryd.pinned (OpenSpec.upto fnRawLiteralsSpec)

/-- 'laws.FnFourSpoiled', WHERE WHAT IT READS IS OF BULK AT MOST 1048576: true; the input reads as it did. -/
def fnFourSpoiledUptoRow : OpenClaim := { program := "ytgdhdkjbilifiaadoor", sum := "07f202f6c2435ecfacf9f9e29aef7db5bf0162e7edc1f29b3d4c906699fc11bf", func := "loop.example/pub-g01462/laws.FnFourSpoiled", spec := "fnFourSpoiled", unfollowed := true, recurses := true, named := ["io.ErrUnexpectedEOF", "io.EOF"], apart := false, laid := [("io.EOF", laid_io_EOF), ("io.ErrUnexpectedEOF", laid_io_ErrUnexpectedEOF)], narrowed := true }
def FnFourSpoiledUptoSaid : Prop := fnFourSpoiledUptoRow.holds Tryd.pinned (OpenSpec.upto fnFourSpoiledSpec)

/-- 'laws.FnSectionRaw', WHERE WHAT IT READS IS OF BULK AT MOST 1048576: true; the input reads as it did. -/
def fnSectionRawUptoRow : OpenClaim := { program := "ytgdhdkjbilifiaadoor", sum := "07f202f6c2435ecfacf9f9e29aef7db5bf0162e7edc1f29b3d4c906699fc11bf", func := "loop.example/pub-g01462/laws.FnSectionRaw", spec := "fnSectionRaw", unfollowed := true, recurses := true, named := ["io.ErrUnexpectedEOF", "io.EOF"], apart := false, laid := [("io.EOF", laid_io_EOF), ("io.ErrUnexpectedEOF", laid_io_ErrUnexpectedEOF)], narrowed := true }
def FnSectionRawUptoSaid : Prop := fnSectionRawUptoRow.holds Tryd.pinned (OpenSpec.upto fnSectionRawSpec)

end Rows
end Go.Proofs.YtgdhdkjbilifiaaDoor
