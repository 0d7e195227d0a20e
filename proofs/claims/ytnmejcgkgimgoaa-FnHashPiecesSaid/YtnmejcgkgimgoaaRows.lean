/-
  No cell of these rows narrows 'for every input' (looked for: loops, veiled, ifaces, maps, wideKeys, modest, calm, conditions, laid).
  DERIVED. THE GIVEN ROWS OF THIS SEAT. 5 by the template 'for every input the law returns true; each argument reads behind the call as it read before'; 0 by the template 'total and deterministic' (their statements: YtnmejcgkgimgoaaTotals.lean).
  GIVEN WITH THE SEED: the statements are not yours to turn. If you find one false, say at which input.
  Laid BY PROGRAM, IN A SANDBOX (cutbox-rows.mjs): the forced cells as the released guide's own fill.sh prints them over the translation 16768bff4cc733b6… (all of the seat's roots in one cut). By AI agents, Wed Nov 11 2026. No macro, syntax, notation, axiom, sorry.
-/
import Derived.Test.YtnmejcgkgimgoaaChecked
import GoSem.Claim
import GoSem.ClaimJoined
import GoSem.ClaimMapViews
import Derived.JoinedTies
import Derived.KernelRfl
namespace Go.Proofs.Ytnmejcgkgimgoaa
/- THE CELL 'sum', in the pinned program and in every row, IS THE sha256 OF THE DUMP (.gsa) THAT YtnmejcgkgimgoaaProg.lean LOADS. Nothing in Lean hashes anything: it is a label: what it is worth is what the hold of that sum in a sandbox is worth. -/
noncomputable def Try.pinned : Pinned := { name := "ytnmejcgkgimgoaa", sum := "16768bff4cc733b6dfb8a561c5aeab8e5fb6926f32e7ae38a192c95d3f8a2764", checked := Try.checked }
namespace Rows
def none {H : Type} : Left H := { results := [], args := [] }

/-- 'laws.FnHashRound': WHATEVER THE INPUT: true; the input reads as it did. -/
def fnHashRoundSpec : ChangeSpec := { name := "fnHashRound", fn := fun _ => fun
  | [d1, d2] => { results := [.lit (.bool true)], args := [d1, d2] }
  | _ => none }
def fnHashRoundRow : OpenClaim := { program := "ytnmejcgkgimgoaa", sum := "16768bff4cc733b6dfb8a561c5aeab8e5fb6926f32e7ae38a192c95d3f8a2764", func := "loop.example/pub-g01462/laws.FnHashRound", spec := "fnHashRound", apart := false }
def FnHashRoundSaid : Prop := fnHashRoundRow.holds Try.pinned (OpenSpec.ofChange fnHashRoundSpec)

/-- ITS FALSE NEIGHBOUR: 'it returns false'. Refute it at one input. -/
def fnHashRoundWrong : ChangeSpec := { name := "fnHashRound", fn := fun _ => fun
  | [d1, d2] => { results := [.lit (.bool false)], args := [d1, d2] }
  | _ => none }
def FnHashRoundWrongFalsely : Prop := fnHashRoundRow.holds Try.pinned (OpenSpec.ofChange fnHashRoundWrong)

/-- 'laws.FnHashMerge': WHATEVER THE INPUT: true; the input reads as it did. -/
def fnHashMergeSpec : ChangeSpec := { name := "fnHashMerge", fn := fun _ => fun
  | [d1, d2] => { results := [.lit (.bool true)], args := [d1, d2] }
  | _ => none }
def fnHashMergeRow : OpenClaim := { program := "ytnmejcgkgimgoaa", sum := "16768bff4cc733b6dfb8a561c5aeab8e5fb6926f32e7ae38a192c95d3f8a2764", func := "loop.example/pub-g01462/laws.FnHashMerge", spec := "fnHashMerge", apart := false }
def FnHashMergeSaid : Prop := fnHashMergeRow.holds Try.pinned (OpenSpec.ofChange fnHashMergeSpec)

/-- ITS FALSE NEIGHBOUR: 'it returns false'. Refute it at one input. -/
def fnHashMergeWrong : ChangeSpec := { name := "fnHashMerge", fn := fun _ => fun
  | [d1, d2] => { results := [.lit (.bool false)], args := [d1, d2] }
  | _ => none }
def FnHashMergeWrongFalsely : Prop := fnHashMergeRow.holds Try.pinned (OpenSpec.ofChange fnHashMergeWrong)

/-- 'laws.FnHashState': WHATEVER THE INPUT: true; the input reads as it did. -/
def fnHashStateSpec : ChangeSpec := { name := "fnHashState", fn := fun _ => fun
  | [d] => { results := [.lit (.bool true)], args := [d] }
  | _ => none }
def fnHashStateRow : OpenClaim := { program := "ytnmejcgkgimgoaa", sum := "16768bff4cc733b6dfb8a561c5aeab8e5fb6926f32e7ae38a192c95d3f8a2764", func := "loop.example/pub-g01462/laws.FnHashState", spec := "fnHashState", apart := false }
def FnHashStateSaid : Prop := fnHashStateRow.holds Try.pinned (OpenSpec.ofChange fnHashStateSpec)

/-- ITS FALSE NEIGHBOUR: 'it returns false'. Refute it at one input. -/
def fnHashStateWrong : ChangeSpec := { name := "fnHashState", fn := fun _ => fun
  | [d] => { results := [.lit (.bool false)], args := [d] }
  | _ => none }
def FnHashStateWrongFalsely : Prop := fnHashStateRow.holds Try.pinned (OpenSpec.ofChange fnHashStateWrong)

/-- 'laws.FnHash': WHATEVER THE INPUT: true; the input reads as it did. -/
def fnHashSpec : ChangeSpec := { name := "fnHash", fn := fun _ => fun
  | [d] => { results := [.lit (.bool true)], args := [d] }
  | _ => none }
def fnHashRow : OpenClaim := { program := "ytnmejcgkgimgoaa", sum := "16768bff4cc733b6dfb8a561c5aeab8e5fb6926f32e7ae38a192c95d3f8a2764", func := "loop.example/pub-g01462/laws.FnHash", spec := "fnHash", apart := false }
def FnHashSaid : Prop := fnHashRow.holds Try.pinned (OpenSpec.ofChange fnHashSpec)

/-- ITS FALSE NEIGHBOUR: 'it returns false'. Refute it at one input. -/
def fnHashWrong : ChangeSpec := { name := "fnHash", fn := fun _ => fun
  | [d] => { results := [.lit (.bool false)], args := [d] }
  | _ => none }
def FnHashWrongFalsely : Prop := fnHashRow.holds Try.pinned (OpenSpec.ofChange fnHashWrong)

/-- 'laws.FnHashPieces': WHATEVER THE INPUT: true; the input reads as it did. -/
def fnHashPiecesSpec : ChangeSpec := { name := "fnHashPieces", fn := fun _ => fun
  | [d] => { results := [.lit (.bool true)], args := [d] }
  | _ => none }
def fnHashPiecesRow : OpenClaim := { program := "ytnmejcgkgimgoaa", sum := "16768bff4cc733b6dfb8a561c5aeab8e5fb6926f32e7ae38a192c95d3f8a2764", func := "loop.example/pub-g01462/laws.FnHashPieces", spec := "fnHashPieces", apart := false }
def FnHashPiecesSaid : Prop := fnHashPiecesRow.holds Try.pinned (OpenSpec.ofChange fnHashPiecesSpec)

/-- ITS FALSE NEIGHBOUR: 'it returns false'. Refute it at one input. -/
def fnHashPiecesWrong : ChangeSpec := { name := "fnHashPieces", fn := fun _ => fun
  | [d] => { results := [.lit (.bool false)], args := [d] }
  | _ => none }
def FnHashPiecesWrongFalsely : Prop := fnHashPiecesRow.holds Try.pinned (OpenSpec.ofChange fnHashPiecesWrong)

/- THE SECOND FORM. 'bulk': how many values and letters a reading holds, each counted each time it is reached (what is shared counts as often as it is met; a slice's spare places count too). A statement '..UptoSaid' is the law's where the arguments, and the package variables that the reading takes, are together of bulk at most 1048576: NARROWER than '..Said'. Prove '..Said' where nothing that the law and all that it calls make is longer than what came in: it says more and counts as full. Else prove '..UptoSaid'. A law counts once. -/
mutual
def uptoBulk {H : Type} : DataW H → Nat
  | .lit (.string bytes) => bytes.length + 1
  | .lit _ => 1
  | .nil => 1
  | .ptr d => uptoBulk d + 1
  | .slice elems spare => uptoBulkAll elems + uptoBulkAll spare + 1
  | .agg parts => uptoBulkAll parts + 1
  | .iface _ d => uptoBulk d + 1
  | .map entries => uptoBulkEntries entries + 1
  | .held _ => 1
def uptoBulkAll {H : Type} : List (DataW H) → Nat
  | [] => 0
  | d :: r => uptoBulk d + uptoBulkAll r
def uptoBulkEntries {H : Type} : List (Lit × DataW H) → Nat
  | [] => 0
  | x :: r => uptoBulkEntry x + uptoBulkEntries r
def uptoBulkEntry {H : Type} : Lit × DataW H → Nat
  | (.string bytes, d) => bytes.length + uptoBulk d + 1
  | (_, d) => uptoBulk d + 1
 end
def uptoSmall : (H : Type) → List (DataW H) → Bool := fun _ ds => decide (uptoBulkAll ds ≤ 1048576)
def OpenSpec.upto (s : _root_.Go.ChangeSpec) : _root_.Go.OpenSpec := { _root_.Go.OpenSpec.ofChange s with cond := some uptoSmall }

/-- 'laws.FnHashRound', WHERE WHAT IT READS IS OF BULK AT MOST 1048576: true; the input reads as it did. -/
def fnHashRoundUptoRow : OpenClaim := { program := "ytnmejcgkgimgoaa", sum := "16768bff4cc733b6dfb8a561c5aeab8e5fb6926f32e7ae38a192c95d3f8a2764", func := "loop.example/pub-g01462/laws.FnHashRound", spec := "fnHashRound", apart := false, narrowed := true }
def FnHashRoundUptoSaid : Prop := fnHashRoundUptoRow.holds Try.pinned (OpenSpec.upto fnHashRoundSpec)

/-- 'laws.FnHashMerge', WHERE WHAT IT READS IS OF BULK AT MOST 1048576: true; the input reads as it did. -/
def fnHashMergeUptoRow : OpenClaim := { program := "ytnmejcgkgimgoaa", sum := "16768bff4cc733b6dfb8a561c5aeab8e5fb6926f32e7ae38a192c95d3f8a2764", func := "loop.example/pub-g01462/laws.FnHashMerge", spec := "fnHashMerge", apart := false, narrowed := true }
def FnHashMergeUptoSaid : Prop := fnHashMergeUptoRow.holds Try.pinned (OpenSpec.upto fnHashMergeSpec)

/-- 'laws.FnHashState', WHERE WHAT IT READS IS OF BULK AT MOST 1048576: true; the input reads as it did. -/
def fnHashStateUptoRow : OpenClaim := { program := "ytnmejcgkgimgoaa", sum := "16768bff4cc733b6dfb8a561c5aeab8e5fb6926f32e7ae38a192c95d3f8a2764", func := "loop.example/pub-g01462/laws.FnHashState", spec := "fnHashState", apart := false, narrowed := true }
def FnHashStateUptoSaid : Prop := fnHashStateUptoRow.holds Try.pinned (OpenSpec.upto fnHashStateSpec)

/-- 'laws.FnHash', WHERE WHAT IT READS IS OF BULK AT MOST 1048576: true; the input reads as it did. -/
def fnHashUptoRow : OpenClaim := { program := "ytnmejcgkgimgoaa", sum := "16768bff4cc733b6dfb8a561c5aeab8e5fb6926f32e7ae38a192c95d3f8a2764", func := "loop.example/pub-g01462/laws.FnHash", spec := "fnHash", apart := false, narrowed := true }
def FnHashUptoSaid : Prop := fnHashUptoRow.holds Try.pinned (OpenSpec.upto fnHashSpec)

/-- 'laws.FnHashPieces', WHERE WHAT IT READS IS OF BULK AT MOST 1048576: true; the input reads as it did. -/
def fnHashPiecesUptoRow : OpenClaim := { program := "ytnmejcgkgimgoaa", sum := "16768bff4cc733b6dfb8a561c5aeab8e5fb6926f32e7ae38a192c95d3f8a2764", func := "loop.example/pub-g01462/laws.FnHashPieces", spec := "fnHashPieces", apart := false, narrowed := true }
def FnHashPiecesUptoSaid : Prop := fnHashPiecesUptoRow.holds Try.pinned (OpenSpec.upto fnHashPiecesSpec)

end Rows
end Go.Proofs.Ytnmejcgkgimgoaa
