/-
  No cell of these rows narrows 'for every input' (looked for: loops, veiled, ifaces, maps, wideKeys, modest, calm, conditions, laid).
  DERIVED. THE GIVEN ROWS OF THIS SEAT. 15 by the template 'for every input the law returns true; each argument reads behind the call as it read before'; 0 by the template 'total and deterministic' (their statements: YtnlndimojibimaaTotals.lean).
  GIVEN WITH THE SEED: the statements are not yours to turn. If you find one false, say at which input.
  Laid BY PROGRAM, IN A SANDBOX (cutbox-rows.mjs): the forced cells as the released guide's own fill.sh prints them over the translation f0c1132a0825267d… (all of the seat's roots in one cut). By AI agents, Wed Nov 11 2026. No macro, syntax, notation, axiom, sorry.
-/
import Derived.Test.YtnlndimojibimaaChecked
import GoSem.Claim
import GoSem.ClaimJoined
import GoSem.ClaimMapViews
import Derived.JoinedTies
import Derived.KernelRfl
namespace Go.Proofs.Ytnlndimojibimaa
/- THE CELL 'sum', in the pinned program and in every row, IS THE sha256 OF THE DUMP (.gsa) THAT YtnlndimojibimaaProg.lean LOADS. Nothing in Lean hashes anything: it is a label: what it is worth is what the hold of that sum in a sandbox is worth. -/
noncomputable def Try.pinned : Pinned := { name := "ytnlndimojibimaa", sum := "f0c1132a0825267dacf5361e1891950d14472e30c514d08ffdf4010491103154", checked := Try.checked }
namespace Rows
def none {H : Type} : Left H := { results := [], args := [] }

/-- 'laws.FnExactAppendList': WHATEVER THE INPUT: true; the input reads as it did. -/
def fnExactAppendListSpec : ChangeSpec := { name := "fnExactAppendList", fn := fun _ => fun
  | [d] => { results := [.lit (.bool true)], args := [d] }
  | _ => none }
def fnExactAppendListRow : OpenClaim := { program := "ytnlndimojibimaa", sum := "f0c1132a0825267dacf5361e1891950d14472e30c514d08ffdf4010491103154", func := "loop.example/lib-g01425/laws.FnExactAppendList", spec := "fnExactAppendList", apart := false }
def FnExactAppendListSaid : Prop := fnExactAppendListRow.holds Try.pinned (OpenSpec.ofChange fnExactAppendListSpec)

/-- ITS FALSE NEIGHBOUR: 'it returns false'. Refute it at one input. -/
def fnExactAppendListWrong : ChangeSpec := { name := "fnExactAppendList", fn := fun _ => fun
  | [d] => { results := [.lit (.bool false)], args := [d] }
  | _ => none }
def FnExactAppendListWrongFalsely : Prop := fnExactAppendListRow.holds Try.pinned (OpenSpec.ofChange fnExactAppendListWrong)

/-- 'laws.FnListBegin': WHATEVER THE INPUT: true; the input reads as it did. -/
def fnListBeginSpec : ChangeSpec := { name := "fnListBegin", fn := fun _ => fun
  | [d1, d2] => { results := [.lit (.bool true)], args := [d1, d2] }
  | _ => none }
def fnListBeginRow : OpenClaim := { program := "ytnlndimojibimaa", sum := "f0c1132a0825267dacf5361e1891950d14472e30c514d08ffdf4010491103154", func := "loop.example/lib-g01425/laws.FnListBegin", spec := "fnListBegin", apart := false }
def FnListBeginSaid : Prop := fnListBeginRow.holds Try.pinned (OpenSpec.ofChange fnListBeginSpec)

/-- ITS FALSE NEIGHBOUR: 'it returns false'. Refute it at one input. -/
def fnListBeginWrong : ChangeSpec := { name := "fnListBegin", fn := fun _ => fun
  | [d1, d2] => { results := [.lit (.bool false)], args := [d1, d2] }
  | _ => none }
def FnListBeginWrongFalsely : Prop := fnListBeginRow.holds Try.pinned (OpenSpec.ofChange fnListBeginWrong)

/-- 'laws.FnListEnds': WHATEVER THE INPUT: true; the input reads as it did. -/
def fnListEndsSpec : ChangeSpec := { name := "fnListEnds", fn := fun _ => fun
  | [d] => { results := [.lit (.bool true)], args := [d] }
  | _ => none }
def fnListEndsRow : OpenClaim := { program := "ytnlndimojibimaa", sum := "f0c1132a0825267dacf5361e1891950d14472e30c514d08ffdf4010491103154", func := "loop.example/lib-g01425/laws.FnListEnds", spec := "fnListEnds", apart := false }
def FnListEndsSaid : Prop := fnListEndsRow.holds Try.pinned (OpenSpec.ofChange fnListEndsSpec)

/-- ITS FALSE NEIGHBOUR: 'it returns false'. Refute it at one input. -/
def fnListEndsWrong : ChangeSpec := { name := "fnListEnds", fn := fun _ => fun
  | [d] => { results := [.lit (.bool false)], args := [d] }
  | _ => none }
def FnListEndsWrongFalsely : Prop := fnListEndsRow.holds Try.pinned (OpenSpec.ofChange fnListEndsWrong)

/-- 'laws.FnListLength': WHATEVER THE INPUT: true; the input reads as it did. -/
def fnListLengthSpec : ChangeSpec := { name := "fnListLength", fn := fun _ => fun
  | [d] => { results := [.lit (.bool true)], args := [d] }
  | _ => none }
def fnListLengthRow : OpenClaim := { program := "ytnlndimojibimaa", sum := "f0c1132a0825267dacf5361e1891950d14472e30c514d08ffdf4010491103154", func := "loop.example/lib-g01425/laws.FnListLength", spec := "fnListLength", apart := false }
def FnListLengthSaid : Prop := fnListLengthRow.holds Try.pinned (OpenSpec.ofChange fnListLengthSpec)

/-- ITS FALSE NEIGHBOUR: 'it returns false'. Refute it at one input. -/
def fnListLengthWrong : ChangeSpec := { name := "fnListLength", fn := fun _ => fun
  | [d] => { results := [.lit (.bool false)], args := [d] }
  | _ => none }
def FnListLengthWrongFalsely : Prop := fnListLengthRow.holds Try.pinned (OpenSpec.ofChange fnListLengthWrong)

/-- 'laws.FnSumLength': WHATEVER THE INPUT: true; the input reads as it did. -/
def fnSumLengthSpec : ChangeSpec := { name := "fnSumLength", fn := fun _ => fun
  | [d1, d2] => { results := [.lit (.bool true)], args := [d1, d2] }
  | _ => none }
def fnSumLengthRow : OpenClaim := { program := "ytnlndimojibimaa", sum := "f0c1132a0825267dacf5361e1891950d14472e30c514d08ffdf4010491103154", func := "loop.example/lib-g01425/laws.FnSumLength", spec := "fnSumLength", apart := false }
def FnSumLengthSaid : Prop := fnSumLengthRow.holds Try.pinned (OpenSpec.ofChange fnSumLengthSpec)

/-- ITS FALSE NEIGHBOUR: 'it returns false'. Refute it at one input. -/
def fnSumLengthWrong : ChangeSpec := { name := "fnSumLength", fn := fun _ => fun
  | [d1, d2] => { results := [.lit (.bool false)], args := [d1, d2] }
  | _ => none }
def FnSumLengthWrongFalsely : Prop := fnSumLengthRow.holds Try.pinned (OpenSpec.ofChange fnSumLengthWrong)

/-- 'laws.FnUvarintStep': WHATEVER THE INPUT: true; the input reads as it did. -/
def fnUvarintStepSpec : ChangeSpec := { name := "fnUvarintStep", fn := fun _ => fun
  | [d1, d2] => { results := [.lit (.bool true)], args := [d1, d2] }
  | _ => none }
def fnUvarintStepRow : OpenClaim := { program := "ytnlndimojibimaa", sum := "f0c1132a0825267dacf5361e1891950d14472e30c514d08ffdf4010491103154", func := "loop.example/lib-g01425/laws.FnUvarintStep", spec := "fnUvarintStep", apart := false }
def FnUvarintStepSaid : Prop := fnUvarintStepRow.holds Try.pinned (OpenSpec.ofChange fnUvarintStepSpec)

/-- ITS FALSE NEIGHBOUR: 'it returns false'. Refute it at one input. -/
def fnUvarintStepWrong : ChangeSpec := { name := "fnUvarintStep", fn := fun _ => fun
  | [d1, d2] => { results := [.lit (.bool false)], args := [d1, d2] }
  | _ => none }
def FnUvarintStepWrongFalsely : Prop := fnUvarintStepRow.holds Try.pinned (OpenSpec.ofChange fnUvarintStepWrong)

/-- 'laws.FnExactAppendSignedList': WHATEVER THE INPUT: true; the input reads as it did. -/
def fnExactAppendSignedListSpec : ChangeSpec := { name := "fnExactAppendSignedList", fn := fun _ => fun
  | [d] => { results := [.lit (.bool true)], args := [d] }
  | _ => none }
def fnExactAppendSignedListRow : OpenClaim := { program := "ytnlndimojibimaa", sum := "f0c1132a0825267dacf5361e1891950d14472e30c514d08ffdf4010491103154", func := "loop.example/lib-g01425/laws.FnExactAppendSignedList", spec := "fnExactAppendSignedList", apart := false }
def FnExactAppendSignedListSaid : Prop := fnExactAppendSignedListRow.holds Try.pinned (OpenSpec.ofChange fnExactAppendSignedListSpec)

/-- ITS FALSE NEIGHBOUR: 'it returns false'. Refute it at one input. -/
def fnExactAppendSignedListWrong : ChangeSpec := { name := "fnExactAppendSignedList", fn := fun _ => fun
  | [d] => { results := [.lit (.bool false)], args := [d] }
  | _ => none }
def FnExactAppendSignedListWrongFalsely : Prop := fnExactAppendSignedListRow.holds Try.pinned (OpenSpec.ofChange fnExactAppendSignedListWrong)

/-- 'laws.FnSignedOpposite': WHATEVER THE INPUT: true; the input reads as it did. -/
def fnSignedOppositeSpec : ChangeSpec := { name := "fnSignedOpposite", fn := fun _ => fun
  | [d] => { results := [.lit (.bool true)], args := [d] }
  | _ => none }
def fnSignedOppositeRow : OpenClaim := { program := "ytnlndimojibimaa", sum := "f0c1132a0825267dacf5361e1891950d14472e30c514d08ffdf4010491103154", func := "loop.example/lib-g01425/laws.FnSignedOpposite", spec := "fnSignedOpposite", apart := false }
def FnSignedOppositeSaid : Prop := fnSignedOppositeRow.holds Try.pinned (OpenSpec.ofChange fnSignedOppositeSpec)

/-- ITS FALSE NEIGHBOUR: 'it returns false'. Refute it at one input. -/
def fnSignedOppositeWrong : ChangeSpec := { name := "fnSignedOpposite", fn := fun _ => fun
  | [d] => { results := [.lit (.bool false)], args := [d] }
  | _ => none }
def FnSignedOppositeWrongFalsely : Prop := fnSignedOppositeRow.holds Try.pinned (OpenSpec.ofChange fnSignedOppositeWrong)

/-- 'laws.FnPieces': WHATEVER THE INPUT: true; the input reads as it did. -/
def fnPiecesSpec : ChangeSpec := { name := "fnPieces", fn := fun _ => fun
  | [d1, d2] => { results := [.lit (.bool true)], args := [d1, d2] }
  | _ => none }
def fnPiecesRow : OpenClaim := { program := "ytnlndimojibimaa", sum := "f0c1132a0825267dacf5361e1891950d14472e30c514d08ffdf4010491103154", func := "loop.example/lib-g01425/laws.FnPieces", spec := "fnPieces", apart := false }
def FnPiecesSaid : Prop := fnPiecesRow.holds Try.pinned (OpenSpec.ofChange fnPiecesSpec)

/-- ITS FALSE NEIGHBOUR: 'it returns false'. Refute it at one input. -/
def fnPiecesWrong : ChangeSpec := { name := "fnPieces", fn := fun _ => fun
  | [d1, d2] => { results := [.lit (.bool false)], args := [d1, d2] }
  | _ => none }
def FnPiecesWrongFalsely : Prop := fnPiecesRow.holds Try.pinned (OpenSpec.ofChange fnPiecesWrong)

/-- 'laws.FnSignedList': WHATEVER THE INPUT: true; the input reads as it did. -/
def fnSignedListSpec : ChangeSpec := { name := "fnSignedList", fn := fun _ => fun
  | [d] => { results := [.lit (.bool true)], args := [d] }
  | _ => none }
def fnSignedListRow : OpenClaim := { program := "ytnlndimojibimaa", sum := "f0c1132a0825267dacf5361e1891950d14472e30c514d08ffdf4010491103154", func := "loop.example/lib-g01425/laws.FnSignedList", spec := "fnSignedList", apart := false }
def FnSignedListSaid : Prop := fnSignedListRow.holds Try.pinned (OpenSpec.ofChange fnSignedListSpec)

/-- ITS FALSE NEIGHBOUR: 'it returns false'. Refute it at one input. -/
def fnSignedListWrong : ChangeSpec := { name := "fnSignedList", fn := fun _ => fun
  | [d] => { results := [.lit (.bool false)], args := [d] }
  | _ => none }
def FnSignedListWrongFalsely : Prop := fnSignedListRow.holds Try.pinned (OpenSpec.ofChange fnSignedListWrong)

/-- 'laws.FnSignedPieces': WHATEVER THE INPUT: true; the input reads as it did. -/
def fnSignedPiecesSpec : ChangeSpec := { name := "fnSignedPieces", fn := fun _ => fun
  | [d1, d2] => { results := [.lit (.bool true)], args := [d1, d2] }
  | _ => none }
def fnSignedPiecesRow : OpenClaim := { program := "ytnlndimojibimaa", sum := "f0c1132a0825267dacf5361e1891950d14472e30c514d08ffdf4010491103154", func := "loop.example/lib-g01425/laws.FnSignedPieces", spec := "fnSignedPieces", apart := false }
def FnSignedPiecesSaid : Prop := fnSignedPiecesRow.holds Try.pinned (OpenSpec.ofChange fnSignedPiecesSpec)

/-- ITS FALSE NEIGHBOUR: 'it returns false'. Refute it at one input. -/
def fnSignedPiecesWrong : ChangeSpec := { name := "fnSignedPieces", fn := fun _ => fun
  | [d1, d2] => { results := [.lit (.bool false)], args := [d1, d2] }
  | _ => none }
def FnSignedPiecesWrongFalsely : Prop := fnSignedPiecesRow.holds Try.pinned (OpenSpec.ofChange fnSignedPiecesWrong)

/-- 'laws.FnCutShort': WHATEVER THE INPUT: true; the input reads as it did. -/
def fnCutShortSpec : ChangeSpec := { name := "fnCutShort", fn := fun _ => fun
  | [d1, d2, d3] => { results := [.lit (.bool true)], args := [d1, d2, d3] }
  | _ => none }
def fnCutShortRow : OpenClaim := { program := "ytnlndimojibimaa", sum := "f0c1132a0825267dacf5361e1891950d14472e30c514d08ffdf4010491103154", func := "loop.example/lib-g01425/laws.FnCutShort", spec := "fnCutShort", apart := false }
def FnCutShortSaid : Prop := fnCutShortRow.holds Try.pinned (OpenSpec.ofChange fnCutShortSpec)

/-- ITS FALSE NEIGHBOUR: 'it returns false'. Refute it at one input. -/
def fnCutShortWrong : ChangeSpec := { name := "fnCutShort", fn := fun _ => fun
  | [d1, d2, d3] => { results := [.lit (.bool false)], args := [d1, d2, d3] }
  | _ => none }
def FnCutShortWrongFalsely : Prop := fnCutShortRow.holds Try.pinned (OpenSpec.ofChange fnCutShortWrong)

/-- 'laws.FnJoined': WHATEVER THE INPUT: true; the input reads as it did. -/
def fnJoinedSpec : ChangeSpec := { name := "fnJoined", fn := fun _ => fun
  | [d1, d2, d3] => { results := [.lit (.bool true)], args := [d1, d2, d3] }
  | _ => none }
def fnJoinedRow : OpenClaim := { program := "ytnlndimojibimaa", sum := "f0c1132a0825267dacf5361e1891950d14472e30c514d08ffdf4010491103154", func := "loop.example/lib-g01425/laws.FnJoined", spec := "fnJoined", apart := false }
def FnJoinedSaid : Prop := fnJoinedRow.holds Try.pinned (OpenSpec.ofChange fnJoinedSpec)

/-- ITS FALSE NEIGHBOUR: 'it returns false'. Refute it at one input. -/
def fnJoinedWrong : ChangeSpec := { name := "fnJoined", fn := fun _ => fun
  | [d1, d2, d3] => { results := [.lit (.bool false)], args := [d1, d2, d3] }
  | _ => none }
def FnJoinedWrongFalsely : Prop := fnJoinedRow.holds Try.pinned (OpenSpec.ofChange fnJoinedWrong)

/-- 'laws.FnLast': WHATEVER THE INPUT: true; the input reads as it did. -/
def fnLastSpec : ChangeSpec := { name := "fnLast", fn := fun _ => fun
  | [d] => { results := [.lit (.bool true)], args := [d] }
  | _ => none }
def fnLastRow : OpenClaim := { program := "ytnlndimojibimaa", sum := "f0c1132a0825267dacf5361e1891950d14472e30c514d08ffdf4010491103154", func := "loop.example/lib-g01425/laws.FnLast", spec := "fnLast", apart := false }
def FnLastSaid : Prop := fnLastRow.holds Try.pinned (OpenSpec.ofChange fnLastSpec)

/-- ITS FALSE NEIGHBOUR: 'it returns false'. Refute it at one input. -/
def fnLastWrong : ChangeSpec := { name := "fnLast", fn := fun _ => fun
  | [d] => { results := [.lit (.bool false)], args := [d] }
  | _ => none }
def FnLastWrongFalsely : Prop := fnLastRow.holds Try.pinned (OpenSpec.ofChange fnLastWrong)

/-- 'laws.FnSkip': WHATEVER THE INPUT: true; the input reads as it did. -/
def fnSkipSpec : ChangeSpec := { name := "fnSkip", fn := fun _ => fun
  | [d1, d2] => { results := [.lit (.bool true)], args := [d1, d2] }
  | _ => none }
def fnSkipRow : OpenClaim := { program := "ytnlndimojibimaa", sum := "f0c1132a0825267dacf5361e1891950d14472e30c514d08ffdf4010491103154", func := "loop.example/lib-g01425/laws.FnSkip", spec := "fnSkip", apart := false }
def FnSkipSaid : Prop := fnSkipRow.holds Try.pinned (OpenSpec.ofChange fnSkipSpec)

/-- ITS FALSE NEIGHBOUR: 'it returns false'. Refute it at one input. -/
def fnSkipWrong : ChangeSpec := { name := "fnSkip", fn := fun _ => fun
  | [d1, d2] => { results := [.lit (.bool false)], args := [d1, d2] }
  | _ => none }
def FnSkipWrongFalsely : Prop := fnSkipRow.holds Try.pinned (OpenSpec.ofChange fnSkipWrong)

/- THE SECOND FORM. 'bulk': how many values and letters a reading holds, each counted each time it is reached (what is shared counts as often as it is met; a slice's spare places count too). A statement '..UptoSaid' is the law's where the arguments, and the package variables that the reading takes, are together of bulk at most 1048576: NARROWER than '..Said'. Prove '..Said' where nothing that the law and all that it calls make is longer than what came in: it says more and counts as full. Else prove '..UptoSaid'. A law counts once. -/
mutual
def uptoBulk {H : Type} : DataW H → Nat
  | .lit (.string bytes) => bytes.length + 1
  | .lit _ => 1
  | .nil => 1
  | .ptr d => uptoBulk d + 1
  | .slice elems spare => uptoBulkAll elems + uptoBulkAll spare + 1
  | .agg parts => uptoBulkAll parts + 1
  | .iface _ d => uptoBulk d + 1
  | .map entries => uptoBulkEntries entries + 1
  | .held _ => 1
def uptoBulkAll {H : Type} : List (DataW H) → Nat
  | [] => 0
  | d :: r => uptoBulk d + uptoBulkAll r
def uptoBulkEntries {H : Type} : List (Lit × DataW H) → Nat
  | [] => 0
  | x :: r => uptoBulkEntry x + uptoBulkEntries r
def uptoBulkEntry {H : Type} : Lit × DataW H → Nat
  | (.string bytes, d) => bytes.length + uptoBulk d + 1
  | (_, d) => uptoBulk d + 1
 end
def uptoSmall : (H : Type) → List (DataW H) → Bool := fun _ ds => decide (uptoBulkAll ds ≤ 1048576)
def OpenSpec.upto (s : _root_.Go.ChangeSpec) : _root_.Go.OpenSpec := { _root_.Go.OpenSpec.ofChange s with cond := some uptoSmall }

/-- 'laws.FnExactAppendList', WHERE WHAT IT READS IS OF BULK AT MOST 1048576: true; the input reads as it did. -/
def fnExactAppendListUptoRow : OpenClaim := { program := "ytnlndimojibimaa", sum := "f0c1132a0825267dacf5361e1891950d14472e30c514d08ffdf4010491103154", func := "loop.example/lib-g01425/laws.FnExactAppendList", spec := "fnExactAppendList", apart := false, narrowed := true }
def FnExactAppendListUptoSaid : Prop := fnExactAppendListUptoRow.holds Try.pinned (OpenSpec.upto fnExactAppendListSpec)

/-- 'laws.FnListBegin', WHERE WHAT IT READS IS OF BULK AT MOST 1048576: true; the input reads as it did. -/
def fnListBeginUptoRow : OpenClaim := { program := "ytnlndimojibimaa", sum := "f0c1132a0825267dacf5361e1891950d14472e30c514d08ffdf4010491103154", func := "loop.example/lib-g01425/laws.FnListBegin", spec := "fnListBegin", apart := false, narrowed := true }
def FnListBeginUptoSaid : Prop := fnListBeginUptoRow.holds Try.pinned (OpenSpec.upto fnListBeginSpec)

/-- 'laws.FnListEnds', WHERE WHAT IT READS IS OF BULK AT MOST 1048576: true; the input reads as it did. -/
def fnListEndsUptoRow : OpenClaim := { program := "ytnlndimojibimaa", sum := "f0c1132a0825267dacf5361e1891950d14472e30c514d08ffdf4010491103154", func := "loop.example/lib-g01425/laws.FnListEnds", spec := "fnListEnds", apart := false, narrowed := true }
def FnListEndsUptoSaid : Prop := fnListEndsUptoRow.holds Try.pinned (OpenSpec.upto fnListEndsSpec)

/-- 'laws.FnListLength', WHERE WHAT IT READS IS OF BULK AT MOST 1048576: true; the input reads as it did. -/
def fnListLengthUptoRow : OpenClaim := { program := "ytnlndimojibimaa", sum := "f0c1132a0825267dacf5361e1891950d14472e30c514d08ffdf4010491103154", func := "loop.example/lib-g01425/laws.FnListLength", spec := "fnListLength", apart := false, narrowed := true }
def FnListLengthUptoSaid : Prop := fnListLengthUptoRow.holds Try.pinned (OpenSpec.upto fnListLengthSpec)

/-- 'laws.FnSumLength', WHERE WHAT IT READS IS OF BULK AT MOST 1048576: true; the input reads as it did. -/
def fnSumLengthUptoRow : OpenClaim := { program := "ytnlndimojibimaa", sum := "f0c1132a0825267dacf5361e1891950d14472e30c514d08ffdf4010491103154", func := "loop.example/lib-g01425/laws.FnSumLength", spec := "fnSumLength", apart := false, narrowed := true }
def FnSumLengthUptoSaid : Prop := fnSumLengthUptoRow.holds Try.pinned (OpenSpec.upto fnSumLengthSpec)

/-- 'laws.FnUvarintStep', WHERE WHAT IT READS IS OF BULK AT MOST 1048576: true; the input reads as it did. -/
def fnUvarintStepUptoRow : OpenClaim := { program := "ytnlndimojibimaa", sum := "f0c1132a0825267dacf5361e1891950d14472e30c514d08ffdf4010491103154", func := "loop.example/lib-g01425/laws.FnUvarintStep", spec := "fnUvarintStep", apart := false, narrowed := true }
def FnUvarintStepUptoSaid : Prop := fnUvarintStepUptoRow.holds Try.pinned (OpenSpec.upto fnUvarintStepSpec)

/-- 'laws.FnExactAppendSignedList', WHERE WHAT IT READS IS OF BULK AT MOST 1048576: true; the input reads as it did. -/
def fnExactAppendSignedListUptoRow : OpenClaim := { program := "ytnlndimojibimaa", sum := "f0c1132a0825267dacf5361e1891950d14472e30c514d08ffdf4010491103154", func := "loop.example/lib-g01425/laws.FnExactAppendSignedList", spec := "fnExactAppendSignedList", apart := false, narrowed := true }
def FnExactAppendSignedListUptoSaid : Prop := fnExactAppendSignedListUptoRow.holds Try.pinned (OpenSpec.upto fnExactAppendSignedListSpec)

/-- 'laws.FnSignedOpposite', WHERE WHAT IT READS IS OF BULK AT MOST 1048576: true; the input reads as it did. -/
def fnSignedOppositeUptoRow : OpenClaim := { program := "ytnlndimojibimaa", sum := "f0c1132a0825267dacf5361e1891950d14472e30c514d08ffdf4010491103154", func := "loop.example/lib-g01425/laws.FnSignedOpposite", spec := "fnSignedOpposite", apart := false, narrowed := true }
def FnSignedOppositeUptoSaid : Prop := fnSignedOppositeUptoRow.holds Try.pinned (OpenSpec.upto fnSignedOppositeSpec)

/-- 'laws.FnPieces', WHERE WHAT IT READS IS OF BULK AT MOST 1048576: true; the input reads as it did. -/
def fnPiecesUptoRow : OpenClaim := { program := "ytnlndimojibimaa", sum := "f0c1132a0825267dacf5361e1891950d14472e30c514d08ffdf4010491103154", func := "loop.example/lib-g01425/laws.FnPieces", spec := "fnPieces", apart := false, narrowed := true }
def FnPiecesUptoSaid : Prop := fnPiecesUptoRow.holds Try.pinned (OpenSpec.upto fnPiecesSpec)

/-- 'laws.FnSignedList', WHERE WHAT IT READS IS OF BULK AT MOST 1048576: true; the input reads as it did. -/
def fnSignedListUptoRow : OpenClaim := { program := "ytnlndimojibimaa", sum := "f0c1132a0825267dacf5361e1891950d14472e30c514d08ffdf4010491103154", func := "loop.example/lib-g01425/laws.FnSignedList", spec := "fnSignedList", apart := false, narrowed := true }
def FnSignedListUptoSaid : Prop := fnSignedListUptoRow.holds Try.pinned (OpenSpec.upto fnSignedListSpec)

/-- 'laws.FnSignedPieces', WHERE WHAT IT READS IS OF BULK AT MOST 1048576: true; the input reads as it did. -/
def fnSignedPiecesUptoRow : OpenClaim := { program := "ytnlndimojibimaa", sum := "f0c1132a0825267dacf5361e1891950d14472e30c514d08ffdf4010491103154", func := "loop.example/lib-g01425/laws.FnSignedPieces", spec := "fnSignedPieces", apart := false, narrowed := true }
def FnSignedPiecesUptoSaid : Prop := fnSignedPiecesUptoRow.holds Try.pinned (OpenSpec.upto fnSignedPiecesSpec)

/-- 'laws.FnCutShort', WHERE WHAT IT READS IS OF BULK AT MOST 1048576: true; the input reads as it did. -/
def fnCutShortUptoRow : OpenClaim := { program := "ytnlndimojibimaa", sum := "f0c1132a0825267dacf5361e1891950d14472e30c514d08ffdf4010491103154", func := "loop.example/lib-g01425/laws.FnCutShort", spec := "fnCutShort", apart := false, narrowed := true }
def FnCutShortUptoSaid : Prop := fnCutShortUptoRow.holds Try.pinned (OpenSpec.upto fnCutShortSpec)

/-- 'laws.FnJoined', WHERE WHAT IT READS IS OF BULK AT MOST 1048576: true; the input reads as it did. -/
def fnJoinedUptoRow : OpenClaim := { program := "ytnlndimojibimaa", sum := "f0c1132a0825267dacf5361e1891950d14472e30c514d08ffdf4010491103154", func := "loop.example/lib-g01425/laws.FnJoined", spec := "fnJoined", apart := false, narrowed := true }
def FnJoinedUptoSaid : Prop := fnJoinedUptoRow.holds Try.pinned (OpenSpec.upto fnJoinedSpec)

/-- 'laws.FnLast', WHERE WHAT IT READS IS OF BULK AT MOST 1048576: true; the input reads as it did. -/
def fnLastUptoRow : OpenClaim := { program := "ytnlndimojibimaa", sum := "f0c1132a0825267dacf5361e1891950d14472e30c514d08ffdf4010491103154", func := "loop.example/lib-g01425/laws.FnLast", spec := "fnLast", apart := false, narrowed := true }
def FnLastUptoSaid : Prop := fnLastUptoRow.holds Try.pinned (OpenSpec.upto fnLastSpec)

/-- 'laws.FnSkip', WHERE WHAT IT READS IS OF BULK AT MOST 1048576: true; the input reads as it did. -/
def fnSkipUptoRow : OpenClaim := { program := "ytnlndimojibimaa", sum := "f0c1132a0825267dacf5361e1891950d14472e30c514d08ffdf4010491103154", func := "loop.example/lib-g01425/laws.FnSkip", spec := "fnSkip", apart := false, narrowed := true }
def FnSkipUptoSaid : Prop := fnSkipUptoRow.holds Try.pinned (OpenSpec.upto fnSkipSpec)

end Rows
end Go.Proofs.Ytnlndimojibimaa
