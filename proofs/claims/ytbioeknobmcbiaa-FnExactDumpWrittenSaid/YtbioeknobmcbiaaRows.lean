/-
  No cell of these rows narrows 'for every input' (looked for: loops, veiled, ifaces, maps, wideKeys, modest, calm, conditions, laid).
  DERIVED. THE GIVEN ROWS OF THIS SEAT. 8 by the template 'for every input the law returns true; each argument reads behind the call as it read before'; 0 by the template 'total and deterministic' (their statements: YtbioeknobmcbiaaTotals.lean).
  GIVEN WITH THE SEED: the statements are not yours to turn. If you find one false, say at which input.
  Laid BY PROGRAM, IN A SANDBOX (cutbox-rows.mjs): the forced cells as the released guide's own fill.sh prints them over the translation 49fe600e903f7c51… (all of the seat's roots in one cut). By AI agents, Wed Nov 11 2026. No macro, syntax, notation, axiom, sorry.
-/
import Derived.Test.YtbioeknobmcbiaaChecked
import GoSem.Claim
import GoSem.ClaimJoined
import GoSem.ClaimMapViews
import Derived.JoinedTies
import Derived.KernelRfl
namespace Go.Proofs.Ytbioeknobmcbiaa
/- THE CELL 'sum', in the pinned program and in every row, IS THE sha256 OF THE DUMP (.gsa) THAT YtbioeknobmcbiaaProg.lean LOADS. Nothing in Lean hashes anything: it is a label: what it is worth is what the hold of that sum in a sandbox is worth. -/
noncomputable def Try.pinned : Pinned := { name := "ytbioeknobmcbiaa", sum := "49fe600e903f7c513c4fc65b5944fd32c4f69da2f40943fbe7b32f4a8be3d215", checked := Try.checked }
namespace Rows
def none {H : Type} : Left H := { results := [], args := [] }

/-- 'laws.FnDumpRoads': WHATEVER THE INPUT: true; the input reads as it did. -/
def fnDumpRoadsSpec : ChangeSpec := { name := "fnDumpRoads", fn := fun _ => fun
  | [d] => { results := [.lit (.bool true)], args := [d] }
  | _ => none }
def fnDumpRoadsRow : OpenClaim := { program := "ytbioeknobmcbiaa", sum := "49fe600e903f7c513c4fc65b5944fd32c4f69da2f40943fbe7b32f4a8be3d215", func := "loop.example/lib-g01425/laws.FnDumpRoads", spec := "fnDumpRoads", inPlace := ["internal/abi.NoEscape", "internal/bytealg.MakeNoZero"], unfollowed := true, recurses := true, apart := false }
def FnDumpRoadsSaid : Prop := fnDumpRoadsRow.holds Try.pinned (OpenSpec.ofChange fnDumpRoadsSpec)

/-- ITS FALSE NEIGHBOUR: 'it returns false'. Refute it at one input. -/
def fnDumpRoadsWrong : ChangeSpec := { name := "fnDumpRoads", fn := fun _ => fun
  | [d] => { results := [.lit (.bool false)], args := [d] }
  | _ => none }
def FnDumpRoadsWrongFalsely : Prop := fnDumpRoadsRow.holds Try.pinned (OpenSpec.ofChange fnDumpRoadsWrong)

/-- 'laws.FnDumpOpen': WHATEVER THE INPUT: true; the input reads as it did. -/
def fnDumpOpenSpec : ChangeSpec := { name := "fnDumpOpen", fn := fun _ => fun
  | [d] => { results := [.lit (.bool true)], args := [d] }
  | _ => none }
def fnDumpOpenRow : OpenClaim := { program := "ytbioeknobmcbiaa", sum := "49fe600e903f7c513c4fc65b5944fd32c4f69da2f40943fbe7b32f4a8be3d215", func := "loop.example/lib-g01425/laws.FnDumpOpen", spec := "fnDumpOpen", unfollowed := true, recurses := true, apart := false }
def FnDumpOpenSaid : Prop := fnDumpOpenRow.holds Try.pinned (OpenSpec.ofChange fnDumpOpenSpec)

/-- ITS FALSE NEIGHBOUR: 'it returns false'. Refute it at one input. -/
def fnDumpOpenWrong : ChangeSpec := { name := "fnDumpOpen", fn := fun _ => fun
  | [d] => { results := [.lit (.bool false)], args := [d] }
  | _ => none }
def FnDumpOpenWrongFalsely : Prop := fnDumpOpenRow.holds Try.pinned (OpenSpec.ofChange fnDumpOpenWrong)

/-- 'laws.FnDumpTurned': WHATEVER THE INPUT: true; the input reads as it did. -/
def fnDumpTurnedSpec : ChangeSpec := { name := "fnDumpTurned", fn := fun _ => fun
  | [d] => { results := [.lit (.bool true)], args := [d] }
  | _ => none }
def fnDumpTurnedRow : OpenClaim := { program := "ytbioeknobmcbiaa", sum := "49fe600e903f7c513c4fc65b5944fd32c4f69da2f40943fbe7b32f4a8be3d215", func := "loop.example/lib-g01425/laws.FnDumpTurned", spec := "fnDumpTurned", unfollowed := true, recurses := true, apart := false }
def FnDumpTurnedSaid : Prop := fnDumpTurnedRow.holds Try.pinned (OpenSpec.ofChange fnDumpTurnedSpec)

/-- ITS FALSE NEIGHBOUR: 'it returns false'. Refute it at one input. -/
def fnDumpTurnedWrong : ChangeSpec := { name := "fnDumpTurned", fn := fun _ => fun
  | [d] => { results := [.lit (.bool false)], args := [d] }
  | _ => none }
def FnDumpTurnedWrongFalsely : Prop := fnDumpTurnedRow.holds Try.pinned (OpenSpec.ofChange fnDumpTurnedWrong)

/-- 'laws.FnExactDumpWritten': WHATEVER THE INPUT: true; the input reads as it did. -/
def fnExactDumpWrittenSpec : ChangeSpec := { name := "fnExactDumpWritten", fn := fun _ => fun
  | [d] => { results := [.lit (.bool true)], args := [d] }
  | _ => none }
def fnExactDumpWrittenRow : OpenClaim := { program := "ytbioeknobmcbiaa", sum := "49fe600e903f7c513c4fc65b5944fd32c4f69da2f40943fbe7b32f4a8be3d215", func := "loop.example/lib-g01425/laws.FnExactDumpWritten", spec := "fnExactDumpWritten", unfollowed := true, recurses := true, apart := false }
def FnExactDumpWrittenSaid : Prop := fnExactDumpWrittenRow.holds Try.pinned (OpenSpec.ofChange fnExactDumpWrittenSpec)

/-- ITS FALSE NEIGHBOUR: 'it returns false'. Refute it at one input. -/
def fnExactDumpWrittenWrong : ChangeSpec := { name := "fnExactDumpWritten", fn := fun _ => fun
  | [d] => { results := [.lit (.bool false)], args := [d] }
  | _ => none }
def FnExactDumpWrittenWrongFalsely : Prop := fnExactDumpWrittenRow.holds Try.pinned (OpenSpec.ofChange fnExactDumpWrittenWrong)

/-- 'laws.FnDumpBack': WHATEVER THE INPUT: true; the input reads as it did. -/
def fnDumpBackSpec : ChangeSpec := { name := "fnDumpBack", fn := fun _ => fun
  | [d] => { results := [.lit (.bool true)], args := [d] }
  | _ => none }
def fnDumpBackRow : OpenClaim := { program := "ytbioeknobmcbiaa", sum := "49fe600e903f7c513c4fc65b5944fd32c4f69da2f40943fbe7b32f4a8be3d215", func := "loop.example/lib-g01425/laws.FnDumpBack", spec := "fnDumpBack", inPlace := ["internal/abi.NoEscape", "internal/bytealg.MakeNoZero"], unfollowed := true, recurses := true, apart := false }
def FnDumpBackSaid : Prop := fnDumpBackRow.holds Try.pinned (OpenSpec.ofChange fnDumpBackSpec)

/-- ITS FALSE NEIGHBOUR: 'it returns false'. Refute it at one input. -/
def fnDumpBackWrong : ChangeSpec := { name := "fnDumpBack", fn := fun _ => fun
  | [d] => { results := [.lit (.bool false)], args := [d] }
  | _ => none }
def FnDumpBackWrongFalsely : Prop := fnDumpBackRow.holds Try.pinned (OpenSpec.ofChange fnDumpBackWrong)

/-- 'laws.FnDumpLength': WHATEVER THE INPUT: true; the input reads as it did. -/
def fnDumpLengthSpec : ChangeSpec := { name := "fnDumpLength", fn := fun _ => fun
  | [d] => { results := [.lit (.bool true)], args := [d] }
  | _ => none }
def fnDumpLengthRow : OpenClaim := { program := "ytbioeknobmcbiaa", sum := "49fe600e903f7c513c4fc65b5944fd32c4f69da2f40943fbe7b32f4a8be3d215", func := "loop.example/lib-g01425/laws.FnDumpLength", spec := "fnDumpLength", inPlace := ["internal/abi.NoEscape", "internal/bytealg.MakeNoZero"], unfollowed := true, recurses := true, apart := false }
def FnDumpLengthSaid : Prop := fnDumpLengthRow.holds Try.pinned (OpenSpec.ofChange fnDumpLengthSpec)

/-- ITS FALSE NEIGHBOUR: 'it returns false'. Refute it at one input. -/
def fnDumpLengthWrong : ChangeSpec := { name := "fnDumpLength", fn := fun _ => fun
  | [d] => { results := [.lit (.bool false)], args := [d] }
  | _ => none }
def FnDumpLengthWrongFalsely : Prop := fnDumpLengthRow.holds Try.pinned (OpenSpec.ofChange fnDumpLengthWrong)

/-- 'laws.FnDumpOneByte': WHATEVER THE INPUT: true; the input reads as it did. -/
def fnDumpOneByteSpec : ChangeSpec := { name := "fnDumpOneByte", fn := fun _ => fun
  | [d1, d2, d3] => { results := [.lit (.bool true)], args := [d1, d2, d3] }
  | _ => none }
def fnDumpOneByteRow : OpenClaim := { program := "ytbioeknobmcbiaa", sum := "49fe600e903f7c513c4fc65b5944fd32c4f69da2f40943fbe7b32f4a8be3d215", func := "loop.example/lib-g01425/laws.FnDumpOneByte", spec := "fnDumpOneByte", inPlace := ["internal/abi.NoEscape", "internal/bytealg.MakeNoZero"], unfollowed := true, recurses := true, apart := false }
def FnDumpOneByteSaid : Prop := fnDumpOneByteRow.holds Try.pinned (OpenSpec.ofChange fnDumpOneByteSpec)

/-- ITS FALSE NEIGHBOUR: 'it returns false'. Refute it at one input. -/
def fnDumpOneByteWrong : ChangeSpec := { name := "fnDumpOneByte", fn := fun _ => fun
  | [d1, d2, d3] => { results := [.lit (.bool false)], args := [d1, d2, d3] }
  | _ => none }
def FnDumpOneByteWrongFalsely : Prop := fnDumpOneByteRow.holds Try.pinned (OpenSpec.ofChange fnDumpOneByteWrong)

/-- 'laws.FnDumpShift': WHATEVER THE INPUT: true; the input reads as it did. -/
def fnDumpShiftSpec : ChangeSpec := { name := "fnDumpShift", fn := fun _ => fun
  | [d1, d2] => { results := [.lit (.bool true)], args := [d1, d2] }
  | _ => none }
def fnDumpShiftRow : OpenClaim := { program := "ytbioeknobmcbiaa", sum := "49fe600e903f7c513c4fc65b5944fd32c4f69da2f40943fbe7b32f4a8be3d215", func := "loop.example/lib-g01425/laws.FnDumpShift", spec := "fnDumpShift", inPlace := ["internal/abi.NoEscape", "internal/bytealg.MakeNoZero"], unfollowed := true, recurses := true, apart := false }
def FnDumpShiftSaid : Prop := fnDumpShiftRow.holds Try.pinned (OpenSpec.ofChange fnDumpShiftSpec)

/-- ITS FALSE NEIGHBOUR: 'it returns false'. Refute it at one input. -/
def fnDumpShiftWrong : ChangeSpec := { name := "fnDumpShift", fn := fun _ => fun
  | [d1, d2] => { results := [.lit (.bool false)], args := [d1, d2] }
  | _ => none }
def FnDumpShiftWrongFalsely : Prop := fnDumpShiftRow.holds Try.pinned (OpenSpec.ofChange fnDumpShiftWrong)

/- THE SECOND FORM. 'bulk': how many values and letters a reading holds, each counted each time it is reached (what is shared counts as often as it is met; a slice's spare places count too). A statement '..UptoSaid' is the law's where the arguments, and the package variables that the reading takes, are together of bulk at most 1048576: NARROWER than '..Said'. Prove '..Said' where nothing that the law and all that it calls make is longer than what came in: it says more and counts as full. Else prove '..UptoSaid'. A law counts once. -/
mutual
def uptoBulk {H : Type} : DataW H → Nat
  | .lit (.string bytes) => bytes.length + 1
  | .lit _ => 1
  | .nil => 1
  | .ptr d => uptoBulk d + 1
  | .slice elems spare => uptoBulkAll elems + uptoBulkAll spare + 1
  | .agg parts => uptoBulkAll parts + 1
  | .iface _ d => uptoBulk d + 1
  | .map entries => uptoBulkEntries entries + 1
  | .held _ => 1
def uptoBulkAll {H : Type} : List (DataW H) → Nat
  | [] => 0
  | d :: r => uptoBulk d + uptoBulkAll r
def uptoBulkEntries {H : Type} : List (Lit × DataW H) → Nat
  | [] => 0
  | x :: r => uptoBulkEntry x + uptoBulkEntries r
def uptoBulkEntry {H : Type} : Lit × DataW H → Nat
  | (.string bytes, d) => bytes.length + uptoBulk d + 1
  | (_, d) => uptoBulk d + 1
 end
def uptoSmall : (H : Type) → List (DataW H) → Bool := fun _ ds => decide (uptoBulkAll ds ≤ 1048576)
def OpenSpec.upto (s : _root_.Go.ChangeSpec) : _root_.Go.OpenSpec := { _root_.Go.OpenSpec.ofChange s with cond := some uptoSmall }

/-- 'laws.FnDumpRoads', WHERE WHAT IT READS IS OF BULK AT MOST 1048576: true; the input reads as it did. -/
def fnDumpRoadsUptoRow : OpenClaim := { program := "ytbioeknobmcbiaa", sum := "49fe600e903f7c513c4fc65b5944fd32c4f69da2f40943fbe7b32f4a8be3d215", func := "loop.example/lib-g01425/laws.FnDumpRoads", spec := "fnDumpRoads", inPlace := ["internal/abi.NoEscape", "internal/bytealg.MakeNoZero"], unfollowed := true, recurses := true, apart := false, narrowed := true }
def FnDumpRoadsUptoSaid : Prop := fnDumpRoadsUptoRow.holds Try.pinned (OpenSpec.upto fnDumpRoadsSpec)

/-- 'laws.FnDumpOpen', WHERE WHAT IT READS IS OF BULK AT MOST 1048576: true; the input reads as it did. -/
def fnDumpOpenUptoRow : OpenClaim := { program := "ytbioeknobmcbiaa", sum := "49fe600e903f7c513c4fc65b5944fd32c4f69da2f40943fbe7b32f4a8be3d215", func := "loop.example/lib-g01425/laws.FnDumpOpen", spec := "fnDumpOpen", unfollowed := true, recurses := true, apart := false, narrowed := true }
def FnDumpOpenUptoSaid : Prop := fnDumpOpenUptoRow.holds Try.pinned (OpenSpec.upto fnDumpOpenSpec)

/-- 'laws.FnDumpTurned', WHERE WHAT IT READS IS OF BULK AT MOST 1048576: true; the input reads as it did. -/
def fnDumpTurnedUptoRow : OpenClaim := { program := "ytbioeknobmcbiaa", sum := "49fe600e903f7c513c4fc65b5944fd32c4f69da2f40943fbe7b32f4a8be3d215", func := "loop.example/lib-g01425/laws.FnDumpTurned", spec := "fnDumpTurned", unfollowed := true, recurses := true, apart := false, narrowed := true }
def FnDumpTurnedUptoSaid : Prop := fnDumpTurnedUptoRow.holds Try.pinned (OpenSpec.upto fnDumpTurnedSpec)

/-- 'laws.FnExactDumpWritten', WHERE WHAT IT READS IS OF BULK AT MOST 1048576: true; the input reads as it did. -/
def fnExactDumpWrittenUptoRow : OpenClaim := { program := "ytbioeknobmcbiaa", sum := "49fe600e903f7c513c4fc65b5944fd32c4f69da2f40943fbe7b32f4a8be3d215", func := "loop.example/lib-g01425/laws.FnExactDumpWritten", spec := "fnExactDumpWritten", unfollowed := true, recurses := true, apart := false, narrowed := true }
def FnExactDumpWrittenUptoSaid : Prop := fnExactDumpWrittenUptoRow.holds Try.pinned (OpenSpec.upto fnExactDumpWrittenSpec)

/-- 'laws.FnDumpBack', WHERE WHAT IT READS IS OF BULK AT MOST 1048576: true; the input reads as it did. -/
def fnDumpBackUptoRow : OpenClaim := { program := "ytbioeknobmcbiaa", sum := "49fe600e903f7c513c4fc65b5944fd32c4f69da2f40943fbe7b32f4a8be3d215", func := "loop.example/lib-g01425/laws.FnDumpBack", spec := "fnDumpBack", inPlace := ["internal/abi.NoEscape", "internal/bytealg.MakeNoZero"], unfollowed := true, recurses := true, apart := false, narrowed := true }
def FnDumpBackUptoSaid : Prop := fnDumpBackUptoRow.holds Try.pinned (OpenSpec.upto fnDumpBackSpec)

/-- 'laws.FnDumpLength', WHERE WHAT IT READS IS OF BULK AT MOST 1048576: true; the input reads as it did. -/
def fnDumpLengthUptoRow : OpenClaim := { program := "ytbioeknobmcbiaa", sum := "49fe600e903f7c513c4fc65b5944fd32c4f69da2f40943fbe7b32f4a8be3d215", func := "loop.example/lib-g01425/laws.FnDumpLength", spec := "fnDumpLength", inPlace := ["internal/abi.NoEscape", "internal/bytealg.MakeNoZero"], unfollowed := true, recurses := true, apart := false, narrowed := true }
def FnDumpLengthUptoSaid : Prop := fnDumpLengthUptoRow.holds Try.pinned (OpenSpec.upto fnDumpLengthSpec)

/-- 'laws.FnDumpOneByte', WHERE WHAT IT READS IS OF BULK AT MOST 1048576: true; the input reads as it did. -/
def fnDumpOneByteUptoRow : OpenClaim := { program := "ytbioeknobmcbiaa", sum := "49fe600e903f7c513c4fc65b5944fd32c4f69da2f40943fbe7b32f4a8be3d215", func := "loop.example/lib-g01425/laws.FnDumpOneByte", spec := "fnDumpOneByte", inPlace := ["internal/abi.NoEscape", "internal/bytealg.MakeNoZero"], unfollowed := true, recurses := true, apart := false, narrowed := true }
def FnDumpOneByteUptoSaid : Prop := fnDumpOneByteUptoRow.holds Try.pinned (OpenSpec.upto fnDumpOneByteSpec)

/-- 'laws.FnDumpShift', WHERE WHAT IT READS IS OF BULK AT MOST 1048576: true; the input reads as it did. -/
def fnDumpShiftUptoRow : OpenClaim := { program := "ytbioeknobmcbiaa", sum := "49fe600e903f7c513c4fc65b5944fd32c4f69da2f40943fbe7b32f4a8be3d215", func := "loop.example/lib-g01425/laws.FnDumpShift", spec := "fnDumpShift", inPlace := ["internal/abi.NoEscape", "internal/bytealg.MakeNoZero"], unfollowed := true, recurses := true, apart := false, narrowed := true }
def FnDumpShiftUptoSaid : Prop := fnDumpShiftUptoRow.holds Try.pinned (OpenSpec.upto fnDumpShiftSpec)

end Rows
end Go.Proofs.Ytbioeknobmcbiaa
