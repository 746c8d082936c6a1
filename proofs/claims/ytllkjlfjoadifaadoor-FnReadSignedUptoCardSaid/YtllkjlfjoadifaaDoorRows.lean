/-
  NARROWER THAN 'FOR EVERY INPUT', by the rows' own cells (each row's printed sentence says how): FnReadSigned: laid · FnReadAsRead: laid · FnReadList: laid · FnReadShort: laid · FnReadSome: laid.
  DERIVED. THE GIVEN ROWS OF THIS SEAT. 5 by the template 'for every input the law returns true; each argument reads behind the call as it read before'; 0 by the template 'total and deterministic' (their statements: YtllkjlfjoadifaaDoorTotals.lean).
  GIVEN WITH THE SEED: the statements are not yours to turn. If you find one false, say at which input.
  Laid BY PROGRAM, IN A SANDBOX (cutbox-rows.mjs): the forced cells as the released guide's own fill.sh prints them over the translation 0db56ffc631531f8… (all of the seat's roots in one cut). By AI agents, Wed Nov 11 2026. No macro, syntax, notation, axiom, sorry.
-/
import Derived.Test.YtllkjlfjoadifaaDoorChecked
import GoSem.Claim
import GoSem.ClaimJoined
import GoSem.ClaimMapViews
import Derived.JoinedTies
import Derived.KernelRfl
namespace Go.Proofs.YtllkjlfjoadifaaDoor
/- THE CELL 'sum', in the pinned program and in every row, IS THE sha256 OF THE DUMP (.gsa) THAT YtllkjlfjoadifaaDoorProg.lean LOADS. Nothing in Lean hashes anything: it is a label: what it is worth is what the hold of that sum in a sandbox is worth. -/
noncomputable def Tryd.pinned : Pinned := { name := "ytllkjlfjoadifaadoor", sum := "0db56ffc631531f8bc1decb2db38c8af4c59dd4f0eb042816ff44517925ef328", checked := Tryd.checked }
namespace Rows
def none {H : Type} : Left H := { results := [], args := [] }

/- WHAT THE LISTED PACKAGE-LEVEL VARIABLES READ AS WHEN THE CALL BEGINS. Each datum BY PROGRAM (the guide's laid-datum.mjs) off the statement by which the dump's own 'gosem.cut.vars' lays the variable. In a bare row this is a premise. The card (YtllkjlfjoadifaaDoorCards.lean) ties it to the program's text. -/
def laid_io_EOF {H : Type} : DataW H := .iface "*errors.errorString" (.ptr (.agg [.lit (.string [69, 79, 70])]))
def laid_io_ErrUnexpectedEOF {H : Type} : DataW H := .iface "*errors.errorString" (.ptr (.agg [.lit (.string [117, 110, 101, 120, 112, 101, 99, 116, 101, 100, 32, 69, 79, 70])]))
def laid_encoding_binary_errOverflow {H : Type} : DataW H := .iface "*errors.errorString" (.ptr (.agg [.lit (.string [98, 105, 110, 97, 114, 121, 58, 32, 118, 97, 114, 105, 110, 116, 32, 111, 118, 101, 114, 102, 108, 111, 119, 115, 32, 97, 32, 54, 52, 45, 98, 105, 116, 32, 105, 110, 116, 101, 103, 101, 114])]))

/-- 'laws.FnReadSigned': WHATEVER THE INPUT: true; the input reads as it did. -/
def fnReadSignedSpec : ChangeSpec := { name := "fnReadSigned", fn := fun _ => fun
  | [d1, d2, d3, d4] => { results := [.lit (.bool true)], args := [d1, d2, d3, d4] }
  | _ => none }
def fnReadSignedRow : OpenClaim := { program := "ytllkjlfjoadifaadoor", sum := "0db56ffc631531f8bc1decb2db38c8af4c59dd4f0eb042816ff44517925ef328", func := "loop.example/lib-g01425/laws.FnReadSigned", spec := "fnReadSigned", unfollowed := true, recurses := true, named := ["io.EOF", "io.ErrUnexpectedEOF", "encoding/binary.errOverflow"], apart := false, laid := [("io.EOF", laid_io_EOF), ("io.ErrUnexpectedEOF", laid_io_ErrUnexpectedEOF), ("encoding/binary.errOverflow", laid_encoding_binary_errOverflow)] }
def FnReadSignedSaid : Prop := fnReadSignedRow.holds Tryd.pinned (OpenSpec.ofChange fnReadSignedSpec)

/-- ITS FALSE NEIGHBOUR: 'it returns false'. Refute it at one input. -/
def fnReadSignedWrong : ChangeSpec := { name := "fnReadSigned", fn := fun _ => fun
  | [d1, d2, d3, d4] => { results := [.lit (.bool false)], args := [d1, d2, d3, d4] }
  | _ => none }
def FnReadSignedWrongFalsely : Prop := fnReadSignedRow.holds Tryd.pinned (OpenSpec.ofChange fnReadSignedWrong)

/-- 'laws.FnReadAsRead': WHATEVER THE INPUT: true; the input reads as it did. -/
def fnReadAsReadSpec : ChangeSpec := { name := "fnReadAsRead", fn := fun _ => fun
  | [d] => { results := [.lit (.bool true)], args := [d] }
  | _ => none }
def fnReadAsReadRow : OpenClaim := { program := "ytllkjlfjoadifaadoor", sum := "0db56ffc631531f8bc1decb2db38c8af4c59dd4f0eb042816ff44517925ef328", func := "loop.example/lib-g01425/laws.FnReadAsRead", spec := "fnReadAsRead", unfollowed := true, recurses := true, named := ["io.EOF", "io.ErrUnexpectedEOF", "encoding/binary.errOverflow"], apart := false, laid := [("io.EOF", laid_io_EOF), ("io.ErrUnexpectedEOF", laid_io_ErrUnexpectedEOF), ("encoding/binary.errOverflow", laid_encoding_binary_errOverflow)] }
def FnReadAsReadSaid : Prop := fnReadAsReadRow.holds Tryd.pinned (OpenSpec.ofChange fnReadAsReadSpec)

/-- ITS FALSE NEIGHBOUR: 'it returns false'. Refute it at one input. -/
def fnReadAsReadWrong : ChangeSpec := { name := "fnReadAsRead", fn := fun _ => fun
  | [d] => { results := [.lit (.bool false)], args := [d] }
  | _ => none }
def FnReadAsReadWrongFalsely : Prop := fnReadAsReadRow.holds Tryd.pinned (OpenSpec.ofChange fnReadAsReadWrong)

/-- 'laws.FnReadList': WHATEVER THE INPUT: true; the input reads as it did. -/
def fnReadListSpec : ChangeSpec := { name := "fnReadList", fn := fun _ => fun
  | [d1, d2] => { results := [.lit (.bool true)], args := [d1, d2] }
  | _ => none }
def fnReadListRow : OpenClaim := { program := "ytllkjlfjoadifaadoor", sum := "0db56ffc631531f8bc1decb2db38c8af4c59dd4f0eb042816ff44517925ef328", func := "loop.example/lib-g01425/laws.FnReadList", spec := "fnReadList", unfollowed := true, recurses := true, named := ["io.EOF", "io.ErrUnexpectedEOF", "encoding/binary.errOverflow"], apart := false, laid := [("io.EOF", laid_io_EOF), ("io.ErrUnexpectedEOF", laid_io_ErrUnexpectedEOF), ("encoding/binary.errOverflow", laid_encoding_binary_errOverflow)] }
def FnReadListSaid : Prop := fnReadListRow.holds Tryd.pinned (OpenSpec.ofChange fnReadListSpec)

/-- ITS FALSE NEIGHBOUR: 'it returns false'. Refute it at one input. -/
def fnReadListWrong : ChangeSpec := { name := "fnReadList", fn := fun _ => fun
  | [d1, d2] => { results := [.lit (.bool false)], args := [d1, d2] }
  | _ => none }
def FnReadListWrongFalsely : Prop := fnReadListRow.holds Tryd.pinned (OpenSpec.ofChange fnReadListWrong)

/-- 'laws.FnReadShort': WHATEVER THE INPUT: true; the input reads as it did. -/
def fnReadShortSpec : ChangeSpec := { name := "fnReadShort", fn := fun _ => fun
  | [d1, d2, d3, d4] => { results := [.lit (.bool true)], args := [d1, d2, d3, d4] }
  | _ => none }
def fnReadShortRow : OpenClaim := { program := "ytllkjlfjoadifaadoor", sum := "0db56ffc631531f8bc1decb2db38c8af4c59dd4f0eb042816ff44517925ef328", func := "loop.example/lib-g01425/laws.FnReadShort", spec := "fnReadShort", unfollowed := true, recurses := true, named := ["io.EOF", "io.ErrUnexpectedEOF", "encoding/binary.errOverflow"], apart := false, laid := [("io.EOF", laid_io_EOF), ("io.ErrUnexpectedEOF", laid_io_ErrUnexpectedEOF), ("encoding/binary.errOverflow", laid_encoding_binary_errOverflow)] }
def FnReadShortSaid : Prop := fnReadShortRow.holds Tryd.pinned (OpenSpec.ofChange fnReadShortSpec)

/-- ITS FALSE NEIGHBOUR: 'it returns false'. Refute it at one input. -/
def fnReadShortWrong : ChangeSpec := { name := "fnReadShort", fn := fun _ => fun
  | [d1, d2, d3, d4] => { results := [.lit (.bool false)], args := [d1, d2, d3, d4] }
  | _ => none }
def FnReadShortWrongFalsely : Prop := fnReadShortRow.holds Tryd.pinned (OpenSpec.ofChange fnReadShortWrong)

/-- 'laws.FnReadSome': WHATEVER THE INPUT: true; the input reads as it did. -/
def fnReadSomeSpec : ChangeSpec := { name := "fnReadSome", fn := fun _ => fun
  | [d1, d2] => { results := [.lit (.bool true)], args := [d1, d2] }
  | _ => none }
def fnReadSomeRow : OpenClaim := { program := "ytllkjlfjoadifaadoor", sum := "0db56ffc631531f8bc1decb2db38c8af4c59dd4f0eb042816ff44517925ef328", func := "loop.example/lib-g01425/laws.FnReadSome", spec := "fnReadSome", unfollowed := true, recurses := true, named := ["io.EOF", "io.ErrUnexpectedEOF", "encoding/binary.errOverflow"], apart := false, laid := [("io.EOF", laid_io_EOF), ("io.ErrUnexpectedEOF", laid_io_ErrUnexpectedEOF), ("encoding/binary.errOverflow", laid_encoding_binary_errOverflow)] }
def FnReadSomeSaid : Prop := fnReadSomeRow.holds Tryd.pinned (OpenSpec.ofChange fnReadSomeSpec)

/-- ITS FALSE NEIGHBOUR: 'it returns false'. Refute it at one input. -/
def fnReadSomeWrong : ChangeSpec := { name := "fnReadSome", fn := fun _ => fun
  | [d1, d2] => { results := [.lit (.bool false)], args := [d1, d2] }
  | _ => none }
def FnReadSomeWrongFalsely : Prop := fnReadSomeRow.holds Tryd.pinned (OpenSpec.ofChange fnReadSomeWrong)

/- THE SECOND FORM. 'bulk': how many values and letters a reading holds, each counted each time it is reached (what is shared counts as often as it is met; a slice's spare places count too). A statement '..UptoSaid' is the law's where the arguments, and the package variables that the reading takes, are together of bulk at most 1048576: NARROWER than '..Said'. Prove '..Said' where nothing that the law and all that it calls make is longer than what came in: it says more and counts as full. Else prove '..UptoSaid'. A law counts once. -/
mutual
def uptoBulk {H : Type} : DataW H → Nat
  | .lit (.string bytes) => bytes.length + 1
  | .lit _ => 1
  | .nil => 1
  | .ptr d => uptoBulk d + 1
  | .slice elems spare => uptoBulkAll elems + uptoBulkAll spare + 1
  | .agg parts => uptoBulkAll parts + 1
  | .iface _ d => uptoBulk d + 1
  | .map entries => uptoBulkEntries entries + 1
  | .held _ => 1
def uptoBulkAll {H : Type} : List (DataW H) → Nat
  | [] => 0
  | d :: r => uptoBulk d + uptoBulkAll r
def uptoBulkEntries {H : Type} : List (Lit × DataW H) → Nat
  | [] => 0
  | x :: r => uptoBulkEntry x + uptoBulkEntries r
def uptoBulkEntry {H : Type} : Lit × DataW H → Nat
  | (.string bytes, d) => bytes.length + uptoBulk d + 1
  | (_, d) => uptoBulk d + 1
 end
def uptoSmall : (H : Type) → List (DataW H) → Bool := fun _ ds => decide (uptoBulkAll ds ≤ 1048576)
def OpenSpec.upto (s : _root_.Go.ChangeSpec) : _root_.Go.OpenSpec := { _root_.Go.OpenSpec.ofChange s with cond := some uptoSmall }

/-- 'laws.FnReadSigned', WHERE WHAT IT READS IS OF BULK AT MOST 1048576: true; the input reads as it did. -/
def fnReadSignedUptoRow : OpenClaim := { program := "ytllkjlfjoadifaadoor", sum := "0db56ffc631531f8bc1decb2db38c8af4c59dd4f0eb042816ff44517925ef328", func := "loop.example/lib-g01425/laws.FnReadSigned", spec := "fnReadSigned", unfollowed := true, recurses := true, named := ["io.EOF", "io.ErrUnexpectedEOF", "encoding/binary.errOverflow"], apart := false, laid := [("io.EOF", laid_io_EOF), ("io.ErrUnexpectedEOF", laid_io_ErrUnexpectedEOF), ("encoding/binary.errOverflow", laid_encoding_binary_errOverflow)], narrowed := true }
def FnReadSignedUptoSaid : Prop := fnReadSignedUptoRow.holds Tryd.pinned (OpenSpec.upto fnReadSignedSpec)

/-- 'laws.FnReadAsRead', WHERE WHAT IT READS IS OF BULK AT MOST 1048576: true; the input reads as it did. -/
def fnReadAsReadUptoRow : OpenClaim := { program := "ytllkjlfjoadifaadoor", sum := "0db56ffc631531f8bc1decb2db38c8af4c59dd4f0eb042816ff44517925ef328", func := "loop.example/lib-g01425/laws.FnReadAsRead", spec := "fnReadAsRead", unfollowed := true, recurses := true, named := ["io.EOF", "io.ErrUnexpectedEOF", "encoding/binary.errOverflow"], apart := false, laid := [("io.EOF", laid_io_EOF), ("io.ErrUnexpectedEOF", laid_io_ErrUnexpectedEOF), ("encoding/binary.errOverflow", laid_encoding_binary_errOverflow)], narrowed := true }
def FnReadAsReadUptoSaid : Prop := fnReadAsReadUptoRow.holds Tryd.pinned (OpenSpec.upto fnReadAsReadSpec)

/-- 'laws.FnReadList', WHERE WHAT IT READS IS OF BULK AT MOST 1048576: true; the input reads as it did. -/
def fnReadListUptoRow : OpenClaim := { program := "ytllkjlfjoadifaadoor", sum := "0db56ffc631531f8bc1decb2db38c8af4c59dd4f0eb042816ff44517925ef328", func := "loop.example/lib-g01425/laws.FnReadList", spec := "fnReadList", unfollowed := true, recurses := true, named := ["io.EOF", "io.ErrUnexpectedEOF", "encoding/binary.errOverflow"], apart := false, laid := [("io.EOF", laid_io_EOF), ("io.ErrUnexpectedEOF", laid_io_ErrUnexpectedEOF), ("encoding/binary.errOverflow", laid_encoding_binary_errOverflow)], narrowed := true }
def FnReadListUptoSaid : Prop := fnReadListUptoRow.holds Tryd.pinned (OpenSpec.upto fnReadListSpec)

/-- 'laws.FnReadShort', WHERE WHAT IT READS IS OF BULK AT MOST 1048576: true; the input reads as it did. -/
def fnReadShortUptoRow : OpenClaim := { program := "ytllkjlfjoadifaadoor", sum := "0db56ffc631531f8bc1decb2db38c8af4c59dd4f0eb042816ff44517925ef328", func := "loop.example/lib-g01425/laws.FnReadShort", spec := "fnReadShort", unfollowed := true, recurses := true, named := ["io.EOF", "io.ErrUnexpectedEOF", "encoding/binary.errOverflow"], apart := false, laid := [("io.EOF", laid_io_EOF), ("io.ErrUnexpectedEOF", laid_io_ErrUnexpectedEOF), ("encoding/binary.errOverflow", laid_encoding_binary_errOverflow)], narrowed := true }
def FnReadShortUptoSaid : Prop := fnReadShortUptoRow.holds Tryd.pinned (OpenSpec.upto fnReadShortSpec)

/-- 'laws.FnReadSome', WHERE WHAT IT READS IS OF BULK AT MOST 1048576: true; the input reads as it did. -/
def fnReadSomeUptoRow : OpenClaim := { program := "ytllkjlfjoadifaadoor", sum := "0db56ffc631531f8bc1decb2db38c8af4c59dd4f0eb042816ff44517925ef328", func := "loop.example/lib-g01425/laws.FnReadSome", spec := "fnReadSome", unfollowed := true, recurses := true, named := ["io.EOF", "io.ErrUnexpectedEOF", "encoding/binary.errOverflow"], apart := false, laid := [("io.EOF", laid_io_EOF), ("io.ErrUnexpectedEOF", laid_io_ErrUnexpectedEOF), ("encoding/binary.errOverflow", laid_encoding_binary_errOverflow)], narrowed := true }
def FnReadSomeUptoSaid : Prop := fnReadSomeUptoRow.holds Tryd.pinned (OpenSpec.upto fnReadSomeSpec)

end Rows
end Go.Proofs.YtllkjlfjoadifaaDoor
