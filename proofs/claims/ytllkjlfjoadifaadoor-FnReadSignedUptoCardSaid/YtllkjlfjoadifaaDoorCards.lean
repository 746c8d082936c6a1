/-
  DERIVED. GIVEN WITH THE SEED: THE CARDS: each row of YtllkjlfjoadifaaDoorRows.lean that lists a variable, with what it lists TIED to the program's text (the seventh form; the later family's looks); each row that meets fmt, with fmt's text TOLD by the authors' own Lean function (tested against real Go, not proved from fmt's source: count such statements apart). THE CARD IS WHAT COUNTS. Prove the row's statement (the work); the ties are given (YtllkjlfjoadifaaDoorTie.lean); close each card by the builder's one call (the guide's Derived/Test/ToyasCard.lean, 'card_holds'). Laid BY PROGRAM, IN A SANDBOX (cutbox-door.mjs). By AI agents, Wed Nov 11 2026. No macro, syntax, notation, axiom, sorry.
-/
import Derived.Test.YtllkjlfjoadifaaDoorRows
import GoSem.ClaimSeven
namespace Go.Proofs.YtllkjlfjoadifaaDoor
namespace Rows

/-- THE TIED CARD OF 'laws.FnReadSigned'. -/
def fnReadSignedCard : Claim7 := { stood := { row := fnReadSignedRow, standIns := [], harness := (true, "cfb7af574ada3604a4f6b4ec9b8ac680895c17b3049591becb7f6e312c36558b"), looks := true }, kinds := [], alts := [], laidByText := true, laidKinds := [.sentinel, .sentinel, .sentinel], laidTests := true, laidLooks := .later }
def FnReadSignedCardSaid : Prop := Claim7.holds Tryd.pinned (.plain (OpenSpec.ofChange fnReadSignedSpec)) fnReadSignedCard

/-- THE TIED CARD OF 'laws.FnReadAsRead'. -/
def fnReadAsReadCard : Claim7 := { stood := { row := fnReadAsReadRow, standIns := [], harness := (true, "cfb7af574ada3604a4f6b4ec9b8ac680895c17b3049591becb7f6e312c36558b"), looks := true }, kinds := [], alts := [], laidByText := true, laidKinds := [.sentinel, .sentinel, .sentinel], laidTests := true, laidLooks := .later }
def FnReadAsReadCardSaid : Prop := Claim7.holds Tryd.pinned (.plain (OpenSpec.ofChange fnReadAsReadSpec)) fnReadAsReadCard

/-- THE TIED CARD OF 'laws.FnReadList'. -/
def fnReadListCard : Claim7 := { stood := { row := fnReadListRow, standIns := [], harness := (true, "cfb7af574ada3604a4f6b4ec9b8ac680895c17b3049591becb7f6e312c36558b"), looks := true }, kinds := [], alts := [], laidByText := true, laidKinds := [.sentinel, .sentinel, .sentinel], laidTests := true, laidLooks := .later }
def FnReadListCardSaid : Prop := Claim7.holds Tryd.pinned (.plain (OpenSpec.ofChange fnReadListSpec)) fnReadListCard

/-- THE TIED CARD OF 'laws.FnReadShort'. -/
def fnReadShortCard : Claim7 := { stood := { row := fnReadShortRow, standIns := [], harness := (true, "cfb7af574ada3604a4f6b4ec9b8ac680895c17b3049591becb7f6e312c36558b"), looks := true }, kinds := [], alts := [], laidByText := true, laidKinds := [.sentinel, .sentinel, .sentinel], laidTests := true, laidLooks := .later }
def FnReadShortCardSaid : Prop := Claim7.holds Tryd.pinned (.plain (OpenSpec.ofChange fnReadShortSpec)) fnReadShortCard

/-- THE TIED CARD OF 'laws.FnReadSome'. -/
def fnReadSomeCard : Claim7 := { stood := { row := fnReadSomeRow, standIns := [], harness := (true, "cfb7af574ada3604a4f6b4ec9b8ac680895c17b3049591becb7f6e312c36558b"), looks := true }, kinds := [], alts := [], laidByText := true, laidKinds := [.sentinel, .sentinel, .sentinel], laidTests := true, laidLooks := .later }
def FnReadSomeCardSaid : Prop := Claim7.holds Tryd.pinned (.plain (OpenSpec.ofChange fnReadSomeSpec)) fnReadSomeCard

/-- THE SECOND FORM's CARD OF 'laws.FnReadSigned'. -/
def fnReadSignedUptoCard : Claim7 := { stood := { row := fnReadSignedUptoRow, standIns := [], harness := (true, "cfb7af574ada3604a4f6b4ec9b8ac680895c17b3049591becb7f6e312c36558b"), looks := true }, kinds := [], alts := [], laidByText := true, laidKinds := [.sentinel, .sentinel, .sentinel], laidTests := true, laidLooks := .later }
def FnReadSignedUptoCardSaid : Prop := Claim7.holds Tryd.pinned (.plain (OpenSpec.upto fnReadSignedSpec)) fnReadSignedUptoCard

/-- THE SECOND FORM's CARD OF 'laws.FnReadAsRead'. -/
def fnReadAsReadUptoCard : Claim7 := { stood := { row := fnReadAsReadUptoRow, standIns := [], harness := (true, "cfb7af574ada3604a4f6b4ec9b8ac680895c17b3049591becb7f6e312c36558b"), looks := true }, kinds := [], alts := [], laidByText := true, laidKinds := [.sentinel, .sentinel, .sentinel], laidTests := true, laidLooks := .later }
def FnReadAsReadUptoCardSaid : Prop := Claim7.holds Tryd.pinned (.plain (OpenSpec.upto fnReadAsReadSpec)) fnReadAsReadUptoCard

/-- THE SECOND FORM's CARD OF 'laws.FnReadList'. -/
def fnReadListUptoCard : Claim7 := { stood := { row := fnReadListUptoRow, standIns := [], harness := (true, "cfb7af574ada3604a4f6b4ec9b8ac680895c17b3049591becb7f6e312c36558b"), looks := true }, kinds := [], alts := [], laidByText := true, laidKinds := [.sentinel, .sentinel, .sentinel], laidTests := true, laidLooks := .later }
def FnReadListUptoCardSaid : Prop := Claim7.holds Tryd.pinned (.plain (OpenSpec.upto fnReadListSpec)) fnReadListUptoCard

/-- THE SECOND FORM's CARD OF 'laws.FnReadShort'. -/
def fnReadShortUptoCard : Claim7 := { stood := { row := fnReadShortUptoRow, standIns := [], harness := (true, "cfb7af574ada3604a4f6b4ec9b8ac680895c17b3049591becb7f6e312c36558b"), looks := true }, kinds := [], alts := [], laidByText := true, laidKinds := [.sentinel, .sentinel, .sentinel], laidTests := true, laidLooks := .later }
def FnReadShortUptoCardSaid : Prop := Claim7.holds Tryd.pinned (.plain (OpenSpec.upto fnReadShortSpec)) fnReadShortUptoCard

/-- THE SECOND FORM's CARD OF 'laws.FnReadSome'. -/
def fnReadSomeUptoCard : Claim7 := { stood := { row := fnReadSomeUptoRow, standIns := [], harness := (true, "cfb7af574ada3604a4f6b4ec9b8ac680895c17b3049591becb7f6e312c36558b"), looks := true }, kinds := [], alts := [], laidByText := true, laidKinds := [.sentinel, .sentinel, .sentinel], laidTests := true, laidLooks := .later }
def FnReadSomeUptoCardSaid : Prop := Claim7.holds Tryd.pinned (.plain (OpenSpec.upto fnReadSomeSpec)) fnReadSomeUptoCard
end Rows
end Go.Proofs.YtllkjlfjoadifaaDoor
