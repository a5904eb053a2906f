/-
  DERIVED. GIVEN WITH THE SEED: THE CARDS: each row of YbulkclmFmtRows.lean that lists a variable, with what it lists TIED to the program's text (the seventh form; the later family's looks); each row that meets fmt, with fmt's text TOLD by the authors' own Lean function (tested against real Go, not proved from fmt's source: count such statements apart). THE CARD IS WHAT COUNTS. Prove the row's statement (the work); the ties are given (YbulkclmFmtTie.lean); close each card by the builder's one call (the guide's Derived/Test/ToyasCard.lean, 'card_holds'). Laid BY PROGRAM, IN A SANDBOX (cutbox-door.mjs). By AI agents, Wed Nov 11 2026. No macro, syntax, notation, axiom, sorry.
-/
import Derived.Test.YbulkclmFmtRows
import GoSem.ClaimSeven
namespace Go.Proofs.YbulkclmFmt
namespace Rows

/-- THE TOLD AND TIED CARD OF 'hashlith.LawS0168BReader'. -/
def lawS0168BReaderCard : Claim7 := { stood := { row := lawS0168BReaderRow, standIns := [], harness := (true, "c71047131fbf56d594cf41b84ec09b3e35861bb75c731c0262186ef0ea208b66"), looks := true }, told := true, laidByText := true, laidKinds := [.data, .sentinel, .data, .sentinel], laidTests := true, laidLooks := .later, goes := false }
def LawS0168BReaderToldSaid : Prop := Claim7.holds Ybaf.pinned (.plain (OpenSpec.ofChange lawS0168BReaderSpec)) lawS0168BReaderCard
/-- ITS FALSE NEIGHBOUR. Refute it at one input. -/
def LawS0168BReaderToldWrongFalsely : Prop := Claim7.holds Ybaf.pinned (.plain (OpenSpec.ofChange lawS0168BReaderWrong)) lawS0168BReaderCard

/-- THE TOLD AND TIED CARD OF 'hashlith.LawS0168BMapped'. -/
def lawS0168BMappedCard : Claim7 := { stood := { row := lawS0168BMappedRow, standIns := [], harness := (true, "c71047131fbf56d594cf41b84ec09b3e35861bb75c731c0262186ef0ea208b66"), looks := true }, told := true, laidByText := true, laidKinds := [.data, .sentinel, .data, .sentinel], laidTests := true, laidLooks := .later, goes := false }
def LawS0168BMappedToldSaid : Prop := Claim7.holds Ybaf.pinned (.plain (OpenSpec.ofChange lawS0168BMappedSpec)) lawS0168BMappedCard
/-- ITS FALSE NEIGHBOUR. Refute it at one input. -/
def LawS0168BMappedToldWrongFalsely : Prop := Claim7.holds Ybaf.pinned (.plain (OpenSpec.ofChange lawS0168BMappedWrong)) lawS0168BMappedCard
end Rows
end Go.Proofs.YbulkclmFmt
