/-
  NARROWER THAN 'FOR EVERY INPUT', by the rows' own cells (each row's printed sentence says how): LawS0168BReader: ifaces, laid · LawS0168BMapped: ifaces, laid.
  DERIVED. THE GIVEN ROWS OF THIS SEAT. 2 by the template 'for every input the law returns true; each argument reads behind the call as it read before'; 0 by the template 'total and deterministic' (their statements: YbulkclmFmtTotals.lean).
  GIVEN WITH THE SEED: the statements are not yours to turn. If you find one false, say at which input.
  Laid BY PROGRAM, IN A SANDBOX (cutbox-rows.mjs): the forced cells as the released guide's own fill.sh prints them over the translation 3bbfd91016353045… (all of the seat's roots in one cut). By AI agents, Wed Nov 11 2026. No macro, syntax, notation, axiom, sorry.
-/
import Derived.Test.YbulkclmFmtChecked
import GoSem.Claim
import GoSem.ClaimJoined
import GoSem.ClaimMapViews
import Derived.JoinedTies
import Derived.KernelRfl
namespace Go.Proofs.YbulkclmFmt
/- THE CELL 'sum', in the pinned program and in every row, IS THE sha256 OF THE DUMP (.gsa) THAT YbulkclmFmtProg.lean LOADS. Nothing in Lean hashes anything: it is a label: what it is worth is what the hold of that sum in a sandbox is worth. -/
noncomputable def Ybaf.pinned : Pinned := { name := "ybulkclmfmt", sum := "3bbfd910163530450bb5e072f8c9c06cbe66c9e9d45ceb293f6df7a61b5c002b", checked := Ybaf.checked }
namespace Rows
def none {H : Type} : Left H := { results := [], args := [] }

/- WHAT THE LISTED PACKAGE-LEVEL VARIABLES READ AS WHEN THE CALL BEGINS. Each datum BY PROGRAM (the guide's laid-datum.mjs) off the statement by which the dump's own 'gosem.cut.vars' lays the variable. In a bare row this is a premise. The card (YbulkclmFmtCards.lean) ties it to the program's text. -/
def laid_math_bits_deBruijn32tab {H : Type} : DataW H := .agg [.lit (.int .u8 0), .lit (.int .u8 1), .lit (.int .u8 28), .lit (.int .u8 2), .lit (.int .u8 29), .lit (.int .u8 14), .lit (.int .u8 24), .lit (.int .u8 3), .lit (.int .u8 30), .lit (.int .u8 22), .lit (.int .u8 20), .lit (.int .u8 15), .lit (.int .u8 25), .lit (.int .u8 17), .lit (.int .u8 4), .lit (.int .u8 8), .lit (.int .u8 31), .lit (.int .u8 27), .lit (.int .u8 13), .lit (.int .u8 23), .lit (.int .u8 21), .lit (.int .u8 19), .lit (.int .u8 16), .lit (.int .u8 7), .lit (.int .u8 26), .lit (.int .u8 12), .lit (.int .u8 18), .lit (.int .u8 6), .lit (.int .u8 11), .lit (.int .u8 5), .lit (.int .u8 10), .lit (.int .u8 9)]
def laid_io_EOF {H : Type} : DataW H := .iface "*errors.errorString" (.ptr (.agg [.lit (.string [69, 79, 70])]))
def laid_example_com_hashlith_hashlith_hashFactor {H : Type} : DataW H := .lit (.int .u32 33)
def laid_example_com_hashlith_hashlith_ErrNotFound {H : Type} : DataW H := .iface "*errors.errorString" (.ptr (.agg [.lit (.string [107, 101, 121, 32, 110, 111, 116, 32, 102, 111, 117, 110, 100])]))

/-- 'hashlith.LawS0168BReader': WHATEVER THE INPUT: true; the input reads as it did. -/
def lawS0168BReaderSpec : ChangeSpec := { name := "lawS0168BReader", vars := ["example.com/hashlith/hashlith.hashFactor", "example.com/hashlith/hashlith.ErrNotFound"], fn := fun _ => fun
  | [d1, d2, d3, d4, g1, g2] => { results := [.lit (.bool true)], args := [d1, d2, d3, d4], vars := [g1, g2] }
  | _ => none }
def lawS0168BReaderRow : OpenClaim := { program := "ybulkclmfmt", sum := "3bbfd910163530450bb5e072f8c9c06cbe66c9e9d45ceb293f6df7a61b5c002b", func := "example.com/hashlith/hashlith.LawS0168BReader", spec := "lawS0168BReader", stops := ["fmt.errorf, its operands' methods called"], inPlace := ["fmt.errorf", "sync/atomic.LoadUint32", "runtime.KeepAlive"], unfollowed := true, recurses := true, named := ["encoding/binary.LittleEndian", "example.com/hashlith/hashlith.hashFactor", "io.EOF", "example.com/hashlith/hashlith.ErrNotFound", "math/bits.deBruijn32tab"], ifaces := true, apart := false, laid := [("math/bits.deBruijn32tab", laid_math_bits_deBruijn32tab), ("io.EOF", laid_io_EOF), ("example.com/hashlith/hashlith.hashFactor", laid_example_com_hashlith_hashlith_hashFactor), ("example.com/hashlith/hashlith.ErrNotFound", laid_example_com_hashlith_hashlith_ErrNotFound)] }
/-- NO THEOREM (fmt's text is open here; it may be false): for the released tool's asking of the row's closed facts alone. THE STATEMENT IS 'LawS0168BReaderToldSaid' (YbulkclmFmtCards.lean). -/
def LawS0168BReaderFormAsk : Prop := lawS0168BReaderRow.holds Ybaf.pinned (OpenSpec.ofChange lawS0168BReaderSpec)

/-- ITS FALSE NEIGHBOUR: 'it returns false'. Refute it at one input. -/
def lawS0168BReaderWrong : ChangeSpec := { name := "lawS0168BReader", vars := ["example.com/hashlith/hashlith.hashFactor", "example.com/hashlith/hashlith.ErrNotFound"], fn := fun _ => fun
  | [d1, d2, d3, d4, g1, g2] => { results := [.lit (.bool false)], args := [d1, d2, d3, d4], vars := [g1, g2] }
  | _ => none }
def LawS0168BReaderWrongFormAsk : Prop := lawS0168BReaderRow.holds Ybaf.pinned (OpenSpec.ofChange lawS0168BReaderWrong)

/-- 'hashlith.LawS0168BMapped': WHATEVER THE INPUT: true; the input reads as it did. -/
def lawS0168BMappedSpec : ChangeSpec := { name := "lawS0168BMapped", vars := ["example.com/hashlith/hashlith.hashFactor", "example.com/hashlith/hashlith.ErrNotFound"], fn := fun _ => fun
  | [d1, d2, d3, d4, g1, g2] => { results := [.lit (.bool true)], args := [d1, d2, d3, d4], vars := [g1, g2] }
  | _ => none }
def lawS0168BMappedRow : OpenClaim := { program := "ybulkclmfmt", sum := "3bbfd910163530450bb5e072f8c9c06cbe66c9e9d45ceb293f6df7a61b5c002b", func := "example.com/hashlith/hashlith.LawS0168BMapped", spec := "lawS0168BMapped", stops := ["fmt.errorf, its operands' methods called"], inPlace := ["fmt.errorf", "sync/atomic.LoadUint32", "runtime.KeepAlive"], unfollowed := true, recurses := true, named := ["encoding/binary.LittleEndian", "example.com/hashlith/hashlith.hashFactor", "io.EOF", "example.com/hashlith/hashlith.ErrNotFound", "math/bits.deBruijn32tab"], ifaces := true, apart := false, laid := [("math/bits.deBruijn32tab", laid_math_bits_deBruijn32tab), ("io.EOF", laid_io_EOF), ("example.com/hashlith/hashlith.hashFactor", laid_example_com_hashlith_hashlith_hashFactor), ("example.com/hashlith/hashlith.ErrNotFound", laid_example_com_hashlith_hashlith_ErrNotFound)] }
/-- NO THEOREM (fmt's text is open here; it may be false): for the released tool's asking of the row's closed facts alone. THE STATEMENT IS 'LawS0168BMappedToldSaid' (YbulkclmFmtCards.lean). -/
def LawS0168BMappedFormAsk : Prop := lawS0168BMappedRow.holds Ybaf.pinned (OpenSpec.ofChange lawS0168BMappedSpec)

/-- ITS FALSE NEIGHBOUR: 'it returns false'. Refute it at one input. -/
def lawS0168BMappedWrong : ChangeSpec := { name := "lawS0168BMapped", vars := ["example.com/hashlith/hashlith.hashFactor", "example.com/hashlith/hashlith.ErrNotFound"], fn := fun _ => fun
  | [d1, d2, d3, d4, g1, g2] => { results := [.lit (.bool false)], args := [d1, d2, d3, d4], vars := [g1, g2] }
  | _ => none }
def LawS0168BMappedWrongFormAsk : Prop := lawS0168BMappedRow.holds Ybaf.pinned (OpenSpec.ofChange lawS0168BMappedWrong)

end Rows
end Go.Proofs.YbulkclmFmt
