/-
  DERIVED. GIVEN WITH THE SEED: THE PROGRAM's TIES (one call each: nine closed facts by the kernel) AND EACH ROW's TIE, after the 31st guide's Derived/Test/Toyas{Tie, Card}.lean. No idea stands in it: it is a product of the set-up. Laid BY PROGRAM, IN A SANDBOX (cutbox-door.mjs). By AI agents, Wed Nov 11 2026. No macro, syntax, notation, axiom, sorry.
-/
import Derived.Test.YbulkclmFmtRows
import Derived.LaidByTextLater
import Derived.SevenTiedAt
import Derived.LaidSub
import Derived.LaidOnce
namespace Go.Proofs.YbulkclmFmt
open Go
set_option maxRecDepth 100000
theorem seatTie1 : Ybaf.prog.laidByTextLater [("math/bits.deBruijn32tab", Rows.laid_math_bits_deBruijn32tab), ("io.EOF", Rows.laid_io_EOF), ("example.com/hashlith/hashlith.hashFactor", Rows.laid_example_com_hashlith_hashlith_hashFactor), ("example.com/hashlith/hashlith.ErrNotFound", Rows.laid_example_com_hashlith_hashlith_ErrNotFound)] [.data, .sentinel, .data, .sentinel] true :=
  Program.laidByTextLater_by_one 56 8 33 (by kernel_rfl) (by kernel_rfl) (by kernel_rfl) (by kernel_rfl) (by kernel_rfl) (by kernel_rfl) (fun _ _ => by kernel_rfl)
theorem noOwnUnsafe : Ybaf.pinned.checked.prog.headLifts.contains "ownunsafe" = false := by kernel_rfl
theorem tie : Ybaf.prog.laidByTextLater [("math/bits.deBruijn32tab", Rows.laid_math_bits_deBruijn32tab), ("io.EOF", Rows.laid_io_EOF), ("example.com/hashlith/hashlith.hashFactor", Rows.laid_example_com_hashlith_hashlith_hashFactor), ("example.com/hashlith/hashlith.ErrNotFound", Rows.laid_example_com_hashlith_hashlith_ErrNotFound)] [.data, .sentinel, .data, .sentinel] true :=
  Program.laidByTextLater.sub seatTie1 ["math/bits.deBruijn32tab", "io.EOF", "example.com/hashlith/hashlith.hashFactor", "example.com/hashlith/hashlith.ErrNotFound"] (by kernel_rfl) (by kernel_rfl)
theorem lawS0168BReader_row_tie : Rows.lawS0168BReaderRow.laidByTextAt .later Ybaf.pinned [.data, .sentinel, .data, .sentinel] true :=
  OpenClaim.laidByTextAt_later rfl rfl tie noOwnUnsafe
theorem lawS0168BMapped_row_tie : Rows.lawS0168BMappedRow.laidByTextAt .later Ybaf.pinned [.data, .sentinel, .data, .sentinel] true :=
  OpenClaim.laidByTextAt_later rfl rfl tie noOwnUnsafe
end Go.Proofs.YbulkclmFmt
