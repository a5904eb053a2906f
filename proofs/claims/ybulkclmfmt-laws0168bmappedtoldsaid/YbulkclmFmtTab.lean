import Derived.Test.YbulkclmFmtMap
import Derived.Test.YbulkclmFmtOpen
import Derived.Lib.LaidTab
namespace Go.Proofs.YbulkclmFmt
open Go.Lib
set_option linter.unusedVariables false

def tabZ : List Int := [0, 1, 28, 2, 29, 14, 24, 3, 30, 22, 20, 15, 25, 17, 4, 8, 31, 27, 13, 23, 21, 19, 16, 7, 26, 12, 18, 6, 11, 5, 10, 9]

/-- The table's cells as the call begins. -/
theorem laid_tab {W : World} (h : laidMet Ybaf.prog laidAll W) : Tab4 W := by
  have hg : Ybaf.prog.globalNamed "math/bits.deBruijn32tab" = some 4 := by kernel_rfl
  have ht : TabIs Ybaf.prog W "math/bits.deBruijn32tab" .u8 tabZ :=
    tabIs_of_head (rest := [("io.EOF", Rows.laid_io_EOF), ("example.com/hashlith/hashlith.hashFactor", Rows.laid_example_com_hashlith_hashlith_hashFactor), ("example.com/hashlith/hashlith.ErrNotFound", Rows.laid_example_com_hashlith_hashlith_ErrNotFound)]) (g := 4) (t := 91) (e := 5) (n := 32) hg (by kernel_rfl) Ybaf.underlying91 Ybaf.underlying5 (by kernel_rfl) (by kernel_rfl) h
  exact ⟨ht.cell hg 0 (by decide), ht.cell hg 1 (by decide), ht.cell hg 3 (by decide), ht.cell hg 7 (by decide)⟩

set_option maxRecDepth 1000000 in
theorem mapped_witness (os : Os) {H : Type} (enc : TypeId × Value → H) :
    (OpenSpec.ofChange Rows.lawS0168BMappedSpec).preRow enc Ybaf.prog Ybaf.f4 Rows.lawS0168BMappedRow.domain false Rows.lawS0168BMappedRow.laid ((laidWorld os).forCall (fun _ _ => 0) ⟨#[], nilArgs, []⟩).memory nilArgs := by
  have hw : (DataW.whole enc Ybaf.prog ((laidWorld os).forCall (fun _ _ => 0) ⟨#[], nilArgs, []⟩).memory Ybaf.f4.params.toList (OpenSpec.ofChange Rows.lawS0168BMappedSpec).vars false nilArgs.toList 8).isSome = true := by kernel_rfl
  obtain ⟨x, hx⟩ := Option.isSome_iff_exists.1 hw
  exact OpenSpec.preRow_of_cond 8 hx rfl (fun k hk => by cases hk) (by kernel_rfl) (laid_met os _)
end Go.Proofs.YbulkclmFmt
