import Derived.Test.YbulkclmFmtTie
import Derived.Test.YbulkclmFmtCards
import Derived.Deep.DeepWitnessRowRef
import Derived.Deep.DeepWitnessRef
import Derived.Stop.JoinedTold
import Derived.Stop.JoinedAt
import Derived.Stop.LaidErr
import Derived.Stop.Texts
import Derived.Lib.LaidIn
import Derived.Lib.LaidU8
import Derived.ProofKit
namespace Go.Proofs.YbulkclmFmt
open Go.Lib
set_option linter.unusedVariables false

/-- A world in which the four listed variables hold what the program's text lays. -/
noncomputable def laidWorld (os : Os) : World :=
  let N := (World.settled Ybaf.prog os).heap.size
  let w0 := World.holding Ybaf.prog os ⟨#[.cells #[.string ⟨#[69, 79, 70]⟩] 97, .cells #[.string ⟨#[107, 101, 121, 32, 110, 111, 116, 32, 102, 111, 117, 110, 100]⟩] 97], #[], []⟩
  let put (h : Array Obj) (g : Nat) (cs : Array Value) : Array Obj := h.modify g fun
    | .cells _ t frozen => .cells cs t frozen
    | o => o
  let h0 := put (put w0.heap 1 #[.iface 95 (.pointer (some ⟨N + 1, 0, none⟩))]) 2 #[.iface 95 (.pointer (some ⟨N, 0, none⟩))]
  let h1 := put (put h0 3 #[.int .u32 33]) 4 (([0, 1, 28, 2, 29, 14, 24, 3, 30, 22, 20, 15, 25, 17, 4, 8, 31, 27, 13, 23, 21, 19, 16, 7, 26, 12, 18, 6, 11, 5, 10, 9] : List Int).map (Value.int .u8)).toArray
  { w0 with heap := h1 }

noncomputable abbrev N0 : Nat := (World.settled Ybaf.prog default).heap.size

abbrev laidAll : List (String × DataW Unit) := Rows.lawS0168BReaderRow.laid

set_option maxRecDepth 1000000 in
theorem laid_in (os : Os) (args : Array Value) : LaidIn Ybaf.prog ((laidWorld os).forCall (fun _ _ => 0) ⟨#[], args, []⟩).memory laidAll [4, 2, N0, 3, 1, N0 + 1] :=
  LaidIn.of_run [4, 2, N0, 3, 1, N0 + 1] 10 (by kernel_rfl) (by kernel_rfl) (by kernel_rfl) (by kernel_rfl)

theorem laid_met (os : Os) (args : Array Value) : laidMet Ybaf.prog laidAll ((laidWorld os).forCall (fun _ _ => 0) ⟨#[], args, []⟩).memory := (laid_in os args).met

noncomputable abbrev nilArgs : Array Value := #[.slice none 0 0, .slice none 0 0, .slice none 0 0, .slice none 0 0]

set_option maxRecDepth 1000000 in
theorem reader_witness (os : Os) {H : Type} (enc : TypeId × Value → H) :
    (OpenSpec.ofChange Rows.lawS0168BReaderSpec).preRow enc Ybaf.prog Ybaf.f3 Rows.lawS0168BReaderRow.domain false Rows.lawS0168BReaderRow.laid ((laidWorld os).forCall (fun _ _ => 0) ⟨#[], nilArgs, []⟩).memory nilArgs := by
  have hw : (DataW.whole enc Ybaf.prog ((laidWorld os).forCall (fun _ _ => 0) ⟨#[], nilArgs, []⟩).memory Ybaf.f3.params.toList (OpenSpec.ofChange Rows.lawS0168BReaderSpec).vars false nilArgs.toList 8).isSome = true := by kernel_rfl
  obtain ⟨x, hx⟩ := Option.isSome_iff_exists.1 hw
  exact OpenSpec.preRow_of_cond 8 hx rfl (fun k hk => by cases hk) (by kernel_rfl) (laid_met os _)
end Go.Proofs.YbulkclmFmt
