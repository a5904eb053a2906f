import Derived.Test.YbulkcmoBuild
import Derived.OpenShut
import Derived.Deep.Slices
import Derived.ChangeOld
namespace Go.Proofs.Ybulkcmo
open Go.ChangeShapes Go.WideShapes Go.ChangeAt Go.RowKit Go.Deep
set_option linter.unusedVariables false

theorem own : ownKnob Yba.prog.godebug = none := by kernel_rfl
theorem laidOut : laidOutB Yba.prog = true := by kernel_rfl
theorem cells24 : Yba.prog.cellsOf 24 = 1 := by kernel_rfl
theorem cells4 : Yba.prog.cellsOf 4 = 1 := by kernel_rfl

theorem open_u64s {H : Type} {enc : TypeId × Value → H} {W : World} {a : Option Addr} {len cap : Nat} {d : DataW H} {p : List MemPlace}
    (h : DataW.Trod enc Yba.prog W 0 (fun _ => true) true 22 (.slice a len cap) d p) : ∃ U, RowU W a len U := by
  obtain ⟨fuel, hf⟩ := h
  rcases open_slice1 Yba.underlying22 cells24 hf with ⟨hcs, _⟩ | ⟨x, l, c, m, k, V, D, Pl, hcs, _, hl, hm, hmm, _, hx⟩
  · simp [Value.cells] at hcs
    exact ⟨fun _ => 0, .inl hcs.2.1⟩
  · simp [Value.cells] at hcs
    obtain ⟨rfl, rfl, rfl⟩ := hcs
    simp at hmm
    subst hmm
    rcases Nat.eq_zero_or_pos len with h0 | h0
    · exact ⟨fun _ => 0, .inl h0⟩
    have each : ∀ i, i < m → ∃ u : Int, W.cell? (x.add i) = some (.int .u64 u) ∧ 0 ≤ u ∧ u < 18446744073709551616 := by
      intro i hi
      obtain ⟨h1, h2⟩ := hx i hi
      obtain ⟨z, u0, _, wz⟩ := DataW.trod_int Yba.underlying24 h2
      simp at u0
      have bz := bounds_u64 wz
      exact ⟨z, by rw [← u0]; exact h1, by omega, by omega⟩
    obtain ⟨f, hf2⟩ := choose_lt each
    obtain ⟨b, off, spot⟩ := x
    have hspot : spot = none := by simpa [Addr.add] using World.cell?_spot (hf2 0 (by omega)).1
    subst hspot
    have hlt : b < W.heap.size := World.block_lt_of_cell? W _ (hf2 0 (by omega)).1
    exact ⟨f, .inr ⟨b, off, rfl, hlt, fun j hj => ⟨by rw [← Go.WideShapes.add_plain]; exact (hf2 j (by omega)).1, (hf2 j (by omega)).2.1, (hf2 j (by omega)).2.2⟩⟩⟩

theorem open_bools' {H : Type} {enc : TypeId × Value → H} {W : World} {a : Option Addr} {len cap : Nat} {d : DataW H} {p : List MemPlace}
    (h : DataW.Trod enc Yba.prog W 0 (fun _ => true) true 23 (.slice a len cap) d p) : len ≤ 9223372036854775807 ∧ ∃ T, RowB W a len T := by
  obtain ⟨fuel, hf⟩ := h
  rcases open_slice1 Yba.underlying23 cells4 hf with ⟨hcs, _⟩ | ⟨x, l, c, m, k, V, D, Pl, hcs, _, hl, hm, hmm, _, hx⟩
  · simp [Value.cells] at hcs
    exact ⟨by omega, fun _ => false, .inl hcs.2.1⟩
  · simp [Value.cells] at hcs
    obtain ⟨rfl, rfl, rfl⟩ := hcs
    simp at hmm
    subst hmm
    unfold maxLen at hm
    refine ⟨by omega, ?_⟩
    rcases Nat.eq_zero_or_pos len with h0 | h0
    · exact ⟨fun _ => false, .inl h0⟩
    have each : ∀ i, i < m → ∃ u : Bool, W.cell? (x.add i) = some (.bool u) := by
      intro i hi
      obtain ⟨h1, h2⟩ := hx i hi
      obtain ⟨z, u0, _⟩ := DataW.trod_bool Yba.underlying4 h2
      simp at u0
      exact ⟨z, by rw [← u0]; exact h1⟩
    obtain ⟨f, hf2⟩ := choose_lt each
    obtain ⟨b, off, spot⟩ := x
    have hspot : spot = none := by simpa [Addr.add] using World.cell?_spot (hf2 0 (by omega))
    subst hspot
    have hlt : b < W.heap.size := World.block_lt_of_cell? W _ (hf2 0 (by omega))
    exact ⟨f, .inr ⟨b, off, rfl, hlt, fun j hj => by rw [← Go.WideShapes.add_plain]; exact hf2 j (by omega)⟩⟩
end Go.Proofs.Ybulkcmo
