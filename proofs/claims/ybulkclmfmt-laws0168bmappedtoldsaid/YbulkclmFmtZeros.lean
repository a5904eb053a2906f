import Derived.Test.YbulkclmFmtFile
namespace Go.Proofs.YbulkclmFmt
open Go.ChangeShapes Go.WideShapes Go.ChangeAt Go.RowKit
set_option linter.unusedVariables false

theorem zeroCells_eq (m : Nat) : Builtin.zeroCells (Value.int .u8 0).cells m = (cellsOf (fun _ => 0) m).toArray := by
  apply Array.ext
  · rw [size_zeroCells]; simp [cellsOf, Value.cells]
  · intro i h1 h2
    simp [Builtin.zeroCells, Value.cells, cellsOf, Nat.mod_one]

/-- 'append(file, make([]byte, m)...)'. -/
theorem Row.appendZ {w : World} {g cap n : Nat} {B : Nat → Int} (h : Row w g cap n B) {ty : TypeId} (m : Nat) (h0 : 0 < m) (hb : n + m ≤ 140737488355328) :
    ∃ g' cap' w', (Builtin.append_ #[23, 3] ty #[.slice (some ⟨g, 0, none⟩) n cap, .int .i64 m]).run Ybaf.prog w = .ok (.slice (some ⟨g', 0, none⟩) (n + m) cap') w' ∧ Row w' g' cap' (n + m) (catB B n (fun _ => 0)) ∧ Hole g w.heap.size w w' ∧ (g' = g ∨ w.heap.size ≤ g') := by
  obtain ⟨i, hi, hz0, hz1, hz2⟩ := info_parts info5
  have hn : m ≠ 0 := by omega
  have hw : IntKind.i64.wrap (m : Int) = m := by rw [IntKind.wrap_i64]; omega
  have h48i : ¬ (281474976710656 < (m : Int) * (i.bytes : Int)) := by rw [hz2]; omega
  have hneg : ¬ ((m : Int) < 0) := by omega
  have hns : ¬ (m * i.size = 0) := by rw [hz1]; omega
  have one : ∀ u ∈ cellsOf (fun _ => (0 : Int)) m, u.oneCell' = true := fun u hu => by unfold cellsOf at hu; obtain ⟨_, _, rfl⟩ := List.mem_map.1 hu; rfl
  by_cases hroom : n + m ≤ cap
  · have hst := run_storeCells_cells (P := Ybaf.prog) g n (cellsOf (fun _ => (0 : Int)) m) 0 w (fun j hj => by rw [cellsOf_length] at hj; rw [Nat.add_zero]; exact h.room.there _ (by omega)) (fun j hj => h.room.free _) one
    simp only [Nat.add_zero] at hst
    have hr : (Builtin.append_ #[23, 3] ty #[.slice (some ⟨g, 0, none⟩) n cap, .int .i64 m]).run Ybaf.prog w = .ok (.slice (some ⟨g, 0, none⟩) (n + m) cap) (w.setCells g n (cellsOf (fun _ => (0 : Int)) m)) := by
      simp [Builtin.append_, run_underlying Ybaf.underlying23, run_underlying Ybaf.underlying3, sizeOf, typeInfo, zeroValue, hi, hz0, hz1, asInt, asIntOf, hw, hn, hneg, hroom, h48i, zeroCells_eq, Addr.add_lit, hst]
    refine ⟨g, cap, _, hr, ?_, Hole.setCells _ _ _ _ _, .inl rfl⟩
    have := h.setCells n m (fun _ => 0) (Nat.le_refl _) hroom
    rw [show max n (n + m) = n + m by omega] at this
    refine this.congr (fun j hj => ?_)
    unfold catB
    by_cases e : j < n
    · rw [if_neg (by omega), if_pos e]
    · rw [if_pos (by omega), if_neg e]
  · have hold : (Builtin.firstCells 1 n (.slice (some ⟨g, 0, none⟩) n cap)).run Ybaf.prog w.drew = .ok (cellsOf B n).toArray w.drew :=
      (show Row w.drew g cap n B from ⟨⟨h.room.lt, h.room.there, h.room.free⟩, h.le, h.at_⟩).first
    have h63' : ¬ (9223372036854775807 < ((n : Int) + (m : Int))) := by omega
    have hfit := growslice_fits (need := n + m) (old := cap) (bytes := i.bytes) (by omega) (by rw [hz2]; omega)
    have h48' : ¬ (281474976710656 < Builtin.nextslicecap (n + m) cap * i.bytes) := by omega
    have hge := grownCap_ge w (n + m) cap 5
    have hr : (Builtin.append_ #[23, 3] ty #[.slice (some ⟨g, 0, none⟩) n cap, .int .i64 m]).run Ybaf.prog w = .ok (.slice (some ⟨w.heap.size, 0, none⟩) (n + m) (grownCap w (n + m) cap 5))
        (w.drew.alloc (.cells ((cellsOf B n ++ cellsOf (fun _ => (0 : Int)) m).toArray ++ Builtin.zeroCells (Value.int .u8 0).cells (grownCap w (n + m) cap 5 - (n + m))) 5)) := by
      simp [Builtin.append_, run_underlying Ybaf.underlying23, run_underlying Ybaf.underlying3, sizeOf, typeInfo, zeroValue, hi, hz0, hz1, asInt, asIntOf, hw, hn, hneg, hroom, h48i, h63', h48', Question.forced, hold, zeroCells_eq, newRow, grownCap]
    generalize grownCap w (n + m) cap 5 = nc at *
    refine ⟨w.heap.size, nc, _, hr, ?_, Hole.of_below ((Below.refl _ _).drew.alloc (by simp) _), .inr (Nat.le_refl _)⟩
    have hblk : (w.drew.alloc (.cells ((cellsOf B n ++ cellsOf (fun _ => (0 : Int)) m).toArray ++ Builtin.zeroCells (Value.int .u8 0).cells (nc - (n + m))) 5)).heap[w.heap.size]? = some (.cells ((cellsOf B n ++ cellsOf (fun _ => (0 : Int)) m).toArray ++ Builtin.zeroCells (Value.int .u8 0).cells (nc - (n + m))) 5 (0, 0)) := heap_alloc_new w.drew _
    have hsz : ((cellsOf B n ++ cellsOf (fun _ => (0 : Int)) m).toArray ++ Builtin.zeroCells (Value.int .u8 0).cells (nc - (n + m))).size = nc := by
      rw [Array.size_append, size_zeroCells]
      simp [cellsOf_length, Value.cells]
      omega
    refine ⟨⟨by simp [World.alloc], fun j hj => ?_, fun j => Joins.unfrozen_of_block hblk j⟩, hge, fun j hj => ?_⟩
    · rw [Joins.cell_of_block hblk, Array.getElem?_eq_getElem (by omega)]; rfl
    · rw [Joins.cell_of_block hblk, Array.getElem?_append_left (by simp [cellsOf_length]; omega)]
      simp only [List.getElem?_toArray]
      unfold catB
      by_cases e : j < n
      · rw [List.getElem?_append_left (by rw [cellsOf_length]; exact e), cellsOf_get? e, if_pos e]
      · rw [List.getElem?_append_right (by rw [cellsOf_length]; omega), cellsOf_length, cellsOf_get? (by omega), if_neg e]
end Go.Proofs.YbulkclmFmt
