import Derived.Test.YbulkclmFmtMapped
namespace Go.Proofs.YbulkclmFmt
open Go.ChangeShapes Go.WideShapes Go.ChangeAt Go.RowKit
set_option linter.unusedVariables false

def Z48 : Array Value := #[.nilIface, .int .i64 0, .nilIface] ++ Array.replicate 512 (.int .u32 0) ++ #[.slice none 0 0, .int .u32 0]
theorem zv48 (w : World) : (zeroValue 48).run Ybaf.prog w = .ok (.agg Z48) w := by kernel_rfl
theorem Z48_size : Z48.size = 517 := by simp [Z48]
theorem Z48_ne : (Z48 = #[]) = False := by
  apply eq_false
  intro h
  have := congrArg Array.size h
  rw [Z48_size] at this
  cases this

theorem Z48_tab {j : Nat} (h1 : 3 ≤ j) (h2 : j < 515) : Z48[j]? = some (.int .u32 0) := by
  unfold Z48
  rw [Array.getElem?_append_left (by simp; omega), Array.getElem?_append_right (by simp; omega), Array.getElem?_replicate, if_pos (by simp; omega)]
theorem Z48_data : Z48[515]? = some (.slice none 0 0) := by
  unfold Z48
  rw [Array.getElem?_append_right (by simp)]
  simp
theorem Z48_closed : Z48[516]? = some (.int .u32 0) := by
  unfold Z48
  rw [Array.getElem?_append_right (by simp)]
  simp

theorem DBAt.set {w : World} {D R g N cap : Nat} {tp tl : Nat → Int} {data : Value} (h : DBAt w D R g N cap tp tl data) (hR : R ≠ D) (t : Nat) (ht : t < 256) (x y : Int) :
    DBAt ((w.setCell ⟨D, 3 + t * 2, none⟩ (.int .u32 x)).setCell ⟨D, 3 + t * 2 + 1, none⟩ (.int .u32 y)) D R g N cap (fun k => if k = t then x else tp k) (fun k => if k = t then y else tl k) data := by
  have other : ∀ o, o ≠ 3 + t * 2 → o ≠ 3 + t * 2 + 1 → ((w.setCell ⟨D, 3 + t * 2, none⟩ (.int .u32 x)).setCell ⟨D, 3 + t * 2 + 1, none⟩ (.int .u32 y)).cell? ⟨D, o, none⟩ = w.cell? ⟨D, o, none⟩ := fun o h1 h2 => by
    rw [World.cell?_setCell_other _ _ _ _ (by simp <;> omega), World.cell?_setCell_other _ _ _ _ (by simp <;> omega)]
  obtain ⟨t0, t1⟩ := h.tb t ht
  refine ⟨(other 0 (by omega) (by omega)).trans h.c0, (other 1 (by omega) (by omega)).trans h.c1, fun k hk => ?_, (other 515 (by omega) (by omega)).trans h.cd, (other 516 (by omega) (by omega)).trans h.cc, ?_⟩
  · by_cases e : k = t
    · subst e
      simp only [if_true]
      refine ⟨?_, ?_⟩
      · rw [World.cell?_setCell_other _ _ _ _ (by simp <;> omega)]; exact World.cell?_setCell_same _ _ _ t0
      · exact World.cell?_setCell_same _ _ _ (by rw [World.cell?_setCell_other _ _ _ _ (by simp <;> omega)]; exact t1)
    · simp only [e, if_false]
      exact ⟨(other _ (by omega) (by omega)).trans (h.tb k hk).1, (other _ (by omega) (by omega)).trans (h.tb k hk).2⟩
  · have h1 : ((w.setCell ⟨D, 3 + t * 2, none⟩ (.int .u32 x)).setCell ⟨D, 3 + t * 2 + 1, none⟩ (.int .u32 y)).heap[R]? = w.heap[R]? := (Below.heap_setCell _ _ _ _ hR).trans (Below.heap_setCell _ _ _ _ hR)
    exact (World.cell?_of_block (w := w) (a := ⟨R, 0, none⟩) h1).trans h.r0

theorem DBAt.congr {w : World} {D R g N cap : Nat} {tp tl tp' tl' : Nat → Int} {data : Value} (h : DBAt w D R g N cap tp tl data) (e1 : ∀ t, t < 256 → tp t = tp' t) (e2 : ∀ t, t < 256 → tl t = tl' t) : DBAt w D R g N cap tp' tl' data :=
  ⟨h.c0, h.c1, fun t ht => by rw [← e1 t ht, ← e2 t ht]; exact h.tb t ht, h.cd, h.cc, h.r0⟩

set_option maxRecDepth 100000 in
set_option maxHeartbeats 2000000 in
theorem newReader_any (R g N cap : Nat) (B : Nat → Int) (w : World) (hr : w.cell? ⟨R, 0, none⟩ = some (.slice (some ⟨g, 0, none⟩) N cap)) (hF : Row w g cap N B) (hB : Byt B) (hN : 2048 ≤ N) (hN2 : N ≤ 16777216) :
    Calls Ybaf.prog 7 #[.iface 31 (.pointer (some ⟨R, 0, none⟩)), .int .i64 N] w fun e w' => ∃ D, e = .returned (.tuple #[.pointer (some ⟨D, 0, none⟩), .nilIface]) ∧ Below w.heap.size w w' ∧ w.heap.size ≤ D ∧ (∀ j, w'.frozen? ⟨D, j, none⟩ = false) ∧ DBAt w' D R g N cap (fun t => le32 B (t * 8)) (fun t => le32 B (t * 8 + 4)) (.slice none 0 0) := by
  have hmk5 : ∀ w : World, (Instr.makeSlice 23 (.int .i64 2048) (.int .i64 2048)).run Ybaf.prog w = .ok (.slice (some ⟨w.heap.size, 0, none⟩) 2048 2048) (w.alloc (.cells (madeCells #[.int .u8 0] 2048) 5)) := fun w => run_make_row' (P := Ybaf.prog) 23 5 (.int .u8 0) 1 Ybaf.underlying23 info5 rfl .i64 .i64 2048 (by omega) (by omega) w
  have hz := zv48
  have hzs := Z48_size
  have hzn := Z48_ne
  have lR : R < w.heap.size := World.block_lt_of_cell? w _ hr
  obtain ⟨C, hC⟩ : ∃ C, C = (Z48.setIfInBounds 0 (.iface 31 (.pointer (some ⟨R, 0, none⟩)))).setIfInBounds 1 (.int .i64 N) := ⟨_, rfl⟩
  obtain ⟨W, hW⟩ : ∃ W, W = (w.alloc (.cells C 48)).alloc (.cells (madeCells #[.int .u8 0] 2048) 5) := ⟨_, rfl⟩
  have hbW : Below w.heap.size w W := by rw [hW]; exact ((Below.refl _ _).alloc (Nat.le_refl _) _).alloc (by simp) _
  have hblk : W.heap[w.heap.size]? = some (.cells C 48 (0, 0)) := by
    rw [hW, Below.heap_alloc _ _ _ (by simp)]; exact heap_alloc_new w _
  have hrow : Row W (w.heap.size + 1) 2048 2048 (fun _ => 0) := by
    have := Row.made (w.alloc (.cells C 48)) 2048
    rw [World.size_alloc] at this
    rw [hW]; exact this
  have hget : ∀ j, 1 < j → C[j]? = Z48[j]? := fun j hj => by
    rw [hC, Array.getElem?_setIfInBounds_ne (by omega), Array.getElem?_setIfInBounds_ne (by omega)]
  have hDB : DBAt W w.heap.size R g N cap (fun _ => 0) (fun _ => 0) (.slice none 0 0) := by
    refine ⟨?_, ?_, fun t ht => ⟨?_, ?_⟩, ?_, ?_, (hbW.cell (p := ⟨R, 0, none⟩) lR).trans hr⟩
    · rw [Joins.cell_of_block hblk, hC, Array.getElem?_setIfInBounds_ne (by omega), Array.getElem?_setIfInBounds_self_of_lt (by rw [Z48_size]; omega)]
    · rw [Joins.cell_of_block hblk, hC, Array.getElem?_setIfInBounds_self_of_lt (by simp [Z48_size])]
    · rw [Joins.cell_of_block hblk, hget _ (by omega), Z48_tab (by omega) (by omega)]
    · rw [Joins.cell_of_block hblk, hget _ (by omega), Z48_tab (by omega) (by omega)]
    · rw [Joins.cell_of_block hblk, hget _ (by omega), Z48_data]
    · rw [Joins.cell_of_block hblk, hget _ (by omega), Z48_closed]
  have hfz : ∀ j, W.frozen? ⟨w.heap.size, j, none⟩ = false := fun j => Joins.unfrozen_of_block hblk j
  have hcall := read_any w.heap.size R g N cap (w.heap.size + 1) 2048 2048 0 _ _ _ B W hDB (hF.later hbW) hrow.room (by omega) (by omega) (by omega)
  have HX := hide (And.intro hbW (And.intro hDB (And.intro hrow (And.intro hfz hF))))
  rw [hW, hC] at hcall
  clear hbW hblk hrow hget hDB hfz hF
  go_enter Ybaf.func7, Ybaf.ntmps7
  go_wp2_with fail
  refine hcall.mono ?_
  rintro e w1 ⟨rfl, hw1⟩
  rw [← hC, ← hW] at hw1
  clear hcall hz hzs hzn hmk5
  obtain ⟨hbW, hDB, hrow, hfz, hF⟩ := HX.out
  have hh1 := Hole.setCells (w.heap.size + 1) W.heap.size (cellsOf (fun j => B (0 + j)) 2048) 0 W
  rw [← hw1] at hh1
  have lD : w.heap.size < W.heap.size := World.block_lt_of_cell? W _ hDB.c0
  have hsW : W.heap.size = w.heap.size + 2 := by rw [hW]; simp
  have hb1 : Below w.heap.size w w1 := hbW.trans (hh1.below (by omega) (by omega))
  have hD1 : DBAt w1 w.heap.size R g N cap (fun _ => 0) (fun _ => 0) (.slice none 0 0) := by
    have c : ∀ o, w1.cell? ⟨w.heap.size, o, none⟩ = W.cell? ⟨w.heap.size, o, none⟩ := fun o => hh1.cell (p := ⟨w.heap.size, o, none⟩) lD (by show w.heap.size ≠ w.heap.size + 1; omega)
    exact ⟨(c 0).trans hDB.c0, (c 1).trans hDB.c1, fun t ht => ⟨(c _).trans (hDB.tb t ht).1, (c _).trans (hDB.tb t ht).2⟩, (c _).trans hDB.cd, (c _).trans hDB.cc, (hb1.cell (p := ⟨R, 0, none⟩) lR).trans hr⟩
  have hrow1 : Row w1 (w.heap.size + 1) 2048 2048 B := by
    have := hrow.setCells 0 2048 (fun j => B (0 + j)) (by omega) (by omega)
    rw [hw1]
    refine Row.congr (by rw [show max 2048 (0 + 2048) = 2048 by omega] at this; exact this) (fun j hj => ?_)
    rw [if_pos (by omega)]
    congr 1; omega
  have hfz1 : ∀ j, w1.frozen? ⟨w.heap.size, j, none⟩ = false := fun j => by rw [hh1.frozen (p := ⟨w.heap.size, j, none⟩) lD (by show w.heap.size ≠ w.heap.size + 1; omega)]; exact hfz j
  have HY := hide (And.intro hb1 (And.intro hD1 (And.intro hrow1 hfz1)))
  clear hw1 hh1 hbW hDB hrow hfz hb1 hD1 hrow1 hfz1 HX hC hW lD
  go_wp2_with fail
  go_loopw [22] (fun t wr => ∃ i : Nat, i ≤ 256 ∧ t = .int .i64 i ∧ DBAt wr w.heap.size R g N cap (fun t => if t < i then le32 B (t * 8) else 0) (fun t => if t < i then le32 B (t * 8 + 4) else 0) (.slice none 0 0) ∧ Row wr (w.heap.size + 1) 2048 2048 B ∧ Below w.heap.size w wr ∧ (∀ j, wr.frozen? ⟨w.heap.size, j, none⟩ = false)) (fun t _ => 256 - (intOf t).toNat)
  case atStart =>
    obtain ⟨hb1, hD1, hrow1, hfz1⟩ := HY.out
    exact ⟨0, Nat.zero_le _, rfl, hD1.congr (fun t ht => by rw [if_neg (by omega)]) (fun t ht => by rw [if_neg (by omega)]), hrow1, hb1, hfz1⟩
  case round =>
    obtain ⟨i, hi, rfl, hD, hrow, hb, hfz⟩ := hrel
    by_cases hlt : i < 256
    · have hcall := getPair_any (w.heap.size + 1) (i * 8) (2048 - i * 8) (2048 - i * 8) B (i * 8) wr (by omega) (by omega) hB (hrow.take (i * 8) 8 (by omega))
      have HR := hide (And.intro hD (And.intro hrow (And.intro hb hfz)))
      have hne8 : ¬ 2048 = i * 8 := by omega
      clear hD hrow hb hfz
      go_wp2_with fail
      refine hcall.mono ?_
      rintro e w2 ⟨rfl, hb2⟩
      clear hcall
      obtain ⟨hD, hrow, hb, hfz⟩ := HR.out
      have hD2 := hD.later hb2
      obtain ⟨t0, t1⟩ := hD2.tb i hlt
      simp only [Nat.lt_irrefl, if_false] at t0 t1
      have lD : w.heap.size < wr.heap.size := World.block_lt_of_cell? wr _ hD.c0
      have hfz2 : ∀ j, w2.frozen? ⟨w.heap.size, j, none⟩ = false := fun j => by rw [hb2.frozen (p := ⟨w.heap.size, j, none⟩) lD]; exact hfz j
      have f0 := hfz2 (3 + i * 2)
      have f1 := hfz2 (3 + i * 2 + 1)
      have HR2 := hide (And.intro hD2 (And.intro (hrow.later hb2) (And.intro (hb.trans (hb2.mono hb.size)) hfz2)))
      clear hD hrow hb hfz hD2 hb2 hfz2 HR
      go_wp2_with fail
      go_roundw
      case rel =>
        obtain ⟨hD2, hrow2, hbb, hfz2⟩ := HR2.out
        refine ⟨i + 1, by omega, by go_num, (hD2.set (by omega) i hlt (le32 B (i * 8)) (le32 B (i * 8 + 4))).congr (fun t ht => ?_) (fun t ht => ?_), ?_, ?_, fun j => ?_⟩
        · by_cases e : t = i
          · subst e; rw [if_pos rfl, if_pos (by omega)]
          · rw [if_neg e]
            by_cases h2 : t < i
            · rw [if_pos h2, if_pos (by omega)]
            · rw [if_neg h2, if_neg (by omega)]
        · by_cases e : t = i
          · subst e; rw [if_pos rfl, if_pos (by omega)]
          · rw [if_neg e]
            by_cases h2 : t < i
            · rw [if_pos h2, if_pos (by omega)]
            · rw [if_neg h2, if_neg (by omega)]
        · exact hrow2.hole ((Hole.setCell w.heap.size w2.heap.size _ w2 _).trans (Hole.setCell w.heap.size w2.heap.size _ _ _)) hrow2.room.lt (by omega)
        · exact (hbb.setCell (p := ⟨w.heap.size, 3 + i * 2, none⟩) (Nat.le_refl _) _).setCell (p := ⟨w.heap.size, 3 + i * 2 + 1, none⟩) (Nat.le_refl _) _
        · rw [World.frozen?_setCell, World.frozen?_setCell]; exact hfz2 j
      case measure => simp [intOf]; omega
    · have hin : i = 256 := by omega
      subst hin
      have HR := hide (And.intro hD (And.intro hb hfz))
      clear hD hb hfz hrow
      go_wp2_with fail
      go_ret2
      obtain ⟨hD, hb, hfz⟩ := HR.out
      exact ⟨w.heap.size, rfl, hb, Nat.le_refl _, hfz, hD.congr (fun t ht => by rw [if_pos ht]) (fun t ht => by rw [if_pos ht])⟩
end Go.Proofs.YbulkclmFmt
