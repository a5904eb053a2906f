import Derived.Test.YbulkclmFmtSmall
import Derived.Deep.OwnRows
namespace Go.Proofs.YbulkclmFmt
open Go.ChangeShapes Go.WideShapes Go.ChangeAt Go.RowKit
set_option linter.unusedVariables false

/-- The database over the reader over the file. -/
structure DBAt (w : World) (D R g N cap : Nat) (tp tl : Nat → Int) (data : Value) : Prop where
  c0 : w.cell? ⟨D, 0, none⟩ = some (.iface 31 (.pointer (some ⟨R, 0, none⟩)))
  c1 : w.cell? ⟨D, 1, none⟩ = some (.int .i64 N)
  tb : ∀ t, t < 256 → w.cell? ⟨D, 3 + t * 2, none⟩ = some (.int .u32 (tp t)) ∧ w.cell? ⟨D, 3 + t * 2 + 1, none⟩ = some (.int .u32 (tl t))
  cd : w.cell? ⟨D, 515, none⟩ = some data
  cc : w.cell? ⟨D, 516, none⟩ = some (.int .u32 0)
  r0 : w.cell? ⟨R, 0, none⟩ = some (.slice (some ⟨g, 0, none⟩) N cap)

theorem meth (v : Value) (w : World) : (method 231 31 v "ReadAt").run Ybaf.prog w = .ok (54, v) w := by kernel_rfl
theorem sz5 : (Ybaf.prog.info? 5).map (·.size) = some 1 := by kernel_rfl

/-- 'copy(p, file[pos:])'. -/
theorem copy_run {w : World} {g cap N b mc m : Nat} {B : Nat → Int} (hF : Row w g cap N B) (hb : Room w b m) (pos : Nat) (hp : pos + m ≤ N) (ty : TypeId) (c' : Nat) :
    (Builtin.copy_ #[23, 23] ty #[.slice (some ⟨b, 0, none⟩) m mc, .slice (some ⟨g, pos, none⟩) (N - pos) c']).run Ybaf.prog w = .ok (.int .i64 m) (w.setCells b 0 (cellsOf (fun j => B (pos + j)) m)) := by
  have h := run_copy_cells (P := Ybaf.prog) w 23 23 ty 5 b 0 m mc ⟨g, pos, none⟩ (N - pos) c' (cellsOf (fun j => B (pos + j)) m) Ybaf.underlying23 sz5 (by rw [cellsOf_length]; exact (Nat.min_eq_right (by omega)).symm)
    (fun j v hv => by
      have hj : j < m := by have := (List.getElem?_eq_some_iff.1 hv).1; rwa [cellsOf_length] at this
      rw [cellsOf_get? hj] at hv
      cases hv
      rw [Go.WideShapes.add_plain]
      exact hF.at_ _ (by omega))
    (fun j hj => by rw [cellsOf_length] at hj; rw [Nat.zero_add]; exact hb.there j hj) (fun j hj => hb.free _)
    (fun v hv => by unfold cellsOf at hv; obtain ⟨_, _, rfl⟩ := List.mem_map.1 hv; rfl)
  rw [h, cellsOf_length]
  rfl

set_option maxRecDepth 100000 in
set_option maxHeartbeats 1000000 in
theorem readAt1_any (R g N cap b m mc pos : Nat) (B : Nat → Int) (w : World) (hr : w.cell? ⟨R, 0, none⟩ = some (.slice (some ⟨g, 0, none⟩) N cap)) (hF : Row w g cap N B) (hb : Room w b m) (hp : pos + m ≤ N) (hp' : pos < N) (hN : N ≤ 1000000000) :
    Calls Ybaf.prog 54 #[.pointer (some ⟨R, 0, none⟩), .slice (some ⟨b, 0, none⟩) m mc, .int .i64 pos] w fun e w' => e = .returned (.tuple #[.int .i64 m, .nilIface]) ∧ w' = w.setCells b 0 (cellsOf (fun j => B (pos + j)) m) := by
  have hrun := fun ty => copy_run hF hb pos hp ty (mc := mc) (cap - pos)
  have hcap := hF.le
  have hcp : ¬ cap = pos := by omega
  clear hF hb
  generalize w.setCells b 0 (cellsOf (fun j => B (pos + j)) m) = W at *
  have e1 : decide ((pos : Int) < 0) = false := by simp
  have e2 : decide ((N : Int) < (pos : Int)) = false := by simp; omega
  go_enter Ybaf.func54, Ybaf.ntmps54
  go_wp2_with fail
  go_ret2
  exact ⟨rfl, rfl⟩

set_option maxRecDepth 100000 in
set_option maxHeartbeats 1000000 in
/-- '(*DB).read'. -/
theorem read_any (D R g N cap b m mc pos : Nat) (tp tl : Nat → Int) (data : Value) (B : Nat → Int) (w : World) (hD : DBAt w D R g N cap tp tl data) (hF : Row w g cap N B) (hb : Room w b m) (hp : pos + m ≤ N) (hp' : pos < N) (hN : N ≤ 1000000000) :
    Calls Ybaf.prog 13 #[.pointer (some ⟨D, 0, none⟩), .slice (some ⟨b, 0, none⟩) m mc, .int .i64 pos] w fun e w' => e = .returned .nilIface ∧ w' = w.setCells b 0 (cellsOf (fun j => B (pos + j)) m) := by
  have hcall := readAt1_any R g N cap b m mc pos B w hD.r0 hF hb hp hp' hN
  have c0 := hD.c0
  have c1 := hD.c1
  clear hD hF hb
  generalize w.setCells b 0 (cellsOf (fun j => B (pos + j)) m) = W at *
  have e2 : decide ((N : Int) < (pos : Int) + (m : Int)) = false := by simp; omega
  have hm := meth
  go_enter Ybaf.func13, Ybaf.ntmps13
  go_wp2_with fail
  refine hcall.mono ?_
  rintro e w1 ⟨rfl, rfl⟩
  clear hcall
  go_wp2_with fail
  go_ret
  exact ⟨rfl, rfl⟩

theorem setCells_size (w : World) (b o : Nat) (vs : List Value) : (w.setCells b o vs).heap.size = w.heap.size := by
  induction vs generalizing o w with
  | nil => rfl
  | cons v r ih => rw [World.setCells, ih]; simp [World.setCell]

theorem Room.of_block {w : World} {g cap : Nat} {cs : Array Value} {t : TypeId} (h : w.heap[g]? = some (.cells cs t (0, 0))) (hc : cap ≤ cs.size) : Room w g cap :=
  ⟨(Array.getElem?_eq_some_iff.1 h).1, fun j hj => by rw [Joins.cell_of_block h, Array.getElem?_eq_getElem (by omega)]; rfl, fun j => Joins.unfrozen_of_block h j⟩

theorem Row.made (w : World) (n : Nat) : Row (w.alloc (.cells (madeCells #[.int .u8 0] n) 5)) w.heap.size n n (fun _ => 0) := by
  obtain ⟨cs, h1, h2, h3⟩ := World.rowIs_made w (.int .u8 0) n 5
  exact ⟨Room.of_block h1 (by omega), Nat.le_refl _, fun j hj => by rw [Joins.cell_of_block h1]; exact h3 j hj⟩

theorem DBAt.later {w w' : World} {D R g N cap : Nat} {tp tl : Nat → Int} {data : Value} (h : DBAt w D R g N cap tp tl data) (hb : Below w.heap.size w w') : DBAt w' D R g N cap tp tl data := by
  have hD : D < w.heap.size := World.block_lt_of_cell? w _ h.c0
  have hR : R < w.heap.size := World.block_lt_of_cell? w _ h.r0
  exact ⟨(hb.cell (p := ⟨D, 0, none⟩) hD).trans h.c0, (hb.cell (p := ⟨D, 1, none⟩) hD).trans h.c1, fun t ht => ⟨(hb.cell (p := ⟨D, 3 + t * 2, none⟩) hD).trans (h.tb t ht).1, (hb.cell (p := ⟨D, 3 + t * 2 + 1, none⟩) hD).trans (h.tb t ht).2⟩,
    (hb.cell (p := ⟨D, 515, none⟩) hD).trans h.cd, (hb.cell (p := ⟨D, 516, none⟩) hD).trans h.cc, (hb.cell (p := ⟨R, 0, none⟩) hR).trans h.r0⟩

set_option maxRecDepth 100000 in
set_option maxHeartbeats 1000000 in
/-- '(*DB).readAt'. -/
theorem dbReadAt_any (D R g N cap m pos : Nat) (tp tl : Nat → Int) (data : Value) (B : Nat → Int) (w : World) (hD : DBAt w D R g N cap tp tl data) (hF : Row w g cap N B) (hp : pos + m ≤ N) (hp' : pos < N) (hN : N ≤ 1000000000) :
    Calls Ybaf.prog 36 #[.pointer (some ⟨D, 0, none⟩), .int .i64 pos, .int .i64 m] w fun e w' => e = .returned (.tuple #[.slice (some ⟨w.heap.size, 0, none⟩) m m, .nilIface]) ∧ Below w.heap.size w w' ∧ Row w' w.heap.size m m (fun j => B (pos + j)) := by
  have hmk := run_make_row' (P := Ybaf.prog) 23 5 (.int .u8 0) 1 Ybaf.underlying23 info5 rfl .i64 .i64 m (by omega) (by omega)
  have hbA : Below w.heap.size w (w.alloc (.cells (madeCells #[.int .u8 0] m) 5)) := (Below.refl _ _).alloc (Nat.le_refl _) _
  have hrow := Row.made w m
  have hcall := read_any D R g N cap w.heap.size m m pos tp tl data B _ (hD.later hbA) (hF.later hbA) hrow.room hp hp' hN
  have HX := hide (And.intro hbA hrow)
  clear hbA hrow hD hF
  go_enter Ybaf.func36, Ybaf.ntmps36
  go_wp2_with fail
  refine hcall.mono ?_
  rintro e w1 ⟨rfl, hw1⟩
  have HW := hide hw1
  clear hcall hw1 hmk
  go_wp2_with fail
  go_ret2
  obtain ⟨hbA, hrow⟩ := HX.out
  refine ⟨rfl, ?_, ?_⟩
  · rw [HW.out]; exact hbA.trans ((Hole.setCells w.heap.size w.heap.size _ _ _).below (Nat.le_refl _) (Nat.le_refl _))
  · rw [HW.out]
    have := hrow.setCells 0 m (fun j => B (pos + j)) (Nat.zero_le _) (by omega)
    rw [show max m (0 + m) = m by omega] at this
    exact this.congr (fun j hj => by rw [if_pos (by omega)]; rfl)

set_option maxRecDepth 100000 in
set_option maxHeartbeats 1000000 in
/-- '(*DB).readPair'. -/
theorem readPair_any (D R g N cap pos : Nat) (tp tl : Nat → Int) (data : Value) (B : Nat → Int) (w : World) (hD : DBAt w D R g N cap tp tl data) (hF : Row w g cap N B) (hB : Byt B) (hp : pos + 8 ≤ N) (hN : N ≤ 1000000000) :
    Calls Ybaf.prog 35 #[.pointer (some ⟨D, 0, none⟩), .int .u64 pos] w fun e w' => e = .returned (.tuple #[.int .u32 (le32 B pos), .int .u32 (le32 B (pos + 4)), .nilIface]) ∧ Below w.heap.size w w' := by
  have hbA : Below w.heap.size w (w.alloc (.cells #[.int .u8 0, .int .u8 0, .int .u8 0, .int .u8 0, .int .u8 0, .int .u8 0, .int .u8 0, .int .u8 0] 101)) := (Below.refl _ _).alloc (Nat.le_refl _) _
  have hblk := heap_alloc_new w (.cells #[.int .u8 0, .int .u8 0, .int .u8 0, .int .u8 0, .int .u8 0, .int .u8 0, .int .u8 0, .int .u8 0] 101)
  have hroom : Room (w.alloc (.cells #[.int .u8 0, .int .u8 0, .int .u8 0, .int .u8 0, .int .u8 0, .int .u8 0, .int .u8 0, .int .u8 0] 101)) w.heap.size 8 := Room.of_block hblk (by simp)
  have hcall := read_any D R g N cap w.heap.size 8 8 pos tp tl data B _ (hD.later hbA) (hF.later hbA) hroom hp (by omega) hN
  have HX := hide (And.intro hbA hroom)
  clear hbA hroom hblk hD hF
  go_enter Ybaf.func35, Ybaf.ntmps35
  go_wp2_with fail
  refine hcall.mono ?_
  rintro e w1 ⟨rfl, hw1⟩
  obtain ⟨hbA, hroom⟩ := HX.out
  have hat : At w1 w.heap.size 0 B pos 8 := by
    rw [hw1]
    intro j hj
    rw [World.cell?_setCells_in _ _ _ _ (fun i hi => by rw [cellsOf_length] at hi; rw [Nat.zero_add]; exact hroom.there i hi) j (by rw [cellsOf_length]; exact hj), cellsOf_get]
  have hb1 : Below w.heap.size w w1 := by rw [hw1]; exact hbA.trans ((Hole.setCells w.heap.size w.heap.size _ _ _).below (Nat.le_refl _) (Nat.le_refl _))
  have hlt : w.heap.size < w1.heap.size := World.block_lt_of_cell? w1 _ (hat 0 (by omega))
  have hcall2 := getPair_any w.heap.size 0 8 8 B pos w1 (by omega) (by omega) hB hat
  have HB := hide hb1
  clear hw1 hcall hbA hroom hat hb1 HX
  go_wp2_with fail
  refine hcall2.mono ?_
  rintro e w2 ⟨rfl, hb2⟩
  have HB2 := hide hb2
  clear hcall2 hb2
  go_wp2_with fail
  refine bodyPost_ret (v := .tuple #[.int .u32 (le32 B pos), .int .u32 (le32 B (pos + 4)), .nilIface]) ?_ rfl ⟨rfl, HB.out.trans (HB2.out.mono HB.out.size)⟩
  simp [results, Ybaf.f35, go_sem]
end Go.Proofs.YbulkclmFmt
