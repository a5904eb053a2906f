import Derived.Test.YbulkclmFmtMem
namespace Go.Proofs.YbulkclmFmt
open Go.ChangeShapes Go.WideShapes Go.ChangeAt Go.RowKit
set_option linter.unusedVariables false

set_option maxRecDepth 100000 in
set_option maxHeartbeats 1000000 in
theorem uint32_any (g o n c : Nat) (B : Nat → Int) (p : Nat) (w : World) (hn : 4 ≤ n) (hB : Byt B) (h : At w g o B p 4) :
    Calls Ybaf.prog 12 #[.agg #[], .slice (some ⟨g, o, none⟩) n c] w fun e w' => e = .returned (.int .u32 (le32 B p)) ∧ Below w.heap.size w w' := by
  have c0 : w.cell? ⟨g, o, none⟩ = some (.int .u8 (B p)) := h 0 (by omega)
  have c1 := h 1 (by omega)
  have c2 := h 2 (by omega)
  have c3 := h 3 (by omega)
  have hg : g < w.heap.size := World.block_lt_of_cell? w _ c0
  have b0 := hB p
  have b1 := hB (p + 1)
  have b2 := hB (p + 2)
  have b3 := hB (p + 3)
  have HV : Hid (B p + B (p + 1) * 256 + B (p + 2) * 65536 + B (p + 3) * 16777216 = le32 B p) := rfl
  clear h hB
  generalize le32 B p = v at *
  generalize B p = x0 at *
  generalize B (p + 1) = x1 at *
  generalize B (p + 2) = x2 at *
  generalize B (p + 3) = x3 at *
  go_enter Ybaf.func12, Ybaf.ntmps12
  go_wp2_with fail
  go_quiet (fail)
  go_wp2_with fail
  go_ret
  refine ⟨congrArg (fun z => Ending.returned (.int .u32 z)) (Eq.trans ?_ HV.out), below_drewN _ ((Below.refl _ w).alloc (Nat.le_refl _) _)⟩
  simp (disch := omega) only [u32_or8, u32_or16, u32_or24]

set_option maxRecDepth 100000 in
set_option maxHeartbeats 2000000 in
theorem uint64_any (g o n c : Nat) (B : Nat → Int) (p : Nat) (w : World) (hn : 8 ≤ n) (hB : Byt B) (h : At w g o B p 8) :
    Calls Ybaf.prog 24 #[.agg #[], .slice (some ⟨g, o, none⟩) n c] w fun e w' => e = .returned (.int .u64 (le32 B p + le32 B (p + 4) * 4294967296)) ∧ Below w.heap.size w w' := by
  have c0 : w.cell? ⟨g, o, none⟩ = some (.int .u8 (B p)) := h 0 (by omega)
  have c1 := h 1 (by omega)
  have c2 := h 2 (by omega)
  have c3 := h 3 (by omega)
  have c4 := h 4 (by omega)
  have c5 := h 5 (by omega)
  have c6 := h 6 (by omega)
  have c7 := h 7 (by omega)
  have hg : g < w.heap.size := World.block_lt_of_cell? w _ c0
  have b0 := hB p
  have b1 := hB (p + 1)
  have b2 := hB (p + 2)
  have b3 := hB (p + 3)
  have b4 := hB (p + 4)
  have b5 := hB (p + 5)
  have b6 := hB (p + 6)
  have b7 := hB (p + 7)
  have HV : Hid (B p + B (p + 1) * 256 + B (p + 2) * 65536 + B (p + 3) * 16777216 + B (p + 4) * 4294967296 + B (p + 5) * 1099511627776 + B (p + 6) * 281474976710656 + B (p + 7) * 72057594037927936 = le32 B p + le32 B (p + 4) * 4294967296) := by
    show _ = _
    unfold le32
    simp only [Nat.add_assoc, Nat.reduceAdd]
    omega
  clear h hB
  generalize le32 B p + le32 B (p + 4) * 4294967296 = v at *
  generalize B p = x0 at *
  generalize B (p + 1) = x1 at *
  generalize B (p + 2) = x2 at *
  generalize B (p + 3) = x3 at *
  generalize B (p + 4) = x4 at *
  generalize B (p + 5) = x5 at *
  generalize B (p + 6) = x6 at *
  generalize B (p + 7) = x7 at *
  go_enter Ybaf.func24, Ybaf.ntmps24
  go_wp2_with fail
  go_quiet (fail)
  go_wp2_with fail
  go_ret
  refine ⟨congrArg (fun z => Ending.returned (.int .u64 z)) (Eq.trans ?_ HV.out), below_drewN _ ((Below.refl _ w).alloc (Nat.le_refl _) _)⟩
  simp (disch := omega) only [u64_or8, u64_or16, u64_or24, u64_or32, u64_or40, u64_or48, u64_or56]

/-- Four bytes are put at o. -/
def put4 (B : Nat → Int) (o : Nat) (v : Int) : Nat → Int := fun j => if j = o + 3 then v / 16777216 % 256 else if j = o + 2 then v / 65536 % 256 else if j = o + 1 then v / 256 % 256 else if j = o then v % 256 else B j

theorem put4_byt {B : Nat → Int} (h : Byt B) (o : Nat) (v : Int) : Byt (put4 B o v) := fun j => by
  unfold put4
  have := h j
  repeat' split
  all_goals omega
theorem le32_put4 {B : Nat → Int} (o : Nat) {v : Int} (h0 : 0 ≤ v) (h1 : v < 4294967296) : le32 (put4 B o v) o = v := by
  unfold le32 put4
  simp
  omega
theorem le32_put4_other {B : Nat → Int} {o p : Nat} (v : Int) (h : p + 4 ≤ o ∨ o + 4 ≤ p) : le32 (put4 B o v) p = le32 B p := by
  unfold le32 put4
  repeat rw [if_neg (by omega)]
theorem put4_other {B : Nat → Int} {o p : Nat} (v : Int) (h : p < o ∨ o + 4 ≤ p) : put4 B o v p = B p := by
  unfold put4
  repeat rw [if_neg (by omega)]

set_option maxRecDepth 100000 in
set_option maxHeartbeats 1000000 in
theorem put32_any (g o cap n k c : Nat) (B : Nat → Int) (v : Int) (w : World) (hR : Row w g cap n B) (ho : o + 4 ≤ n) (hk : 4 ≤ k) (h0 : 0 ≤ v) (h1 : v < 4294967296) :
    Calls Ybaf.prog 11 #[.agg #[], .slice (some ⟨g, o, none⟩) k c, .int .u32 v] w fun e w' => (∃ u, e = .returned u) ∧ Row w' g cap n (put4 B o v) ∧ Hole g w.heap.size w w' := by
  have hg := hR.room.lt
  have c0 := hR.at_ o (by omega)
  have c1 := hR.at_ (o + 1) (by omega)
  have c2 := hR.at_ (o + 2) (by omega)
  have c3 := hR.at_ (o + 3) (by omega)
  have f0 := hR.room.free o
  have f1 := hR.room.free (o + 1)
  have f2 := hR.room.free (o + 2)
  have f3 := hR.room.free (o + 3)
  have HR := hide hR
  clear hR
  go_enter Ybaf.func11, Ybaf.ntmps11
  go_wp2_with fail
  go_end0
  have hR := HR.out
  have r4 := (((hR.setCell o (by omega) (v % 256)).setCell (o + 1) (by omega) (v / 256 % 256)).setCell (o + 2) (by omega) (v / 65536 % 256)).setCell (o + 3) (by omega) (v / 16777216)
  refine ⟨⟨_, rfl⟩, (r4.congr (fun j hj => ?_)).later ((Below.refl _ _).alloc (Nat.le_refl _) _), ?_⟩
  · unfold put4
    have e : v / 16777216 % 256 = v / 16777216 := by omega
    rw [e]
  · exact ((((Hole.setCell g _ o w _).trans (Hole.setCell g _ (o + 1) _ _)).trans (Hole.setCell g _ (o + 2) _ _)).trans (Hole.setCell g _ (o + 3) _ _)).trans (Hole.alloc _ _ _ (by simp [World.setCell]))

/-- The four bytes of v. -/
def bytes4 (v : Int) : Nat → Int := fun j => if j = 0 then v % 256 else if j = 1 then v / 256 % 256 else if j = 2 then v / 65536 % 256 else v / 16777216 % 256
theorem bytes4_byt (v : Int) : Byt (bytes4 v) := fun j => by
  unfold bytes4
  repeat' split
  all_goals omega
theorem le32_bytes4 {v : Int} (h0 : 0 ≤ v) (h1 : v < 4294967296) : le32 (bytes4 v) 0 = v := by
  unfold le32 bytes4
  simp
  omega
theorem catB_byt {B C : Nat → Int} (hB : Byt B) (hC : Byt C) (n : Nat) : Byt (catB B n C) := fun j => by
  unfold catB
  split
  · exact hB j
  · exact hC _

set_option maxRecDepth 100000 in
set_option maxHeartbeats 1000000 in
theorem append32_any (g cap n : Nat) (B : Nat → Int) (v : Int) (w : World) (hR : Row w g cap n B) (hb : n ≤ 1000000000) (h0 : 0 ≤ v) (h1 : v < 4294967296) :
    Calls Ybaf.prog 9 #[.agg #[], .slice (some ⟨g, 0, none⟩) n cap, .int .u32 v] w fun e w' => ∃ g' cap', e = .returned (.slice (some ⟨g', 0, none⟩) (n + 4) cap') ∧ Row w' g' cap' (n + 4) (catB B n (bytes4 v)) ∧ Hole g w.heap.size w w' ∧ (g' = g ∨ w.heap.size ≤ g') := by
  have hbA : Below w.heap.size w ((w.alloc (.cells #[] 51)).alloc (.cells #[.int .u8 (v % 256), .int .u8 (v / 256 % 256), .int .u8 (v / 65536 % 256), .int .u8 (v / 16777216)] 5)) := ((Below.refl _ _).alloc (Nat.le_refl _) _).alloc (by simp) _
  obtain ⟨W, hW⟩ : ∃ W, W = (w.alloc (.cells #[] 51)).alloc (.cells #[.int .u8 (v % 256), .int .u8 (v / 256 % 256), .int .u8 (v / 65536 % 256), .int .u8 (v / 16777216)] 5) := ⟨_, rfl⟩
  have hblk : W.heap[w.heap.size + 1]? = some (.cells #[.int .u8 (v % 256), .int .u8 (v / 256 % 256), .int .u8 (v / 65536 % 256), .int .u8 (v / 16777216)] 5 (0, 0)) := by
    rw [hW]
    have := heap_alloc_new (w.alloc (.cells #[] 51)) (.cells #[.int .u8 (v % 256), .int .u8 (v / 256 % 256), .int .u8 (v / 65536 % 256), .int .u8 (v / 16777216)] 5)
    rwa [World.size_alloc] at this
  rw [← hW] at hbA
  have hsrc : Src Ybaf.prog 1 23 (.slice (some ⟨w.heap.size + 1, 0, none⟩) 4 4) 4 (cellsOf (bytes4 v) 4) W := by
    refine Src.ofSlice W Ybaf.underlying23 ⟨w.heap.size + 1, 0, none⟩ 4 4 _ (by rw [cellsOf_length]) (fun j u hu => ?_) (fun u hu => ?_)
    · have hj : j < 4 := by have := (List.getElem?_eq_some_iff.1 hu).1; rwa [cellsOf_length] at this
      rw [cellsOf_get? hj] at hu
      cases hu
      rw [Go.WideShapes.add_plain, Nat.zero_add, Joins.cell_of_block hblk]
      have e : v / 16777216 % 256 = v / 16777216 := by omega
      rcases j with _ | _ | _ | _ | j
      · rfl
      · rfl
      · rfl
      · simp [bytes4, e]
      · omega
    · unfold cellsOf at hu
      obtain ⟨_, _, rfl⟩ := List.mem_map.1 hu
      rfl
  obtain ⟨g', cap', w', hrun, hR', hh', hg'⟩ := (hR.later hbA).append (ty := 23) hsrc (by omega)
  rw [hW] at hrun
  have hs := hbA.size
  have HX := hide (And.intro hR' (And.intro hh' (And.intro hg' hbA)))
  clear hR' hh' hg' hbA hsrc hblk hR hs hW
  go_enter Ybaf.func9, Ybaf.ntmps9
  go_wp2_with (at_builtin; refine Lib.wpList_append_run _ rfl _ _ _ _ rfl _ _ rfl rfl _ _ hrun ?_)
  go_ret
  obtain ⟨hR', hh', hg', hbA⟩ := HX.out
  exact ⟨g', cap', rfl, hR', (Hole.of_below hbA).trans (hh'.mono hbA.size), hg'.imp id (Nat.le_trans hbA.size)⟩
end Go.Proofs.YbulkclmFmt
