import Derived.Test.YbulkcmoNear
namespace Go.Proofs.Ybulkcmo
open Go.ChangeShapes Go.WideShapes Go.ChangeAt Go.RowKit Go.Maps Go.Shelf
set_option linter.unusedVariables false

theorem lineEnd_any (L Lt Bf n nt : Nat) (U : Nat → Int) (T : Nat → Bool) (x : Int) (w : World) (hn : n ≤ 1024) (h0 : 0 ≤ x) (h1 : x < 18446744073709551616) (hT : Tied w L Lt Bf n (freshTo U nt T n)) :
    Calls Yba.prog 9 #[.pointer (some ⟨L, 0, none⟩), .int .u64 x] w fun e w' => e = .returned (.int .u64 (endOf U n x)) ∧ Below w.heap.size w w' :=
  (callsIn_wide (n := 9)).1 (lineEnd_in Fence.wide 9 (fun _ => trivial) (fun _ _ _ _ _ h => callsIn_wide.2 h) rfl (by omega) L Lt Bf n nt U T x w hn h0 h1 hT)

theorem nearest_any (L Lt Bf n nt : Nat) (U : Nat → Int) (T : Nat → Bool) (x : Int) (w : World) (hn : n ≤ 1024) (h0 : 0 ≤ x) (h1 : x < 18446744073709551616) (hT : Tied w L Lt Bf n (freshTo U nt T n)) :
    Calls Yba.prog 12 #[.pointer (some ⟨L, 0, none⟩), .int .u64 x, .func (.func 13) #[.pointer (some ⟨L, 0, none⟩)] #[]] w fun e w' => e = .returned (.int .u64 (nearOf U n nt T x)) ∧ Below w.heap.size w w' :=
  (callsIn_wide (n := 9)).1 (nearest_in Fence.wide 9 (fun _ => trivial) (fun _ _ _ _ _ h => callsIn_wide.2 h) rfl (by omega) L Lt Bf n nt U T x w hn h0 h1 hT)

theorem LinesAt.ltT {w : World} {L : Nat} {caller : Int} {Lt Bf Bt : Nat} {fe : Value} {own : Int} {unk : Bool} (h : LinesAt w L caller Lt Bf Bt fe own unk) : Lt < w.heap.size := (Array.getElem?_eq_some_iff.1 h.tree).1

theorem LinesAt.ne {w : World} {L : Nat} {caller : Int} {Lt Bf Bt : Nat} {fe : Value} {own : Int} {unk : Bool} (h : LinesAt w L caller Lt Bf Bt fe own unk) : Lt ≠ L := by
  intro e
  have h1 := h.block
  have h2 := h.tree
  rw [e, h1] at h2
  simp at h2

theorem LinesAt.tied {w : World} {L : Nat} {caller : Int} {Lt Bf Bt : Nat} {fe : Value} {own : Int} {unk : Bool} (h : LinesAt w L caller Lt Bf Bt fe own unk) {n : Nat} {f : Int → Option Value} (hM : MapIs w Bf n f) : Tied w L Lt Bf n f :=
  ⟨by rw [Joins.cell_of_block h.block]; rfl, by rw [Joins.cell_of_block h.block]; rfl, by rw [Joins.cell_of_block h.tree]; rfl, hM⟩

theorem LinesAt.set13 {w : World} {L : Nat} {caller : Int} {Lt Bf Bt : Nat} {fe : Value} {own : Int} {unk : Bool} (h : LinesAt w L caller Lt Bf Bt fe own unk) (v : Int) : LinesAt (w.setCell ⟨L, 13, none⟩ (.int .u64 v)) L caller Lt Bf Bt fe v unk :=
  ⟨by rw [Joins.block_setCell h.block]; rfl, by rw [Below.heap_setCell _ _ _ _ h.ne]; exact h.tree⟩
theorem LinesAt.set14 {w : World} {L : Nat} {caller : Int} {Lt Bf Bt : Nat} {fe : Value} {own : Int} {unk : Bool} (h : LinesAt w L caller Lt Bf Bt fe own unk) (v : Bool) : LinesAt (w.setCell ⟨L, 14, none⟩ (.bool v)) L caller Lt Bf Bt fe own v :=
  ⟨by rw [Joins.block_setCell h.block]; rfl, by rw [Below.heap_setCell _ _ _ _ h.ne]; exact h.tree⟩
theorem LinesAt.set11 {w : World} {L : Nat} {caller : Int} {Lt Bf Bt : Nat} {fe : Value} {own : Int} {unk : Bool} (h : LinesAt w L caller Lt Bf Bt fe own unk) (v : Value) : LinesAt (w.setCell ⟨L, 11, none⟩ v) L caller Lt Bf Bt v own unk :=
  ⟨by rw [Joins.block_setCell h.block]; rfl, by rw [Below.heap_setCell _ _ _ _ h.ne]; exact h.tree⟩

theorem nearOf_bounds (U : Nat → Int) (n nt : Nat) (T : Nat → Bool) : ∀ (k : Nat) (x : Int), x.toNat ≤ k → 0 ≤ nearOf U n nt T x ∧ nearOf U n nt T x ≤ n := by
  intro k
  induction k with
  | zero => intro x hx; rw [nearOf_out (by omega)]; omega
  | succ k ih =>
    intro x hx
    by_cases h : 1 ≤ x ∧ x ≤ n
    · cases ht : (decide ((x - 1).toNat < nt) && T (x - 1).toNat) with
      | true => rw [nearOf_yes h ht]; omega
      | false => rw [nearOf_no h ht]; exact ih _ (by have := upOf_lt U h.1; omega)
    · rw [nearOf_out h]; omega

set_option maxRecDepth 100000 in
set_option maxHeartbeats 2000000 in
theorem callers_any (L Lt Bf Bt n nt : Nat) (fe : Value) (U : Nat → Int) (T : Nat → Bool) (c : Int) (w : World) (hn : n ≤ 1024) (h0 : 0 ≤ c) (h1 : c < 18446744073709551616) (hL : LinesAt w L c Lt Bf Bt fe 0 false) (hM : MapIs w Bf n (freshTo U nt T n)) :
    Calls Yba.prog 10 #[.pointer (some ⟨L, 0, none⟩)] w fun e w' => e = .returned (.int .u64 (ownOf U n nt T c)) ∧ Hole L w.heap.size w w' ∧ ∃ own unk, LinesAt w' L c Lt Bf Bt fe own unk := by
  have hb := nearOf_bounds U n nt T c.toNat c (Nat.le_refl _)
  have k0 : w.cell? ⟨L, 0, none⟩ = some (.int .u64 c) := by rw [Joins.cell_of_block hL.block]; rfl
  have k13 : w.cell? ⟨L, 13, none⟩ = some (.int .u64 0) := by rw [Joins.cell_of_block hL.block]; rfl
  have hcall := nearest_any L Lt Bf n nt U T c w hn h0 h1 (hL.tied hM)
  have HL := hide hL
  clear hL hM
  go_enter Yba.func10, Yba.ntmps10
  go_wp2_with fail
  refine hcall.mono ?_
  rintro e w1 ⟨rfl, hb1⟩
  have hL1 := HL.out.later hb1
  have k0 : w1.cell? ⟨L, 0, none⟩ = some (.int .u64 c) := by rw [Joins.cell_of_block hL1.block]; rfl
  have k13 : w1.cell? ⟨L, 13, none⟩ = some (.int .u64 0) := by rw [Joins.cell_of_block hL1.block]; rfl
  have k14 : w1.cell? ⟨L, 14, none⟩ = some (.bool false) := by rw [Joins.cell_of_block hL1.block]; rfl
  have k15 : w1.cell? ⟨L, 15, none⟩ = some (.int .u64 0) := by rw [Joins.cell_of_block hL1.block]; rfl
  have f13 := hL1.free 13
  have f14 := hL1.free 14
  have HX := hide (And.intro hb1 hL1)
  have HO1 : Hid (nearOf U n nt T c = 0 → c = ownOf U n nt T c) := fun h => by unfold ownOf; rw [if_pos h]
  have HO2 : Hid (nearOf U n nt T c ≠ 0 → nearOf U n nt T c = ownOf U n nt T c) := fun h => by unfold ownOf; rw [if_neg h]
  clear hb1 hL1 HL hcall
  generalize nearOf U n nt T c = nc at *
  by_cases hz : nc = 0
  · have HO := hide (HO1.out hz)
    clear HO1 HO2
    subst hz
    go_wp2_with fail
    go_ret
    obtain ⟨hb1, hL1⟩ := HX.out
    exact ⟨congrArg (fun z => Ending.returned (.int .u64 z)) HO.out, (((Hole.of_below hb1).trans (Hole.setCell _ _ _ _ _)).trans (Hole.setCell _ _ _ _ _)).trans (Hole.setCell _ _ _ _ _), _, _, ((hL1.set13 0).set13 c).set14 true⟩
  · have HO := hide (HO2.out hz)
    clear HO1 HO2
    have hzb : (nc == 0) = false := by simp [hz]
    go_wp2_with fail
    go_ret
    obtain ⟨hb1, hL1⟩ := HX.out
    exact ⟨congrArg (fun z => Ending.returned (.int .u64 z)) HO.out, (Hole.of_below hb1).trans (Hole.setCell _ _ _ _ _), _, _, hL1.set13 nc⟩
end Go.Proofs.Ybulkcmo
