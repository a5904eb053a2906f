import Derived.Test.YbulkcmoBuild
namespace Go.Proofs.Ybulkcmo
open Go.ChangeShapes Go.WideShapes Go.ChangeAt Go.RowKit Go.Maps
set_option linter.unusedVariables false

theorem zero31 (w : World) : (zeroValue 31).run Yba.prog w = .ok (.agg #[]) w := by kernel_rfl

theorem LinesAt.later {w w' : World} {L : Nat} {caller : Int} {Lt Bf Bt : Nat} {fe : Value} {own : Int} {unk : Bool} (h : LinesAt w L caller Lt Bf Bt fe own unk) (hb : Below w.heap.size w w') : LinesAt w' L caller Lt Bf Bt fe own unk :=
  ⟨by rw [hb.block _ (Array.getElem?_eq_some_iff.1 h.block).1]; exact h.block, by rw [hb.block _ (Array.getElem?_eq_some_iff.1 h.tree).1]; exact h.tree⟩

theorem LinesAt.lt {w : World} {L : Nat} {caller : Int} {Lt Bf Bt : Nat} {fe : Value} {own : Int} {unk : Bool} (h : LinesAt w L caller Lt Bf Bt fe own unk) : L < w.heap.size := (Array.getElem?_eq_some_iff.1 h.block).1

theorem LinesAt.cell11 {w : World} {L : Nat} {caller : Int} {Lt Bf Bt : Nat} {fe : Value} {own : Int} {unk : Bool} (h : LinesAt w L caller Lt Bf Bt fe own unk) : w.cell? ⟨L, 11, none⟩ = some fe := by rw [Joins.cell_of_block h.block]; rfl

theorem LinesAt.free {w : World} {L : Nat} {caller : Int} {Lt Bf Bt : Nat} {fe : Value} {own : Int} {unk : Bool} (h : LinesAt w L caller Lt Bf Bt fe own unk) (o : Nat) : w.frozen? ⟨L, o, none⟩ = false := Joins.unfrozen_of_block h.block o

set_option maxRecDepth 100000 in
set_option maxHeartbeats 1000000 in
theorem ends_cached (L : Nat) (be n : Nat) (f : Int → Option Value) (id : Int) (w : World) (h0 : 0 ≤ id) (h1 : id < 18446744073709551616) (hc : w.cell? ⟨L, 11, none⟩ = some (.map (some be))) (hM : MapIs w be n f) (hv : ∀ k v, f k = some v → v = .agg #[]) :
    Calls Yba.prog 8 #[.pointer (some ⟨L, 0, none⟩), .int .u64 id] w fun e w' => e = .returned (.bool (f id).isSome) ∧ Below w.heap.size w w' := by
  have hlk := hM.look (t := 32) Yba.underlying32 (zero31 w) h0 h1
  have hz : (f id).getD (.agg #[]) = .agg #[] := by
    cases h : f id with
    | none => rfl
    | some v => exact hv id v h
  rw [hz] at hlk
  clear hz hv hM
  generalize (f id).isSome = ok at *
  have hnil := fun (w : World) => run_eql_map_nil (P := Yba.prog) w 32 24 31 (some be) Yba.underlying32
  go_enter Yba.func8, Yba.ntmps8
  go_wp2_with fail
  go_ret
  exact ⟨rfl, (Below.refl _ _).alloc (Nat.le_refl _) _⟩

def oneKey (k : Int) (x : Int) : Option Value := if x = k then some (.agg #[]) else none

theorem bool_eq_self (a : Bool) : (a == a) = true := by cases a <;> rfl

set_option maxRecDepth 100000 in
set_option maxHeartbeats 1000000 in
theorem cached_any (a0 a1 a3 : Option Addr) (n c0 nt c1 ni c3 : Nat) (U : Nat → Int) (T : Nat → Bool) (I : Nat → Int) (c k q : Int) (w : World) (hn : n ≤ 1024) (hni : ni ≤ 1024) (hc0 : 0 ≤ c) (hc1 : c < 18446744073709551616) (hnt : nt ≤ 9223372036854775807)
    (hk0 : 0 ≤ k) (hk1 : k < 18446744073709551616) (hq0 : 0 ≤ q) (hq1 : q < 18446744073709551616) (hU : RowU w a0 n U) (hT : RowB w a1 nt T) (hI : RowU w a3 ni I) :
    Calls Yba.prog 4 #[.slice a0 n c0, .slice a1 nt c1, .int .u64 c, .slice a3 ni c3, .int .u64 k, .int .u64 q] w fun e w' => e = .returned (.bool true) ∧ Below w.heap.size w w' := by
  have hmm := @run_makeMap Yba.prog
  go_enter Yba.func4, Yba.ntmps4
  go_wp2_with fail
  refine (build_any a0 a1 a3 n c0 nt c1 ni c3 U T I c w hn hni hc0 hc1 hnt hU hT hI).mono ?_
  rintro e w1 ⟨L, Lt, Bf, Bt, rfl, hbel, hL, _, _, _, hLA, _, _⟩
  obtain ⟨w2, hrun, hM, hturn⟩ := MapIs.store (t := 32) (MapIs.made w1) Yba.underlying32 (by unfold maxLen; omega) (k := k) hk0 hk1 (.agg #[])
  have hbel2 : Below w1.heap.size w1 w2 := ((Below.refl _ _).alloc (Nat.le_refl _) _).trans (turned_below hturn (Nat.le_refl _))
  have hLA2 := hLA.later hbel2
  have hc11 := hLA2.cell11
  have hf11 := hLA2.free 11
  have hLlt := hLA.lt
  have hs2 := hbel2.size
  have hM3 : MapIs (w2.setCell ⟨L, 11, none⟩ (.map (some w1.heap.size))) w1.heap.size 1 (oneKey k) := by
    refine MapIs.of_block (w := w2) hM ?_
    exact Below.heap_setCell _ _ _ _ (by show w1.heap.size ≠ L; omega)
  have hbel3 : Below w.heap.size w (w2.setCell ⟨L, 11, none⟩ (.map (some w1.heap.size))) := (hbel.trans (hbel2.mono hbel.size)).setCell hL _
  have hc3 : (w2.setCell ⟨L, 11, none⟩ (.map (some w1.heap.size))).cell? ⟨L, 11, none⟩ = some (.map (some w1.heap.size)) := World.cell?_setCell_same _ _ _ hc11
  have hv : ∀ x v, oneKey k x = some v → v = .agg #[] := by
    intro x v h
    unfold oneKey at h
    split at h
    · cases h; rfl
    · cases h
  have HX := hide (And.intro hM3 (And.intro hbel3 hc3))
  have HV := hide hv
  clear hM3 hbel3 hM hturn hbel hbel2 hLA hLA2 hU hT hI hc3 hv
  go_wp2_with fail
  obtain ⟨W, hW⟩ : ∃ W, W = w2.setCell ⟨L, 11, none⟩ (.map (some w1.heap.size)) := ⟨_, rfl⟩
  rw [← hW]
  have hX := HX.out
  rw [← hW] at hX
  clear hW HX
  obtain ⟨hM3, hbel3, hc3⟩ := hX
  refine (ends_cached L w1.heap.size 1 (oneKey k) q W hq0 hq1 hc3 hM3 HV.out).mono ?_
  rintro e w4 ⟨rfl, hb4⟩
  have hM4 := hM3.later hb4
  have hc4 : w4.cell? ⟨L, 11, none⟩ = some (.map (some w1.heap.size)) := (hb4.cell (by
    have := World.block_lt_of_cell? W _ hc3
    exact this)).trans hc3
  have hbel4 := hbel3.trans (hb4.mono hbel3.size)
  have e1 : (oneKey k q).isSome = (q == k) := by
    unfold oneKey
    by_cases h : q = k
    · simp [h]
    · simp [h]
  have e2 : (oneKey k k).isSome = true := by simp [oneKey]
  rw [e1]
  clear e1 hM3 hbel3 hc3 hc11 hf11
  have HY := hide (And.intro hM4 (And.intro hbel4 hc4))
  clear hM4 hbel4 hc4
  have HE := hide e2
  clear e2
  have hqq := bool_eq_self (q == k)
  go_wp2_with fail
  obtain ⟨hM4, hbel4, hc4⟩ := HY.out
  refine (ends_cached L w1.heap.size 1 (oneKey k) k w4 hk0 hk1 hc4 hM4 HV.out).mono ?_
  rintro e w5 ⟨rfl, hb5⟩
  rw [HE.out]
  clear hM4 hc4
  have HZ := hide (hbel4.trans (hb5.mono hbel4.size))
  clear hbel4 hb5
  go_wp2_with fail
  go_ret
  exact ⟨rfl, HZ.out⟩

theorem cached_out (a0 a1 a3 : Option Addr) (n c0 nt c1 ni c3 : Nat) (c k q : Int) (w : World) (h : 1024 < n ∨ 1024 < ni) :
    Calls Yba.prog 4 #[.slice a0 n c0, .slice a1 nt c1, .int .u64 c, .slice a3 ni c3, .int .u64 k, .int .u64 q] w fun e w' => e = .returned (.bool true) ∧ Below w.heap.size w w' := by
  by_cases h1 : 1024 < n
  · have h2 : (1024 : Int) < (n : Int) := by omega
    go_enter Yba.func4, Yba.ntmps4
    go_wp2_with fail
    go_ret
    exact ⟨rfl, Below.refl _ _⟩
  · have h2 : decide ((1024 : Int) < (n : Int)) = false := by simp; omega
    have h3 : (1024 : Int) < (ni : Int) := by omega
    go_enter Yba.func4, Yba.ntmps4
    go_wp2_with fail
    go_ret
    exact ⟨rfl, Below.refl _ _⟩
end Go.Proofs.Ybulkcmo
