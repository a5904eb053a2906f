import Derived.Test.YbulkcmoLink
import Derived.RangeFuncNested
import Derived.RangeFuncBound
import Derived.RangeFuncCalls
import Derived.RangeFuncLeaves
import Derived.Shelf.Abstract
import Derived.Shelf.RegionOpen
import Derived.OwnWalkIn
import Derived.TacticsInMore
import Derived.LoopNIn
import Derived.LoopIn
namespace Go.Proofs.Ybulkcmo
open Go.ChangeShapes Go.WideShapes Go.ChangeAt Go.RowKit Go.Maps Go.Shelf
set_option linter.unusedVariables false
attribute [local go_sem] Oper.semAt_some

/-- Below block N, block k aside, B is as A was. -/
structure Hole (k N : Nat) (A B : World) : Prop where
  os : B.os = A.os
  tape : B.tape = A.tape
  output : B.output = A.output
  size : A.heap.size ≤ B.heap.size
  block : ∀ j, j < N → j ≠ k → B.heap[j]? = A.heap[j]?

theorem Hole.refl (k N : Nat) (A : World) : Hole k N A A := ⟨rfl, rfl, rfl, Nat.le_refl _, fun _ _ _ => rfl⟩
theorem Hole.trans {k N : Nat} {A B C : World} (h : Hole k N A B) (g : Hole k N B C) : Hole k N A C :=
  ⟨g.os.trans h.os, g.tape.trans h.tape, g.output.trans h.output, Nat.le_trans h.size g.size, fun j h1 h2 => (g.block j h1 h2).trans (h.block j h1 h2)⟩
theorem Hole.mono {k N N' : Nat} {A B : World} (h : Hole k N A B) (hN : N' ≤ N) : Hole k N' A B := ⟨h.os, h.tape, h.output, h.size, fun j h1 h2 => h.block j (by omega) h2⟩
theorem Hole.of_below {k N : Nat} {A B : World} (h : Below N A B) : Hole k N A B := ⟨h.os, h.tape, h.output, h.size, fun j h1 _ => h.block j h1⟩
theorem Hole.below {k N B0 : Nat} {A B : World} (h : Hole k N A B) (hN : B0 ≤ N) (hk : B0 ≤ k) : Below B0 A B := ⟨h.os, h.tape, h.output, h.size, fun j h1 => h.block j (by omega) (by omega)⟩
theorem Hole.alloc (k : Nat) {N : Nat} (A : World) (o : Obj) (h : N ≤ A.heap.size) : Hole k N A (A.alloc o) := .of_below ((Below.refl _ _).alloc h o)
theorem Hole.setCell (k N o : Nat) (A : World) (v : Value) : Hole k N A (A.setCell ⟨k, o, none⟩ v) :=
  ⟨rfl, rfl, rfl, by simp [World.setCell], fun j _ hj => Below.heap_setCell _ _ _ _ hj⟩
theorem Hole.putObj (k : Nat) {N : Nat} (A : World) (l : Nat) (o : Obj) (h : N ≤ l) : Hole k N A (A.putObj l o) :=
  ⟨rfl, rfl, rfl, by simp, fun j h1 _ => World.putObj_heap_other (by omega)⟩
theorem Hole.cell {k N : Nat} {A B : World} (h : Hole k N A B) {p : Addr} (h1 : p.block < N) (h2 : p.block ≠ k) : B.cell? p = A.cell? p := World.cell?_of_block (w := A) (h.block p.block h1 h2)
theorem Hole.frozen {k N : Nat} {A B : World} (h : Hole k N A B) {p : Addr} (h1 : p.block < N) (h2 : p.block ≠ k) : B.frozen? p = A.frozen? p := World.frozen?_of_block (w := A) (h.block p.block h1 h2)

theorem Tied.hole {A B : World} {L Lt Bf n : Nat} {f : Int → Option Value} {k N : Nat} (h : Tied A L Lt Bf n f) (g : Hole k N A B) (hL : L < N) (hLt : Lt < N) (hBf : Bf < N) (kL : L ≠ k) (kLt : Lt ≠ k) (kBf : Bf ≠ k) : Tied B L Lt Bf n f :=
  ⟨(g.cell (p := ⟨L, 1, none⟩) hL kL).trans h.c1, (g.cell (p := ⟨L, 3, none⟩) hL kL).trans h.c3, (g.cell (p := ⟨Lt, 1, none⟩) hLt kLt).trans h.t1, h.m.of_block (g.block Bf hBf kBf)⟩

theorem Tied.ltL {A : World} {L Lt Bf n : Nat} {f : Int → Option Value} (h : Tied A L Lt Bf n f) : L < A.heap.size := World.block_lt_of_cell? A _ h.c1
theorem Tied.ltT {A : World} {L Lt Bf n : Nat} {f : Int → Option Value} (h : Tied A L Lt Bf n f) : Lt < A.heap.size := World.block_lt_of_cell? A _ h.t1

/-- Where the line stands. -/
def leftAt (Bi : Nat) (wr : World) : Nat := (intOf ((wr.cell? ⟨Bi, 0, none⟩).getD undef)).toNat
theorem leftAt_eq {Bi : Nat} {wr : World} {y : Int} (h : wr.cell? ⟨Bi, 0, none⟩ = some (.int .u64 y)) : leftAt Bi wr = y.toNat := by simp [leftAt, h, intOf]

set_option maxRecDepth 100000 in
set_option maxHeartbeats 2000000 in
/-- **The iterator 'line': it keeps where it stands in its captured variable id.** -/
theorem line1_in (F : Fence) (m : Nat) (h15 : F.fn 15) (h16 : F.fn 16) (hro : F.round = none) (hlink : ∀ m args w R, Calls Yba.prog 16 args w R → CallsIn F m Yba.prog 16 args w R) (hm : 2 ≤ m)
    (l Bi Bl L Lt Bf n nt N : Nat) (U : Nat → Int) (T : Nat → Bool) (hn : n ≤ 1024) (nBi : Bi < N) (nBl : Bl < N) (nL : L < N) (nLt : Lt < N) (nBf : Bf < N) (dBl : Bl ≠ Bi) (dL : L ≠ Bi) (dLt : Lt ≠ Bi) (dBf : Bf ≠ Bi)
    (Bx : Nat) (xBi : Bi ≠ Bx) (xBl : Bl ≠ Bx) (xL : L ≠ Bx) (xLt : Lt ≠ Bx) (xBf : Bf ≠ Bx)
    (J J' : Int → World → Prop) (Jd Jx : World → Prop)
    (sJ' : ∀ y A B, J' y A → Hole Bi A.heap.size A B → J' y B)
    (hY : ∀ y W, J y W → 1 ≤ y → y < 18446744073709551616 → Tied W L Lt Bf n (freshTo U nt T n) → YieldAt F (m - 1) Yba.prog l #[.int .u64 y] W fun e W' =>
      (e = .returned (.bool true) ∧ J' y W' ∧ Hole Bx N W W') ∨ (e = .returned (.bool false) ∧ Jx W'))
    (hup : ∀ (y : Int) W, 1 ≤ y → y ≤ n → J' y W → J (upOf U y) W) (hlost : ∀ (y : Int) W, (n : Int) < y → J' y W → Jd W) (hend : ∀ W, J 0 W → Jd W)
    (x : Int) (h0 : 0 ≤ x) (h1 : x < 18446744073709551616) (W : World) (hN : N ≤ W.heap.size) (hT : Tied W L Lt Bf n (freshTo U nt T n))
    (hBi : W.cell? ⟨Bi, 0, none⟩ = some (.int .u64 x)) (hfz : W.frozen? ⟨Bi, 0, none⟩ = false) (hBl : W.cell? ⟨Bl, 0, none⟩ = some (.pointer (some ⟨L, 0, none⟩))) (hJ : J x W) :
    CallsIn F m Yba.prog 15 #[.func (.yield l) #[] #[], .pointer (some ⟨Bi, 0, none⟩), .pointer (some ⟨Bl, 0, none⟩)] W fun e W' => (∃ v, e = .returned v) ∧ (Jd W' ∨ Jx W') := by
  have hm1 : 1 ≤ m := by omega
  refine callsIn_of_wp Yba.func15 rfl h15 ?_ hro
  simp only [Yba.ntmps15, List.size_toArray, List.length_cons, List.length_nil, Nat.reduceAdd, Nat.reduceSub, Array.replicate_succ, Array.replicate_zero, List.push_toArray, List.append_toArray, List.nil_append, List.cons_append]
  gi_wp2
  gi_loopw [] (fun wr => ∃ y : Int, 0 ≤ y ∧ y < 18446744073709551616 ∧ wr.cell? ⟨Bi, 0, none⟩ = some (.int .u64 y) ∧ wr.frozen? ⟨Bi, 0, none⟩ = false ∧ wr.cell? ⟨Bl, 0, none⟩ = some (.pointer (some ⟨L, 0, none⟩)) ∧ Tied wr L Lt Bf n (freshTo U nt T n) ∧ N ≤ wr.heap.size ∧ J y wr) (fun wr => leftAt Bi wr)
  case atStart => exact ⟨x, h0, h1, hBi, hfz, hBl, hT, hN, hJ⟩
  case round =>
    obtain ⟨y, y0, y1, hBi, hfz, hBl, hT, hN, hJ⟩ := hrel
    by_cases hy0 : y = 0
    · subst hy0
      have HX := hide (hend _ hJ)
      clear hY sJ' hT hJ hup hlost hend hlink
      gi_wp2
      refine ⟨fun _ h => (by cases h), ?_⟩
      gi_wp2
      go_end0
      exact ⟨⟨_, rfl⟩, .inl HX.out⟩
    · have hy1 : 1 ≤ y := by omega
      have hyb : (y != 0) = true := by simp [hy0]
      obtain ⟨fn, tmps, assign, body, hy, hR⟩ := hY y wr hJ hy1 y1 hT
      have HX := hide hT
      clear hY hT hJ
      gi_wp2
      refine hR.mono ?_
      rintro e W3 (⟨rfl, hJ3, hk3⟩ | ⟨rfl, hJx3⟩)
      · have hT3 := HX.out.hole hk3 nL nLt nBf xL xLt xBf
        have hBi3 := (hk3.cell (p := ⟨Bi, 0, none⟩) nBi xBi).trans hBi
        have hfz3 := (hk3.frozen (p := ⟨Bi, 0, none⟩) nBi xBi).trans hfz
        have hBl3 := (hk3.cell (p := ⟨Bl, 0, none⟩) nBl xBl).trans hBl
        have hN3 : N ≤ W3.heap.size := Nat.le_trans hN hk3.size
        have HM := hide (leftAt_eq hBi)
        have HN := hide hN3
        clear hR HX hk3 hBi hfz hBl hy hN
        by_cases hle : y ≤ n
        · obtain ⟨k, rfl⟩ : ∃ k : Nat, y = (k : Int) + 1 := ⟨(y - 1).toNat, by omega⟩
          have hf : freshTo U nt T n ((k : Int) + 1) = some (.agg #[.int .u64 (U k % ((k : Int) + 1)), .int .u64 0, .bool (decide (k < nt) && T k)]) := by
            unfold freshTo
            rw [if_pos (by omega)]
            have e1 : ((k : Int) + 1 - 1).toNat = k := by omega
            rw [e1]; rfl
          have hk : upOf U ((k : Int) + 1) = U k % ((k : Int) + 1) := by unfold upOf; congr 2; omega
          have hu := upOf_lt U hy1
          rw [hk] at hu
          have hJ4 : ∀ B, Hole Bi W3.heap.size W3 B → J (U k % ((k : Int) + 1)) B := fun B hB => by
            have := hup _ B hy1 hle (sJ' _ _ _ hJ3 hB)
            rwa [hk] at this
          have HY := hide (And.intro hT3 (And.intro hu hJ4))
          have hcall := link_some L Lt Bf n _ _ _ _ _ W3 (by omega) (by omega) hT3 hf
          clear hJ3 hJ4 hu hk hf hT3 hup hlost hend sJ'
          generalize (decide (k < nt) && T k) = tk at *
          generalize U k % ((k : Int) + 1) = uk at *
          gi_wp2
          refine (hlink _ _ _ _ hcall).mono ?_
          rintro e w4 ⟨rfl, hb4⟩
          have hBi4 := (hb4.cell (p := ⟨Bi, 0, none⟩) (Nat.lt_of_lt_of_le nBi hN3)).trans hBi3
          have hfz4 := (hb4.frozen (p := ⟨Bi, 0, none⟩) (Nat.lt_of_lt_of_le nBi hN3)).trans hfz3
          have hs4 := hb4.size
          have hBi4' : Bi < w4.heap.size := by omega
          have HZ := hide hb4
          clear hb4 hcall hlink hN3 hBi3 hfz3
          gi_wp2
          have hbA : Below w4.heap.size (w4.setCell ⟨Bi, 0, none⟩ (.int .u64 uk)) ((w4.setCell ⟨Bi, 0, none⟩ (.int .u64 uk)).alloc (.cells #[.int .u64 uk, .int .u64 0, .bool tk] 48)) := (Below.refl _ _).alloc (by simp [World.setCell]) _
          have hcn : ((w4.setCell ⟨Bi, 0, none⟩ (.int .u64 uk)).alloc (.cells #[.int .u64 uk, .int .u64 0, .bool tk] 48)).cell? ⟨Bi, 0, none⟩ = some (.int .u64 uk) := by
            rw [hbA.cell (p := ⟨Bi, 0, none⟩) hBi4']; exact World.cell?_setCell_same _ _ _ hBi4
          have hfn : ((w4.setCell ⟨Bi, 0, none⟩ (.int .u64 uk)).alloc (.cells #[.int .u64 uk, .int .u64 0, .bool tk] 48)).frozen? ⟨Bi, 0, none⟩ = false := by
            rw [hbA.frozen (p := ⟨Bi, 0, none⟩) hBi4', World.frozen?_setCell]; exact hfz4
          have hh : Hole Bi W3.heap.size W3 ((w4.setCell ⟨Bi, 0, none⟩ (.int .u64 uk)).alloc (.cells #[.int .u64 uk, .int .u64 0, .bool tk] 48)) :=
            ((Hole.of_below HZ.out).trans (Hole.setCell _ _ _ _ _)).trans (Hole.of_below (hbA.mono hs4))
          go_roundw
          case rel =>
            obtain ⟨hT3, hu, hJ4⟩ := HY.out
            have hlt := hT3.m.lt
            have h1' := hT3.ltL
            have h2' := hT3.ltT
            have h3' : Bl < W3.heap.size := World.block_lt_of_cell? W3 _ hBl3
            exact ⟨uk, hu.1, by omega, hcn, hfn, (hh.cell (p := ⟨Bl, 0, none⟩) h3' dBl).trans hBl3, hT3.hole hh h1' h2' hlt dL dLt dBf, Nat.le_trans HN.out hh.size, hJ4 _ hh⟩
          case measure =>
            have hu := HY.out.2.1
            rw [HM.out, leftAt_eq hcn]
            omega
        · have hf : freshTo U nt T n y = none := by unfold freshTo; rw [if_neg (by omega)]
          have hJ4 : ∀ B, Hole Bi W3.heap.size W3 B → Jd B := fun B hB => hlost _ B (by omega) (sJ' _ _ _ hJ3 hB)
          have HY := hide hJ4
          have hcall := link_none L Lt Bf n _ _ W3 (by omega) (by omega) hT3 hf
          clear hJ3 hJ4 hf hT3 hup hlost hend sJ'
          gi_wp2
          refine (hlink _ _ _ _ hcall).mono ?_
          rintro e w4 ⟨rfl, hb4⟩
          have hs4 := hb4.size
          have HZ := hide hb4
          clear hb4 hcall hlink hN3 hBi3 hfz3
          gi_wp2
          refine bodyPost_ret (results_none rfl _ _ _) rfl ?_
          exact ⟨⟨_, rfl⟩, .inl (HY.out _ ((Hole.of_below HZ.out).trans (Hole.alloc _ _ _ hs4)))⟩
      · have HY := hide hJx3
        clear hR HX hJx3 hup hlost hend sJ' hlink
        gi_wp2
        go_end0
        exact ⟨⟨_, rfl⟩, .inr HY.out⟩
end Go.Proofs.Ybulkcmo
