import Derived.Test.YbulkcnqBuild
import Derived.Test.YbulkcnqStart
import Derived.BigQuiet
import Derived.Deep.QuietTactic
namespace Go.Proofs.Ybulkcnq
open Go.ChangeShapes Go.WideShapes Go.ChangeAt Go.RowKit
set_option linter.unusedVariables false

def noneS : Nat → Bool := fun _ => false
theorem bq_none (Q X : Nat → Int) : bq noneS Q X = Q := by funext j; simp [bq, noneS]
theorem bx_none (X : Nat → Int) : bx noneS X = X := by funext j; simp [bx, noneS]

/-- All that the laws read of the tree, in whatever later world. -/
structure Tree (w W : World) (n : Nat) (nb : Nat → Nat) (C : Nat → Value) (par : Nat → Nat) (Q X : Nat → Int) : Prop where
  below : Below w.heap.size w W
  nodes : ∀ j, j < n → W.cell? ⟨w.heap.size, j, none⟩ = some (.pointer (some ⟨nb j, 0, none⟩))
  pars : ∀ j, j < n → W.cell? ⟨w.heap.size + 1, j, none⟩ = some (.int .i64 (parZ par j))
  lt : w.heap.size + 1 < W.heap.size
  forest : Forest W (w.heap.size + 2) n nb C (kids par n) Q X

theorem Built.tree {w W : World} {n : Nat} {nb : Nat → Nat} {C : Nat → Value} {par : Nat → Nat} {Q X : Nat → Int} (h : Built w W n n nb C par (kids par n) Q X) : Tree w W n nb C par (bq noneS Q X) (bx noneS X) := by
  obtain ⟨F, hF, hF2⟩ := h.nodes
  obtain ⟨G, hG, hG2⟩ := h.pars
  refine ⟨h.below, fun j hj => by rw [hF.cell hj, hF2 j hj], fun j hj => by rw [hG.cell hj, hG2 j hj], hG.lt, ?_⟩
  rw [bq_none, bx_none]; exact h.forest

theorem Tree.only {w W W' : World} {n : Nat} {nb : Nat → Nat} {C : Nat → Value} {par : Nat → Nat} {Q X Q' X' : Nat → Int} (h : Tree w W n nb C par Q X) (ho : Only W W' n nb) (hf : Forest W' (w.heap.size + 2) n nb C (kids par n) Q' X') : Tree w W' n nb C par Q' X' := by
  have hb : ∀ i, i < n → w.heap.size + 2 ≤ nb i := fun i hi => (h.forest.node i hi).1
  have hB := ho.below hb
  exact ⟨h.below.trans (hB.mono (by omega)), fun j hj => by rw [hB.cell (by simp)]; exact h.nodes j hj, fun j hj => by rw [hB.cell (by simp)]; exact h.pars j hj, by rw [ho.size]; exact h.lt, hf⟩

theorem Forest.later {w w' : World} {B n : Nat} {nb : Nat → Nat} {C : Nat → Value} {ks : Nat → List Nat} {Q X : Nat → Int} (h : Forest w B n nb C ks Q X) (hb : Below w.heap.size w w') : Forest w' B n nb C ks Q X := by
  refine ⟨fun i hi => ⟨(h.node i hi).1, (h.node i hi).2.of_block (hb.block _ (h.node i hi).2.lt)⟩, fun i hi => ?_⟩
  have h1 := h.kids i hi
  refine ⟨h1.1, ?_⟩
  rcases h1.2 with hn | ⟨g, cap, cur, hv, hb', hg, rest⟩
  · exact .inl hn
  · exact .inr ⟨g, cap, cur, hv, hb', by rw [hb.block g (h1.lt g (by rw [hv]; rfl)).2]; exact hg, rest⟩

theorem Tree.later {w W W' : World} {n : Nat} {nb : Nat → Nat} {C : Nat → Value} {par : Nat → Nat} {Q X : Nat → Int} (h : Tree w W n nb C par Q X) (hb : Below W.heap.size W W') : Tree w W' n nb C par Q X := by
  have hlt := h.lt
  exact ⟨h.below.trans (hb.mono (by omega)), fun j hj => by rw [hb.cell (by show w.heap.size < _; omega)]; exact h.nodes j hj, fun j hj => by rw [hb.cell (by show w.heap.size + 1 < _; omega)]; exact h.pars j hj, by have := hb.size; omega, h.forest.later hb⟩

theorem Tree.drewN {w W : World} {n : Nat} {nb : Nat → Nat} {C : Nat → Value} {par : Nat → Nat} {Q X : Nat → Int} (h : Tree w W n nb C par Q X) (m : Nat) : Tree w (W.drewN m) n nb C par Q X := h.later ⟨rfl, rfl, rfl, Nat.le_refl _, fun _ _ => rfl⟩

set_option maxRecDepth 100000 in
set_option maxHeartbeats 2000000 in
theorem idem_any (b off n cap : Nat) (pp : Nat → Nat) (Q X : Nat → Int) (w : World) (hn0 : 0 < n) (hn : n ≤ 1024) (hin : Came w b off n pp Q X) :
    Calls Yba.prog 4 #[.slice (some ⟨b, off, none⟩) n cap] w fun e w' => e = .returned (.bool true) ∧ Below w.heap.size w w' := by
  have hmk3 := run_make_row' (P := Yba.prog) 25 3 (.int .i64 0) 8 Yba.underlying25 info3 rfl .i64 .i64 n (by omega) (by omega)
  have hnz : ((n : Int) == 0) = false := by simp; omega
  have hng : ¬ (1024 : Int) < (n : Int) := by omega
  have HM := hide hmk3
  clear hmk3
  go_enter Yba.func4, Yba.ntmps4
  go_wp2_with fail
  refine (build_any b off n cap pp Q X w hn0 hn hin).mono ?_
  rintro e w1 ⟨nb, C, rfl, hB⟩
  have hT := hB.tree
  clear hB hin
  have hn00 := hT.nodes 0 hn0
  have HT := hide hT
  clear hT
  go_wp2_with fail
  refine (startNext_any (w.heap.size + 2) n nb C _ (modPar pp) hn Q X n 0 noneS w1 (by omega) hn0 HT.out.forest).mono ?_
  rintro e w2 ⟨rfl, hO, hF⟩
  have hT2 := HT.out.only hO hF
  clear hn00 hO hF HT
  have hmk3 := HM.out
  have HT2 := hide hT2
  have hlt2 := hT2.lt
  clear hT2
  go_wp2_with fail
  clear hmk3
  go_loopw [6] (fun t wr => ∃ (k : Nat) (G : Nat → Value), k ≤ n ∧ t = .int .i64 k ∧ Below w2.heap.size w2 wr ∧ wr.rowIs w2.heap.size 3 n G ∧ ∀ j, j < k → G j = .int .i64 (bq (orS noneS (under (fun j => pp j % j) 0)) Q X j)) (fun t _ => n - (intOf t).toNat)
  case atStart => exact ⟨0, _, Nat.zero_le _, rfl, (Below.refl _ _).alloc (Nat.le_refl _) _, World.rowIs_made w2 (.int .i64 0) n 3, fun j hj => by omega⟩
  case round =>
    obtain ⟨k, G, hk, rfl, hbel, hG, hG2⟩ := hrel
    by_cases hlt : k < n
    · have hT3 := HT2.out.later hbel
      have c1 := hT3.nodes k hlt
      have c2 := (hT3.forest.node k hlt).2.cell.2.2.2.1
      have c3 := hG.cell hlt
      have c4 := hG.frozen k
      have hset := hG.set k (.int .i64 (bq (orS noneS (under (fun j => pp j % j) 0)) Q X k))
      have HS := hide (And.intro hset (And.intro hG2 hbel))
      clear hset hG2 hbel hG hT3
      generalize hqk : bq (orS noneS (under (fun j => pp j % j) 0)) Q X k = qk at *
      have HQ := hide hqk
      clear hqk
      generalize nb k = bk at *
      generalize G k = gk at *
      go_wp2_with fail
      go_roundw
      case rel =>
        obtain ⟨hset, hG2, hbel⟩ := HS.out
        refine ⟨k + 1, _, by omega, by go_num, hbel.setCell (by simp) _, hset, ?_⟩
        intro j hj
        by_cases e : j = k
        · subst e; simp [HQ.out]
        · simp [e]; exact hG2 j (by omega)
      case measure => simp [intOf]; omega
    · have hkn : k = n := by omega
      subst hkn
      have hT3 := HT2.out.later hbel
      have hn00 := hT3.nodes 0 hn0
      have HT3 := hide hT3
      have HG := hide (And.intro hG hG2)
      clear hT3 hG hG2 hbel hlt
      have hwrlt := HG.out.1.lt
      go_wp2_with fail
      refine (startNext_any (w.heap.size + 2) k nb C _ (modPar pp) hn Q X k 0 _ wr (by omega) hn0 HT3.out.forest).mono ?_
      rintro e w4 ⟨rfl, hO, hF⟩
      have hT4 := HT3.out.only hO hF
      have hG4 : w4.rowIs w2.heap.size 3 k G := HG.out.1.of_block (hO.block _ (by
        intro i hi e1
        have h1 := (HT2.out.forest.node i hi).2.lt
        omega))
      have hG2 := HG.out.2
      have HT4 := hide hT4
      clear hn00 hO hF HT3 hT4
      have HG4 := hide (And.intro hG4 hG2)
      clear hG4 hG2
      go_wp2_with fail
      go_loopw [7] (fun t wr => ∃ (j m : Nat), j ≤ k ∧ t = .int .i64 j ∧ wr = w4.drewN m) (fun t _ => k - (intOf t).toNat)
      case atStart => exact ⟨0, 0, Nat.zero_le _, rfl, rfl⟩
      case round =>
        obtain ⟨j, m, hj, rfl, rfl⟩ := hrel
        by_cases hlt : j < k
        · have c1 := HT4.out.nodes j hlt
          have c2 := (HT4.out.forest.node j hlt).2.cell.2.2.2.1
          have c3 := (HT4.out.forest.node j hlt).2.cell.2.2.2.2
          have c4 := HG4.out.1.cell hlt
          rw [HG4.out.2 j hlt] at c4
          have e1 : bq (orS (orS noneS (under (fun j => pp j % j) 0)) (under (fun j => pp j % j) 0)) Q X j = bq (orS noneS (under (fun j => pp j % j) 0)) Q X j := by
            simp [bq, orS, noneS]
          have e2 : bx (orS (orS noneS (under (fun j => pp j % j) 0)) (under (fun j => pp j % j) 0)) X j = 0 := by
            simp [bx, orS, noneS, under_root _ (modPar pp)]
          rw [e1] at c2
          rw [e2] at c3
          clear e1 e2
          generalize bq (orS noneS (under (fun j => pp j % j) 0)) Q X j = qj at *
          generalize nb j = bj at *
          go_wp2_with fail
          go_quiet (fail)
          go_wp2_with fail
          go_roundw
          case rel => exact ⟨j + 1, m + nq, by omega, by go_num, rfl⟩
          case measure => simp [intOf]; omega
        · go_wp2_with fail
          go_ret
          exact ⟨rfl, below_drewN _ HT4.out.below⟩
end Go.Proofs.Ybulkcnq
