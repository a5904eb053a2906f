import Derived.Test.YbulkcnqHeap
import Derived.Test.YbulkcnqIn
import Derived.Deep.OwnRows
namespace Go.Proofs.Ybulkcnq
open Go.ChangeShapes Go.WideShapes Go.ChangeAt Go.RowKit
set_option linter.unusedVariables false

/-- k of the n nodes are built; 'ks': the children that each has so far. -/
structure Built (w wr : World) (n k : Nat) (nb : Nat → Nat) (C : Nat → Value) (par : Nat → Nat) (ks : Nat → List Nat) (Q X : Nat → Int) : Prop where
  below : Below w.heap.size w wr
  nodes : ∃ F, wr.rowIs w.heap.size 28 n F ∧ ∀ j, j < k → F j = .pointer (some ⟨nb j, 0, none⟩)
  pars : ∃ G, wr.rowIs (w.heap.size + 1) 3 n G ∧ ∀ j, j < k → G j = .int .i64 (parZ par j)
  forest : Forest wr (w.heap.size + 2) k nb C ks Q X
  apart : ∀ i j, i < k → j < k → i ≠ j → (C i).ownBlock = none ∨ (C i).ownBlock ≠ (C j).ownBlock

theorem Built.drew {w wr : World} {n k : Nat} {nb : Nat → Nat} {C : Nat → Value} {par : Nat → Nat} {ks : Nat → List Nat} {Q X : Nat → Int} (h : Built w wr n k nb C par ks Q X) : Built w wr.drew n k nb C par ks Q X :=
  ⟨h.below.drew, h.nodes, h.pars, ⟨h.forest.node, h.forest.kids⟩, h.apart⟩

def setAt {α : Type} (f : Nat → α) (k : Nat) (v : α) (j : Nat) : α := if j = k then v else f j
theorem setAt_same {α : Type} (f : Nat → α) (k : Nat) (v : α) : setAt f k v k = v := by simp [setAt]
theorem setAt_other {α : Type} (f : Nat → α) (k : Nat) (v : α) (j : Nat) (h : j ≠ k) : setAt f k v j = f j := by simp [setAt, h]

theorem kids_self (par : Nat → Nat) (hp : ∀ j, 0 < j → par j < j) (k i : Nat) (h : k ≤ i) : kids par k i = [] := by
  unfold kids
  rw [List.filter_eq_nil_iff]
  intro c hc
  have hck : c < k := by simpa using hc
  by_cases h0 : 0 < c
  · have := hp c h0
    have hne : (par c == i) = false := by simp; omega
    simp [hne]
  · have : c = 0 := by omega
    subst this; simp

/-- The node k is laid: a new block, its pointer and its parent's number stored. -/
theorem Built.add {w wr W : World} {n k : Nat} {nb : Nat → Nat} {C : Nat → Value} {par : Nat → Nat} {Q X : Nat → Int} (hp : ∀ j, 0 < j → par j < j) (h : Built w wr n k nb C par (kids par k) Q X) (hk : k < n)
    (hb : Below w.heap.size wr W) (hsz : W.heap.size = wr.heap.size + 1)
    (hrest : ∀ j, j ≠ w.heap.size → j ≠ w.heap.size + 1 → j ≠ wr.heap.size → W.heap[j]? = wr.heap[j]?)
    (hN : ∀ F, wr.rowIs w.heap.size 28 n F → ∃ F', W.rowIs w.heap.size 28 n F' ∧ F' k = .pointer (some ⟨wr.heap.size, 0, none⟩) ∧ ∀ j, j < n → j ≠ k → F' j = F j)
    (hP : ∀ G, wr.rowIs (w.heap.size + 1) 3 n G → ∃ G', W.rowIs (w.heap.size + 1) 3 n G' ∧ G' k = .int .i64 (parZ par k) ∧ ∀ j, j < n → j ≠ k → G' j = G j)
    (hnode : NodeAt W wr.heap.size (.slice none 0 0) k (Q k) (X k)) :
    Built w W n (k + 1) (setAt nb k wr.heap.size) (setAt C k (.slice none 0 0)) par (kids par k) Q X := by
  obtain ⟨F, hF, hF2⟩ := h.nodes
  obtain ⟨G, hG, hG2⟩ := h.pars
  obtain ⟨F', hF', hF3, hF4⟩ := hN F hF
  obtain ⟨G', hG', hG3, hG4⟩ := hP G hG
  have hPs := hG.lt
  refine ⟨h.below.trans hb, ⟨F', hF', ?_⟩, ⟨G', hG', ?_⟩, ⟨?_, ?_⟩, ?_⟩
  · intro j hj
    by_cases e : j = k
    · subst e; rw [hF3, setAt_same]
    · rw [hF4 j (by omega) e, hF2 j (by omega), setAt_other _ _ _ _ e]
  · intro j hj
    by_cases e : j = k
    · subst e; rw [hG3]
    · rw [hG4 j (by omega) e, hG2 j (by omega)]
  · intro j hj
    by_cases e : j = k
    · subst e; rw [setAt_same, setAt_same]; exact ⟨by omega, hnode⟩
    · rw [setAt_other _ _ _ _ e, setAt_other _ _ _ _ e]
      obtain ⟨h1, h2⟩ := h.forest.node j (by omega)
      have := h2.lt
      exact ⟨h1, h2.of_block (hrest _ (by omega) (by omega) (by omega))⟩
  · intro j hj
    by_cases e : j = k
    · subst e; rw [setAt_same, kids_self par hp j j (Nat.le_refl _)]; exact World.ownsRow_nil _ _ _ _
    · rw [setAt_other _ _ _ _ e]
      have h1 := h.forest.kids j (by omega)
      have e2 : ((kids par k j).map fun c => Value.pointer (some ⟨setAt nb k wr.heap.size c, 0, none⟩)) = ((kids par k j).map fun c => Value.pointer (some ⟨nb c, 0, none⟩)) := by
        apply List.map_congr_left
        intro c hc
        have := (mem_kids par k j c).1 hc
        rw [setAt_other _ _ _ _ (by omega)]
      rw [e2]
      refine ⟨h1.1, ?_⟩
      rcases h1.2 with hn | ⟨g, cap, cur, hv, hb', hg, rest⟩
      · exact .inl hn
      · have hlt := (h1.lt g (by rw [hv]; rfl)).2
        exact .inr ⟨g, cap, cur, hv, hb', by rw [hrest g (by omega) (by omega) (by omega)]; exact hg, rest⟩
  · intro i j hi hj hne
    by_cases ei : i = k
    · subst ei; left; rw [setAt_same]; rfl
    · by_cases ej : j = k
      · subst ej
        rw [setAt_other _ _ _ _ ei, setAt_same]
        cases hC : (C i).ownBlock with
        | none => exact .inl rfl
        | some x => right; simp [Value.ownBlock]
      · rw [setAt_other _ _ _ _ ei, setAt_other _ _ _ _ ej]
        exact h.apart i j (by omega) (by omega) hne

/-- The children of p grown by one: the append, and the store of the new slice. -/
theorem Built.grow {w W w1 : World} {n k p : Nat} {nb : Nat → Nat} {C : Nat → Value} {par : Nat → Nat} {Q X : Nat → Int} (hp : ∀ j, 0 < j → par j < j) (h : Built w W n (k + 1) nb C par (kids par k) Q X) (hk : k < n) (hk0 : 0 < k) (hpk : par k = p)
    {H g cap : Nat} (hH : W.heap.size = H) (x : Value) (W2 : World) (hW2 : Below H W W2)
    (hown : w1.ownsRow (w.heap.size + 2) 28 1 (.slice (some ⟨g, 0, none⟩) ((kids par k p).length + 1) cap) ((kids par k p).length + 1) (((kids par k p).map fun c => Value.pointer (some ⟨nb c, 0, none⟩)) ++ [.pointer (some ⟨nb k, 0, none⟩)]))
    (hgrow : W2.grownBy w1 (C p).ownBlock) (hat : (C p).ownBlock = some g ∨ H ≤ g) :
    Built w (w1.setCell ⟨nb p, 1, none⟩ (.slice (some ⟨g, 0, none⟩) ((kids par k p).length + 1) cap)) n (k + 1) nb (setAt C p (.slice (some ⟨g, 0, none⟩) ((kids par k p).length + 1) cap)) par (kids par (k + 1)) Q X := by
  have hpk' : p < k := by rw [← hpk]; exact hp k hk0
  obtain ⟨F, hF, hF2⟩ := h.nodes
  obtain ⟨G, hG, hG2⟩ := h.pars
  have hFs := hF.lt
  have hPs := hG.lt
  have hnp := (h.forest.node p (by omega)).2
  have hnB := (h.forest.node p (by omega)).1
  have hnlt := hnp.lt
  have hCp := h.forest.kids p (by omega)
  have hw2 := hW2.size
  -- a block of W that is not C p's row is as it was in w1
  have kept : ∀ j, j < W.heap.size → some j ≠ (C p).ownBlock → w1.heap[j]? = W.heap[j]? := by
    intro j hj hne
    rw [hgrow.block j (by omega) hne]
    exact hW2.block j (by omega)
  -- the row of C p is no node, nor one of the two arrays
  have rowType : ∀ j cs t, W.heap[j]? = some (.cells cs t (0, 0)) → t ≠ 28 → some j ≠ (C p).ownBlock := by
    intro j cs t hj ht he
    rcases hCp.2 with ⟨hv, _⟩ | ⟨g', cap', cur, hv, _, hg, _⟩
    · rw [hv] at he; simp [Value.ownBlock] at he
    · rw [hv] at he; simp [Value.ownBlock] at he
      subst he
      rw [hj] at hg; simp at hg; exact ht hg.2
  have rowB : some w.heap.size ≠ (C p).ownBlock := by
    intro he
    have := (hCp.lt w.heap.size he.symm).1
    omega
  have nodeKept : ∀ j, j < k + 1 → w1.heap[nb j]? = W.heap[nb j]? := by
    intro j hj
    have hn := (h.forest.node j hj).2
    obtain ⟨cs, hc, _⟩ := hn
    exact kept _ (h.forest.node j hj).2.lt (rowType _ _ _ hc (by decide))
  have gne : ∀ j, j < k + 1 → g ≠ nb j := by
    intro j hj e
    have hn := (h.forest.node j hj).2
    obtain ⟨cs, hc, _⟩ := hn
    rcases hat with ha | ha
    · exact rowType _ _ _ hc (by decide) (by rw [ha, e])
    · have := (h.forest.node j hj).2.lt
      omega
  have set0 : ∀ j, j ≠ nb p → ∀ v, (w1.setCell ⟨nb p, 1, none⟩ v).heap[j]? = w1.heap[j]? := fun j hj v => Below.heap_setCell _ _ _ _ hj
  refine ⟨?_, ⟨F, ?_, hF2⟩, ⟨G, ?_, hG2⟩, ⟨?_, ?_⟩, ?_⟩
  · refine Below.setCell ?_ (by show w.heap.size ≤ nb p; omega) _
    refine ((h.below.trans (hW2.mono (by omega))).grown hgrow (by omega) ?_)
    intro kk hkk
    have := (hCp.lt kk hkk).1
    omega
  · obtain ⟨c, hc, hs, hcc⟩ := hF
    exact ⟨c, by rw [set0 _ (by omega), kept _ (by omega) rowB]; exact hc, hs, hcc⟩
  · obtain ⟨c, hc, hs, hcc⟩ := hG
    exact ⟨c, by rw [set0 _ (by omega), kept _ (by omega) (rowType _ _ _ hc (by decide))]; exact hc, hs, hcc⟩
  · intro j hj
    refine ⟨(h.forest.node j hj).1, ?_⟩
    by_cases e : j = p
    · subst e
      rw [setAt_same]
      obtain ⟨cs, hc, hs, h1, h2, h8, h11, h12⟩ := hnp.of_block (nodeKept j hj)
      refine ⟨_, Joins.block_setCell (i := 1) hc _, by simp [hs], by simp [hs], ?_, ?_, ?_, ?_⟩
      all_goals (rw [Array.getElem?_setIfInBounds, if_neg (by omega)]; assumption)
    · rw [setAt_other _ _ _ _ e]
      refine ((h.forest.node j hj).2.of_block (nodeKept j hj)).other ?_
      intro e2
      have h1 := (h.forest.node j hj).2
      rw [e2] at h1
      have := h1.serial hnp
      omega
  · intro j hj
    by_cases e : j = p
    · subst e
      rw [setAt_same, ← hpk, kids_succ_hit par k hk0, hpk]
      simp only [List.length_append, List.length_cons, List.length_nil, List.map_append, List.map_cons, List.map_nil]
      refine ⟨hown.1, ?_⟩
      rcases hown.2 with ⟨hv, _⟩ | ⟨g', cap', cur, hv, hb', hg, rest⟩
      · cases hv
      · refine .inr ⟨g', cap', cur, hv, hb', ?_, rest⟩
        have : g' = g := by simp at hv; omega
        rw [set0 _ (by rw [this]; exact gne _ hj)]; exact hg
    · rw [setAt_other _ _ _ _ e, kids_succ_miss par k j (.inr (by rw [hpk]; exact fun e' => e e'.symm))]
      have h1 := h.forest.kids j hj
      refine ⟨h1.1, ?_⟩
      rcases h1.2 with hn | ⟨g', cap', cur, hv, hb', hg, rest⟩
      · exact .inl hn
      · have hlt := (h1.lt g' (by rw [hv]; rfl)).2
        refine .inr ⟨g', cap', cur, hv, hb', ?_, rest⟩
        rw [set0 _ ?_, kept g' hlt ?_]
        · exact hg
        · have ha := h.apart j p hj (by omega) e
          rw [hv] at ha
          rcases ha with ha | ha
          · simp [Value.ownBlock] at ha
          · exact ha
        · intro e2
          obtain ⟨cs, hc, _⟩ := hnp
          rw [← e2, hg] at hc; simp at hc
  · intro i j hi hj hne
    by_cases ei : i = p
    · subst ei
      rw [setAt_same, setAt_other _ _ _ _ (fun e => hne e.symm)]
      right
      intro he
      have hb := (h.forest.kids j hj).lt g he.symm
      rcases hat with ha | ha
      · rcases h.apart j i hj hi (fun e => hne e.symm) with h1 | h1
        · rw [h1] at he; cases he
        · exact h1 (by rw [ha]; exact he.symm)
      · omega
    · by_cases ej : j = p
      · subst ej
        rw [setAt_same, setAt_other _ _ _ _ ei]
        cases hC : (C i).ownBlock with
        | none => exact .inl rfl
        | some y =>
          right
          intro he
          have he' : y = g := by simpa [Value.ownBlock] using he
          subst he'
          have hb := (h.forest.kids i hi).lt y hC
          rcases hat with ha | ha
          · rcases h.apart i j hi hj hne with h1 | h1
            · rw [hC] at h1; cases h1
            · exact h1 (by rw [hC, ha])
          · omega
      · rw [setAt_other _ _ _ _ ei, setAt_other _ _ _ _ ej]
        exact h.apart i j hi hj hne

end Go.Proofs.Ybulkcnq
