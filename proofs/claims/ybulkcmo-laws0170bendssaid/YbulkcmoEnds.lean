import Derived.Test.YbulkcmoCallers
import Derived.Maps.RangeWalk
namespace Go.Proofs.Ybulkcmo
open Go.ChangeShapes Go.WideShapes Go.ChangeAt Go.RowKit Go.Maps Go.Shelf
set_option linter.unusedVariables false

theorem endOf_bounds (U : Nat → Int) (n : Nat) : ∀ (k : Nat) (x : Int), x.toNat ≤ k → 0 ≤ x → 0 ≤ endOf U n x ∧ endOf U n x ≤ x := by
  intro k
  induction k with
  | zero => intro x hx h0; rw [endOf_out (by omega)]; omega
  | succ k ih =>
    intro x hx h0
    by_cases h : 1 ≤ x ∧ x ≤ n
    · have hu := upOf_lt U h.1
      by_cases hz : upOf U x = 0
      · rw [endOf_top h hz]; omega
      · rw [endOf_up h hz]
        have := ih (upOf U x) (by omega) (by omega)
        omega
    · rw [endOf_out h]; omega

theorem MapIs.block {w : World} {b n : Nat} {f : Int → Option Value} (h : MapIs w b n f) : ∃ es clock, w.heap[b]? = some (.map es clock) := by
  obtain ⟨D, ⟨es, clock, hb, _⟩, _⟩ := h
  exact ⟨es, clock, hb⟩
theorem MapIs.ne {w : World} {b n : Nat} {f : Int → Option Value} (h : MapIs w b n f) {g : Nat} {cs : Array Value} {t : TypeId} {fr : Nat × Nat} (hg : w.heap[g]? = some (.cells cs t fr)) : b ≠ g := by
  intro e
  obtain ⟨es, clock, hb⟩ := h.block
  rw [e, hg] at hb
  cases hb

theorem size_le {w : World} {b n : Nat} {D : DataW Value} (h : w.ownsMap Yba.prog 24 vR b n D) : Maps.size D ≤ n := by
  obtain ⟨es, clock, _, _, hs, rfl⟩ := h
  simpa [Maps.size, length_sorted] using hs

theorem LinesAt.hole {w w' : World} {L : Nat} {caller : Int} {Lt Bf Bt : Nat} {fe : Value} {own : Int} {unk : Bool} (h : LinesAt w L caller Lt Bf Bt fe own unk) {k N : Nat} (hh : Hole k N w w') (h1 : L < N) (h2 : Lt < N) (k1 : L ≠ k) (k2 : Lt ≠ k) : LinesAt w' L caller Lt Bf Bt fe own unk :=
  ⟨(hh.block L h1 k1).trans h.block, (hh.block Lt h2 k2).trans h.tree⟩

theorem Hole.grown {k N : Nat} {A B C : World} (h : Hole k N A B) (g : B.grownBy C (some k)) (hN : N ≤ B.heap.size) : Hole k N A C :=
  h.trans ⟨g.os, g.tape, g.output, g.size, fun j h1 h2 => g.block j (by omega) (fun e => by cases e; exact h2 rfl)⟩

theorem Hole.turned {w w' : World} {b : Nat} (h : w.mapTurned w' b) : Hole b w.heap.size w w' := (Hole.refl _ _ _).grown h.grown (Nat.le_refl _)

theorem ranges_blocks {w w' : World} {b r n : Nat} {D : DataW Value} {left : Lit → Bool} {cnt : Nat} (h : w.ranges Yba.prog 24 vR b r n D left cnt) (h1 : w'.heap[b]? = w.heap[b]?) (h2 : w'.heap[r]? = w.heap[r]?) : w'.ranges Yba.prog 24 vR b r n D left cnt := by
  obtain ⟨es, clock, since, seen, c0, hb, F, hs, hD, hr, rest⟩ := h
  exact ⟨es, clock, since, seen, c0, h1.trans hb, F, hs, hD, h2.trans hr, rest⟩

/-- The map of followed ends when the entries that 'left' says are still to come. -/
def EndsIs (U : Nat → Int) (n : Nat) (e0 : Int) (D : DataW Value) (left : Lit → Bool) (f : Int → Option Value) : Prop :=
  (∀ k v, f k = some v → v = .agg #[]) ∧ ∀ q, (f q).isSome = true ↔ (q = e0 ∨ ∃ x : Int, 0 ≤ x ∧ x < 18446744073709551616 ∧ Maps.has D (.int .u64 x) = true ∧ left (.int .u64 x) = false ∧ q = endOf U n x)

theorem EndsIs.start (U : Nat → Int) (n : Nat) (e0 : Int) (D : DataW Value) : EndsIs U n e0 D (Maps.has D) (oneKey e0) := by
  refine ⟨fun k v h => ?_, fun q => ?_⟩
  · unfold oneKey at h
    split at h
    · cases h; rfl
    · cases h
  · unfold oneKey
    constructor
    · intro h
      split at h
      · exact .inl (by assumption)
      · simp at h
    · rintro (h | ⟨x, _, _, h1, h2, _⟩)
      · simp [h]
      · rw [h1] at h2; cases h2

theorem EndsIs.step {U : Nat → Int} {n : Nat} {e0 : Int} {D : DataW Value} {left : Lit → Bool} {f : Int → Option Value} (h : EndsIs U n e0 D left f) {x : Int} (h0 : 0 ≤ x) (h1 : x < 18446744073709551616) (hd : Maps.has D (.int .u64 x) = true) :
    EndsIs U n e0 D (fun z => left z && !z.sameKey (.int .u64 x)) (fun k' => if k' = endOf U n x then some (.agg #[]) else f k') := by
  refine ⟨fun k v hk => ?_, fun q => ?_⟩
  · simp only at hk
    split at hk
    · cases hk; rfl
    · exact h.1 k v hk
  · by_cases hq : q = endOf U n x
    · simp only [hq, if_true]
      simp only [Option.isSome_some, true_iff]
      exact .inr ⟨x, h0, h1, hd, by simp [Lit.sameKey], rfl⟩
    · simp only [hq, if_false]
      rw [h.2 q]
      constructor
      · rintro (h' | ⟨y, a, b, c, d, e⟩)
        · exact .inl h'
        · exact .inr ⟨y, a, b, c, by simp [d], e⟩
      · rintro (h' | ⟨y, a, b, c, d, e⟩)
        · exact .inl h'
        · refine .inr ⟨y, a, b, c, ?_, e⟩
          by_cases hy : y = x
          · subst hy; exact absurd e hq
          · have : (Lit.int .u64 y).sameKey (.int .u64 x) = false := by simp [Lit.sameKey, hy]
            simpa [this] using d

end Go.Proofs.Ybulkcmo
