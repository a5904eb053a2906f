import Derived.Test.YbulkclmFmtMem
namespace Go.Proofs.YbulkclmFmt
open Go.ChangeShapes Go.WideShapes Go.ChangeAt Go.RowKit
set_option linter.unusedVariables false

/-- A loop whose frame is told by a function of the slots. -/
theorem wp_loop_slots {P : Program} {Q : Exit → Act → World → Prop} {a : Act} {w : World} {c : Code} (n : Nat) (I : (Nat → Value) → World → Prop) (μ : (Nat → Value) → Nat)
    (hd : a.defers = []) (hs : a.tmps.size = n) (h0 : I (fun k => a.tmps.getD k undef) w)
    (round : ∀ f w, I f w → c.wp P (Exit.then (fun a' w' => (a'.defers = [] ∧ a'.tmps.size = n ∧ I (fun k => a'.tmps.getD k undef) w') ∧ μ (fun k => a'.tmps.getD k undef) < μ f) Q) { tmps := ((List.range n).map f).toArray, defers := [] } w) :
    (Code.loop c).wp P Q a w := by
  refine wp_loop (fun a w => a.defers = [] ∧ a.tmps.size = n ∧ I (fun k => a.tmps.getD k undef) w) (fun a _ => μ (fun k => a.tmps.getD k undef)) ⟨hd, hs, h0⟩ ?_
  rintro a w ⟨h1, h2, h3⟩
  have ha : ({ tmps := ((List.range n).map (fun k => a.tmps.getD k undef)).toArray, defers := [] } : Act) = a := by
    obtain ⟨t, d⟩ := a
    simp only at h1 h2 ⊢
    subst h1
    congr 1
    apply Array.ext
    · simp [h2]
    · intro i hi1 hi2
      simp [Array.getD, hi2]
  have := round _ w h3
  rw [ha] at this
  exact this
end Go.Proofs.YbulkclmFmt
