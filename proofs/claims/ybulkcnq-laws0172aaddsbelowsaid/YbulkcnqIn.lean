import Derived.Test.YbulkcnqHeap
namespace Go.Proofs.Ybulkcnq
open Go.ChangeShapes Go.WideShapes Go.ChangeAt Go.RowKit
set_option linter.unusedVariables false

/-- The parent's number as the array 'par' holds it. -/
def parZ (par : Nat → Nat) (j : Nat) : Int := if j = 0 then -1 else par j

theorem ret_bool {a b : Bool} (h : a = b) : Ending.returned (.bool a) = .returned (.bool b) := by rw [h]

set_option maxHeartbeats 400000 in
theorem in_any (n : Nat) (par : Nat → Nat) (hp : ∀ j, 0 < j → par j < j) (g cap i s : Nat) (w : World) (hi : i < n) (hn : n ≤ 1024) (hs : s < n)
    (hc : ∀ j, j < n → w.cell? ⟨g, j, none⟩ = some (.int .i64 (parZ par j))) :
    Calls Yba.prog 7 #[.slice (some ⟨g, 0, none⟩) n cap, .int .i64 i, .int .i64 s] w fun e w' => e = .returned (.bool (under par s i)) ∧ w' = w := by
  have HC := hide hc
  clear hc
  go_enter Yba.func7, Yba.ntmps7
  go_wp2
  go_loop [7] (fun t => (∃ j : Nat, j < n ∧ t = .int .i64 j ∧ under par s j = under par s i) ∨ (t = .int .i64 (-1) ∧ under par s i = false)) (fun t => (intOf t + 1).toNat)
  case atStart => exact .inl ⟨i, hi, rfl, rfl⟩
  case round =>
    rcases hrel with ⟨j, hj, rfl, hu⟩ | ⟨rfl, hu⟩
    · have HU := hide hu
      clear hu
      by_cases hjs : j = s
      · subst hjs
        go_wp2
        go_ret
        exact ⟨ret_bool (by rw [← HU.out, under_self]), rfl⟩
      · have hne : ((j : Int) == (s : Int)) = false := by simp; omega
        have hcj := HC.out j hj
        by_cases hj0 : j = 0
        · subst hj0
          have e0 : parZ par 0 = -1 := rfl
          rw [e0] at hcj
          have hu0 : under par s 0 = false := under_zero par s (by omega)
          have hu1 : under par s i = false := by rw [← HU.out, hu0]
          have HU1 := hide hu1
          clear hu0 hu1 e0 hjs
          go_wp2
          go_round
          case rel => exact .inr ⟨rfl, HU1.out⟩
          case measure => simp [intOf]
        · have e0 : parZ par j = (par j : Int) := by unfold parZ; rw [if_neg hj0]
          rw [e0] at hcj
          have hlt := hp j (by omega)
          have hst := under_step par hp s j hjs (by omega)
          generalize par j = pj at *
          have HS := hide hst
          clear hst e0 hjs hj0
          go_wp2
          go_round
          case rel => exact .inl ⟨pj, by omega, rfl, by rw [← HU.out, HS.out]⟩
          case measure => simp [intOf]; omega
    · have HU := hide hu
      clear hu
      go_wp2
      go_ret
      exact ⟨ret_bool HU.out.symm, rfl⟩
end Go.Proofs.Ybulkcnq
