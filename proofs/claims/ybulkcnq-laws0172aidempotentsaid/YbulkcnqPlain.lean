/-
  The plain mathematics of the trees of zz_law_s0172a.go: parents below children, 'under', children in order. No Go in sight.
-/
namespace Go.Proofs.Ybulkcnq

/-- From node j up along 'par', with fuel: is s met? -/
def up (par : Nat → Nat) : Nat → Nat → Nat → Bool
  | 0, _, _ => false
  | f + 1, s, j => if j = s then true else if j = 0 then false else up par f s (par j)

/-- Node j lies in the subtree of node s. -/
def under (par : Nat → Nat) (s j : Nat) : Bool := up par (j + 1) s j

theorem up_fuel (par : Nat → Nat) (hp : ∀ j, 0 < j → par j < j) (s : Nat) : ∀ (f g j : Nat), j < f → j < g → up par f s j = up par g s j := by
  intro f
  induction f with
  | zero => intro g j h _; omega
  | succ f ih =>
    intro g j hf hg
    obtain ⟨g', rfl⟩ : ∃ g', g = g' + 1 := ⟨g - 1, by omega⟩
    unfold up
    by_cases h1 : j = s
    · rw [if_pos h1, if_pos h1]
    · rw [if_neg h1, if_neg h1]
      by_cases h2 : j = 0
      · rw [if_pos h2, if_pos h2]
      · rw [if_neg h2, if_neg h2]
        have := hp j (by omega)
        exact ih g' (par j) (by omega) (by omega)

theorem under_self (par : Nat → Nat) (s : Nat) : under par s s = true := by
  unfold under up; simp

theorem under_zero (par : Nat → Nat) (s : Nat) (h : s ≠ 0) : under par s 0 = false := by
  unfold under up; rw [if_neg (by omega)]; simp

theorem under_step (par : Nat → Nat) (hp : ∀ j, 0 < j → par j < j) (s j : Nat) (h : j ≠ s) (hj : 0 < j) : under par s j = under par s (par j) := by
  have := hp j hj
  show up par (j + 1) s j = _
  unfold up
  rw [if_neg h, if_neg (by omega)]
  exact up_fuel par hp s j (par j + 1) (par j) (by omega) (by omega)

/-- The children of node i among the first n nodes, in order. -/
def kids (par : Nat → Nat) (n i : Nat) : List Nat := (List.range n).filter (fun c => decide (0 < c) && (par c == i))

theorem mem_kids (par : Nat → Nat) (n i c : Nat) : c ∈ kids par n i ↔ c < n ∧ 0 < c ∧ par c = i := by
  unfold kids; simp

theorem kids_succ_hit (par : Nat → Nat) (k : Nat) (hk : 0 < k) : kids par (k + 1) (par k) = kids par k (par k) ++ [k] := by
  unfold kids; rw [List.range_succ, List.filter_append]; simp [hk]

theorem kids_succ_miss (par : Nat → Nat) (k i : Nat) (h : k = 0 ∨ par k ≠ i) : kids par (k + 1) i = kids par k i := by
  unfold kids; rw [List.range_succ, List.filter_append]
  rcases h with rfl | h <;> simp [*]

theorem kids_length_le (par : Nat → Nat) (n i : Nat) : (kids par n i).length ≤ n := by
  have := List.length_filter_le (fun c => decide (0 < c) && (par c == i)) (List.range n)
  unfold kids; simpa using this

/-- A child's subtree lies in the node's. -/
theorem under_of_kid (par : Nat → Nat) (hp : ∀ j, 0 < j → par j < j) (i c : Nat) (hc : 0 < c) (hpc : par c = i) : ∀ j, under par c j = true → under par i j = true := by
  intro j
  induction j using Nat.strongRecOn with
  | _ j ih =>
    intro h
    have hlt := hp c hc
    by_cases h1 : j = c
    · subst h1
      rw [under_step par hp i j (by omega) hc, hpc]
      exact under_self par i
    · by_cases h0 : j = 0
      · subst h0; rw [under_zero par c (by omega)] at h; cases h
      · rw [under_step par hp c j h1 (by omega)] at h
        have h2 := ih (par j) (hp j (by omega)) h
        by_cases h3 : j = i
        · subst h3; exact under_self par j
        · rw [under_step par hp i j h3 (by omega)]; exact h2

/-- What lies in a node's subtree is the node, or lies in a child's subtree. -/
theorem under_split (par : Nat → Nat) (hp : ∀ j, 0 < j → par j < j) (n i : Nat) : ∀ j, j < n → under par i j = (decide (j = i) || (kids par n i).any (fun c => under par c j)) := by
  intro j
  induction j using Nat.strongRecOn with
  | _ j ih =>
    intro hj
    by_cases h1 : j = i
    · subst h1; simp [under_self]
    · have e1 : decide (j = i) = false := by simp [h1]
      rw [e1, Bool.false_or]
      by_cases h0 : j = 0
      · subst h0
        rw [under_zero par i (by omega)]
        symm
        rw [List.any_eq_false]
        intro c hc
        have := (mem_kids par n i c).1 hc
        rw [under_zero par c (by omega)]; simp
      · have hlt := hp j (by omega)
        rw [Bool.eq_iff_iff]
        constructor
        · intro h
          rw [under_step par hp i j h1 (by omega)] at h
          rw [List.any_eq_true]
          by_cases h2 : par j = i
          · exact ⟨j, (mem_kids par n i j).2 ⟨hj, by omega, h2⟩, under_self par j⟩
          · rw [ih (par j) hlt (by omega)] at h
            have e2 : decide (par j = i) = false := by simp [h2]
            rw [e2, Bool.false_or, List.any_eq_true] at h
            obtain ⟨c, hc, hu⟩ := h
            refine ⟨c, hc, ?_⟩
            by_cases h3 : j = c
            · subst h3; exact under_self par j
            · rw [under_step par hp c j h3 (by omega)]; exact hu
        · intro h
          rw [List.any_eq_true] at h
          obtain ⟨c, hc, hu⟩ := h
          have := (mem_kids par n i c).1 hc
          exact under_of_kid par hp i c this.2.1 this.2.2 j hu

/-- At the root everything lies below. -/
theorem under_root (par : Nat → Nat) (hp : ∀ j, 0 < j → par j < j) : ∀ j, under par 0 j = true := by
  intro j
  induction j using Nat.strongRecOn with
  | _ j ih =>
    by_cases h0 : j = 0
    · subst h0; exact under_self par 0
    · rw [under_step par hp 0 j h0 (by omega)]; exact ih (par j) (hp j (by omega))

end Go.Proofs.Ybulkcnq
