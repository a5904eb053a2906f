import Derived.Test.YbulkcnqHeap
namespace Go.Proofs.Ybulkcnq
open Go.ChangeShapes Go.WideShapes Go.ChangeAt Go.RowKit
set_option linter.unusedVariables false

/-- The set bumped after k children. -/
def afterKids (par : Nat → Nat) (n i : Nat) (S : Nat → Bool) (k : Nat) (j : Nat) : Bool := S j || decide (j = i) || ((kids par n i).take k).any (fun c => under par c j)

theorem afterKids_zero (par : Nat → Nat) (n i : Nat) (S : Nat → Bool) : afterKids par n i S 0 = orS S (fun j => decide (j = i)) := by
  funext j; simp [afterKids, orS]

theorem afterKids_succ (par : Nat → Nat) (n i : Nat) (S : Nat → Bool) (k : Nat) (hk : k < (kids par n i).length) : orS (afterKids par n i S k) (under par (kids par n i)[k]) = afterKids par n i S (k + 1) := by
  funext j
  unfold afterKids orS
  rw [List.take_succ_eq_append_getElem hk, List.any_append]
  simp only [List.any_cons, List.any_nil, Bool.or_false, Bool.or_assoc]

theorem afterKids_all (par : Nat → Nat) (hp : ∀ j, 0 < j → par j < j) (n i : Nat) (S : Nat → Bool) (j : Nat) (hj : j < n) : afterKids par n i S (kids par n i).length j = orS S (under par i) j := by
  unfold afterKids orS
  rw [List.take_length, under_split par hp n i j hj, Bool.or_assoc]

/-- A cell of a node's row of children. -/
theorem Forest.kidCell {w : World} {B n : Nat} {nb : Nat → Nat} {C : Nat → Value} {ks : Nat → List Nat} {Q X : Nat → Int} (h : Forest w B n nb C ks Q X) {i : Nat} (hi : i < n) {g len cap : Nat} (hv : C i = .slice (some ⟨g, 0, none⟩) len cap) {k : Nat} (hk : k < (ks i).length) :
    w.cell? ⟨g, k, none⟩ = some (.pointer (some ⟨nb (ks i)[k], 0, none⟩)) := by
  have h1 := (h.kids i hi).cells (g := g) (by rw [hv]; rfl) k (.pointer (some ⟨nb (ks i)[k], 0, none⟩)) (by simp [hk])
  have hadd : (⟨g, 0, none⟩ : Addr).add k = ⟨g, k, none⟩ := by unfold Addr.add; split <;> simp_all
  rw [hadd] at h1
  exact h1

theorem startNext_end {B n : Nat} {nb : Nat → Nat} {C : Nat → Value} {par : Nat → Nat} (hp : ∀ j, 0 < j → par j < j) {Q X : Nat → Int} {i : Nat} {S : Nat → Bool} {w : World}
    (h : Forest w B n nb C (kids par n) (bq (afterKids par n i S (kids par n i).length) Q X) (bx (afterKids par n i S (kids par n i).length) X)) :
    Forest w B n nb C (kids par n) (bq (orS S (under par i)) Q X) (bx (orS S (under par i)) X) :=
  h.congr (fun j hj => by unfold bq; rw [afterKids_all par hp n i S j hj]) (fun j hj => by unfold bx; rw [afterKids_all par hp n i S j hj])

set_option maxHeartbeats 1000000 in
theorem startNext_any (B n : Nat) (nb : Nat → Nat) (C : Nat → Value) (par : Nat → Nat) (hp : ∀ j, 0 < j → par j < j) (hn : n ≤ 1024) (Q X : Nat → Int) (m : Nat) :
    ∀ (i : Nat) (S : Nat → Bool) (w : World), n - i ≤ m → i < n → Forest w B n nb C (kids par n) (bq S Q X) (bx S X) →
    Calls Yba.prog 6 #[.pointer (some ⟨nb i, 0, none⟩)] w fun e w' => e = .returned (.tuple #[]) ∧ Only w w' n nb ∧ Forest w' B n nb C (kids par n) (bq (orS S (under par i)) Q X) (bx (orS S (under par i)) X) := by
  induction m with
  | zero => intro i S w h h2; omega
  | succ m ih =>
    intro i S w hm hi hF
    have IH := hide ih
    clear ih
    obtain ⟨hBi, hnode⟩ := hF.node i hi
    obtain ⟨c1, c2, c8, c11, c12⟩ := hnode.cell
    have f11 := hnode.free 11
    have f12 := hnode.free 12
    have hkl := kids_length_le par n i
    have hbump := hF.bump hi
    rw [← afterKids_zero par n i S] at hbump
    have HB := hide hbump
    have hO0 : Only w ((w.setCell ⟨nb i, 11, none⟩ (.int .i64 (wrap64 (bq S Q X i + bx S X i)))).setCell ⟨nb i, 12, none⟩ (.int .i64 0)) n nb := ((Only.refl w n nb).setCell hi _ _).setCell hi _ _
    have HO := hide hO0
    clear hbump hO0
    rcases Joins.ownsRow_forms (hF.kids i hi) with ⟨hv, hl0⟩ | ⟨g, cap, hv⟩
    · rw [hv] at c1
      have HL := hide hl0
      clear hv hnode hF hl0 hkl
      generalize bq S Q X i = q at *
      generalize bx S X i = x at *
      go_enter Yba.func6, Yba.ntmps6
      go_wp2_with fail
      go_region
      go_wp2_with fail
      go_loopw [24] (fun t wr => t = .int .i64 0 ∧ wr = (((w.setCell ⟨nb i, 11, none⟩ (.int .i64 (wrap64 (q + x)))).setCell ⟨nb i, 12, none⟩ (.int .i64 0)).drew)) (fun _ _ => 0)
      case atStart => exact ⟨rfl, rfl⟩
      case round =>
        obtain ⟨rfl, rfl⟩ := hrel
        go_wp2_with fail
        go_end0
        refine ⟨rfl, HO.out.drew, startNext_end hp ?_⟩
        rw [HL.out]
        exact HB.out.drew
    · rw [hv] at c1
      clear hnode hF
      generalize bq S Q X i = q at *
      generalize bx S X i = x at *
      have HV := hide hv
      clear hv
      generalize hl : (kids par n i).length = len at *
      have HL := hide hl
      clear hl
      go_enter Yba.func6, Yba.ntmps6
      go_wp2_with fail
      go_region
      go_wp2_with fail
      go_loopw [24] (fun t wr => ∃ k : Nat, k ≤ len ∧ t = .int .i64 k ∧ Only w wr n nb ∧ Forest wr B n nb C (kids par n) (bq (afterKids par n i S k) Q X) (bx (afterKids par n i S k) X)) (fun t _ => len - (intOf t).toNat)
      case atStart => exact ⟨0, Nat.zero_le _, rfl, HO.out.drew, HB.out.drew⟩
      case round =>
        obtain ⟨k, hk, rfl, hO, hFk⟩ := hrel
        clear c1 c2 c8 c11 c12 f11 f12
        by_cases hlt : k < len
        · have hk' : k < (kids par n i).length := by rw [HL.out]; exact hlt
          have hcell := hFk.kidCell hi HV.out hk'
          obtain ⟨hcn, hc0, hcp⟩ := (mem_kids par n i _).1 (List.getElem_mem hk')
          have hic := hp _ hc0
          rw [hcp] at hic
          have hstep := afterKids_succ par n i S k hk'
          generalize (kids par n i)[k] = c at *
          have HS := hide hstep
          clear hstep hk' hcp
          go_wp2_with fail
          refine (IH.out c (afterKids par n i S k) wr (by omega) hcn hFk).mono ?_
          rintro e w' ⟨rfl, hO1, hF1⟩
          rw [HS.out] at hF1
          go_wp2_with fail
          go_roundw
          case rel => exact ⟨k + 1, by omega, by go_num, hO.trans hO1, hF1⟩
          case measure => simp [intOf]; omega
        · go_wp2_with fail
          go_end0
          have hkl : k = (kids par n i).length := by rw [HL.out]; omega
          refine ⟨rfl, hO, startNext_end hp ?_⟩
          rw [← hkl]
          exact hFk
end Go.Proofs.Ybulkcnq
