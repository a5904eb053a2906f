import Derived.Test.YbulkcnqIdem
namespace Go.Proofs.Ybulkcnq
open Go.ChangeShapes Go.WideShapes Go.ChangeAt Go.RowKit
set_option linter.unusedVariables false

set_option maxRecDepth 100000 in
set_option maxHeartbeats 2000000 in
theorem adds_any (b off n cap : Nat) (pp : Nat → Nat) (Q X : Nat → Int) (st : Nat) (w : World) (hn0 : 0 < n) (hn : n ≤ 1024) (hst : st < 65536) (hin : Came w b off n pp Q X) :
    Calls Yba.prog 3 #[.slice (some ⟨b, off, none⟩) n cap, .int .u16 st] w fun e w' => e = .returned (.bool true) ∧ Below w.heap.size w w' := by
  have hnz : ((n : Int) == 0) = false := by simp; omega
  have hng : ¬ (1024 : Int) < (n : Int) := by omega
  obtain ⟨s, hs⟩ : ∃ s, st % n = s := ⟨_, rfl⟩
  have hsn : s < n := by rw [← hs]; exact Nat.mod_lt _ hn0
  have hsz : (st : Int) % (n : Int) = (s : Int) := by omega
  clear hs
  have HI := hide hin
  clear hin
  go_enter Yba.func3, Yba.ntmps3
  go_wp2_with fail
  refine (build_any b off n cap pp Q X w hn0 hn HI.out).mono ?_
  rintro e w1 ⟨nb, C, rfl, hB⟩
  have hT := hB.tree
  clear hB
  have hns := hT.nodes s hsn
  have HT := hide hT
  clear hT
  go_wp2_with fail
  refine (startNext_any (w.heap.size + 2) n nb C _ (modPar pp) hn Q X n s noneS w1 (by omega) hsn HT.out.forest).mono ?_
  rintro e w2 ⟨rfl, hO, hF⟩
  have hT2 := HT.out.only hO hF
  clear hns hO hF HT
  have HT2 := hide hT2
  clear hT2
  go_wp2_with fail
  go_loopw [8] (fun t wr => ∃ (j m : Nat), j ≤ n ∧ t = .int .i64 j ∧ wr = w2.drewN m) (fun t _ => n - (intOf t).toNat)
  case atStart => exact ⟨0, 0, Nat.zero_le _, rfl, rfl⟩
  case round =>
    obtain ⟨j, m, hj, rfl, rfl⟩ := hrel
    by_cases hlt : j < n
    · have c0 := HT2.out.nodes j hlt
      obtain ⟨d1, d2, d8, d11, d12⟩ := (HT2.out.forest.node j hlt).2.cell
      have i1 := (HT2.out.below.cell (p := ⟨b, off + j * 3 + 1, none⟩) HI.out.lt).trans (HI.out.c1 j hlt)
      have i2 := (HT2.out.below.cell (p := ⟨b, off + j * 3 + 2, none⟩) HI.out.lt).trans (HI.out.c2 j hlt)
      have hcall := in_any n (fun j => pp j % j) (modPar pp) (w.heap.size + 1) n j s (w2.drewN m) hlt hn hsn (HT2.out.drewN m).pars
      cases hu : under (fun j => pp j % j) s j with
      | true =>
        rw [hu] at hcall
        have e1 : bq (orS noneS (under (fun j => pp j % j) s)) Q X j = wrap64 (Q j + X j) := by simp [bq, orS, noneS, hu]
        have e2 : bx (orS noneS (under (fun j => pp j % j) s)) X j = 0 := by simp [bx, orS, noneS, hu]
        rw [e1] at d11
        rw [e2] at d12
        have HC := hide hcall
        clear hcall e1 e2 hu
        generalize Q j = qj at *
        generalize X j = xj at *
        generalize nb j = bj at *
        go_wp2_with fail
        refine HC.out.mono ?_
        rintro e w' ⟨rfl, rfl⟩
        go_wp2_with fail
        go_quiet (fail)
        go_wp2_with fail
        go_roundw
        case rel => exact ⟨j + 1, m + nq, by omega, by go_num, rfl⟩
        case measure => simp [intOf]; omega
      | false =>
        rw [hu] at hcall
        have e1 : bq (orS noneS (under (fun j => pp j % j) s)) Q X j = Q j := by simp [bq, orS, noneS, hu]
        have e2 : bx (orS noneS (under (fun j => pp j % j) s)) X j = X j := by simp [bx, orS, noneS, hu]
        rw [e1] at d11
        rw [e2] at d12
        have HC := hide hcall
        clear hcall e1 e2 hu
        generalize Q j = qj at *
        generalize X j = xj at *
        generalize nb j = bj at *
        go_wp2_with fail
        refine HC.out.mono ?_
        rintro e w' ⟨rfl, rfl⟩
        go_wp2_with fail
        go_quiet (fail)
        go_wp2_with fail
        go_roundw
        case rel => exact ⟨j + 1, m + nq, by omega, by go_num, rfl⟩
        case measure => simp [intOf]; omega
    · go_wp2_with fail
      go_ret
      exact ⟨rfl, below_drewN _ HT2.out.below⟩

theorem adds_out (a : Option Addr) (n cap : Nat) (st : Int) (w : World) (hn : n = 0 ∨ 1024 < n) :
    Calls Yba.prog 3 #[.slice a n cap, .int .u16 st] w fun e w' => e = .returned (.bool true) ∧ Below w.heap.size w w' := by
  rcases hn with rfl | hn
  · go_enter Yba.func3, Yba.ntmps3
    go_wp2_with fail
    go_ret
    exact ⟨rfl, Below.refl _ _⟩
  · have hnz : ((n : Int) == 0) = false := by simp; omega
    have hng : (1024 : Int) < (n : Int) := by omega
    go_enter Yba.func3, Yba.ntmps3
    go_wp2_with fail
    go_ret
    exact ⟨rfl, Below.refl _ _⟩

theorem idem_out (a : Option Addr) (n cap : Nat) (w : World) (hn : n = 0 ∨ 1024 < n) :
    Calls Yba.prog 4 #[.slice a n cap] w fun e w' => e = .returned (.bool true) ∧ Below w.heap.size w w' := by
  rcases hn with rfl | hn
  · go_enter Yba.func4, Yba.ntmps4
    go_wp2_with fail
    go_ret
    exact ⟨rfl, Below.refl _ _⟩
  · have hnz : ((n : Int) == 0) = false := by simp; omega
    have hng : (1024 : Int) < (n : Int) := by omega
    go_enter Yba.func4, Yba.ntmps4
    go_wp2_with fail
    go_ret
    exact ⟨rfl, Below.refl _ _⟩
end Go.Proofs.Ybulkcnq
