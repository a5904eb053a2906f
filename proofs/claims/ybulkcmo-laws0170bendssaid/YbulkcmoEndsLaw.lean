import Derived.Test.YbulkcmoFirst
namespace Go.Proofs.Ybulkcmo
open Go.ChangeShapes Go.WideShapes Go.ChangeAt Go.RowKit Go.Maps Go.Shelf
set_option linter.unusedVariables false

def wantTo (U : Nat → Int) (n : Nat) (I : Nat → Int) (m q e0 : Int) : Nat → Bool
  | 0 => q == e0
  | k + 1 => if q = endOf U n (I k % m) then true else wantTo U n I m q e0 k

theorem wantTo_iff (U : Nat → Int) (n : Nat) (I : Nat → Int) (m q e0 : Int) : ∀ k, wantTo U n I m q e0 k = true ↔ (q = e0 ∨ ∃ i, i < k ∧ q = endOf U n (I i % m)) := by
  intro k
  induction k with
  | zero =>
    unfold wantTo
    constructor
    · intro h; exact .inl (by simpa using h)
    · rintro (h | ⟨i, hi, _⟩)
      · simpa using h
      · omega
  | succ k ih =>
    unfold wantTo
    by_cases hq : q = endOf U n (I k % m)
    · rw [if_pos hq]
      simp only [true_iff]
      exact .inr ⟨k, by omega, hq⟩
    · rw [if_neg hq, ih]
      constructor
      · rintro (h | ⟨i, hi, h⟩)
        · exact .inl h
        · exact .inr ⟨i, by omega, h⟩
      · rintro (h | ⟨i, hi, h⟩)
        · exact .inl h
        · refine .inr ⟨i, ?_, h⟩
          by_cases he : i = k
          · subst he; exact absurd h hq
          · omega

theorem testsTo_iff (I : Nat → Int) (m x : Int) : ∀ k, (testsTo I m k x).isSome = true ↔ ∃ i, i < k ∧ x = I i % m := by
  intro k
  induction k with
  | zero => simp [testsTo]
  | succ k ih =>
    unfold testsTo
    by_cases hx : x = I k % m
    · rw [if_pos hx]
      simp only [Option.isSome_some, true_iff]
      exact ⟨k, by omega, hx⟩
    · rw [if_neg hx, ih]
      constructor
      · rintro ⟨i, hi, h⟩; exact ⟨i, by omega, h⟩
      · rintro ⟨i, hi, h⟩
        refine ⟨i, ?_, h⟩
        by_cases he : i = k
        · subst he; exact absurd h hx
        · omega

theorem want_eq (U : Nat → Int) (n ni : Nat) (I : Nat → Int) (m q e0 : Int) (hm : 0 < m) (hm2 : m ≤ 18446744073709551616) (f : Int → Option Value)
    (hf : ∀ q, (f q).isSome = true ↔ (q = e0 ∨ ∃ x : Int, 0 ≤ x ∧ x < 18446744073709551616 ∧ (testsTo I m ni x).isSome = true ∧ q = endOf U n x)) : (f q).isSome = wantTo U n I m q e0 ni := by
  rw [Bool.eq_iff_iff, hf, wantTo_iff]
  constructor
  · rintro (h | ⟨x, _, _, hx, h⟩)
    · exact .inl h
    · obtain ⟨i, hi, rfl⟩ := (testsTo_iff I m x ni).1 hx
      exact .inr ⟨i, hi, h⟩
  · rintro (h | ⟨i, hi, h⟩)
    · exact .inl h
    · exact .inr ⟨I i % m, Int.emod_nonneg _ (by omega), by have := Int.emod_lt_of_pos (I i) hm; omega, (testsTo_iff I m _ ni).2 ⟨i, hi, rfl⟩, h⟩

theorem RowU.later {w w' : World} {a : Option Addr} {n : Nat} {U : Nat → Int} (h : RowU w a n U) (hb : Below w.heap.size w w') : RowU w' a n U := by
  rcases h with h | ⟨b, off, rfl, hlt, hc⟩
  · exact .inl h
  · exact .inr ⟨b, off, rfl, Nat.lt_of_lt_of_le hlt hb.size, fun j hj => ⟨(hb.cell (p := ⟨b, off + j, none⟩) hlt).trans (hc j hj).1, (hc j hj).2⟩⟩
theorem RowB.later {w w' : World} {a : Option Addr} {n : Nat} {T : Nat → Bool} (h : RowB w a n T) (hb : Below w.heap.size w w') : RowB w' a n T := by
  rcases h with h | ⟨b, off, rfl, hlt, hc⟩
  · exact .inl h
  · exact .inr ⟨b, off, rfl, Nat.lt_of_lt_of_le hlt hb.size, fun j hj => (hb.cell (p := ⟨b, off + j, none⟩) hlt).trans (hc j hj)⟩

set_option maxRecDepth 100000 in
set_option maxHeartbeats 2000000 in
theorem ends_any (a0 a1 a3 : Option Addr) (n c0 nt c1 ni c3 : Nat) (U : Nat → Int) (T : Nat → Bool) (I : Nat → Int) (c q : Int) (w : World) (hn : n ≤ 1024) (hni : ni ≤ 1024) (hc0 : 0 ≤ c) (hc1 : c < 18446744073709551616) (hnt : nt ≤ 9223372036854775807)
    (hq0 : 0 ≤ q) (hq1 : q < 18446744073709551616) (hU : RowU w a0 n U) (hT : RowB w a1 nt T) (hI : RowU w a3 ni I) :
    Calls Yba.prog 3 #[.slice a0 n c0, .slice a1 nt c1, .int .u64 c, .slice a3 ni c3, .int .u64 q] w fun e w' => e = .returned (.bool true) ∧ Below w.heap.size w w' := by
  have hcm : 0 ≤ c % ((n : Int) + 2) ∧ c % ((n : Int) + 2) < (n : Int) + 2 := ⟨Int.emod_nonneg _ (by omega), Int.emod_lt_of_pos _ (by omega)⟩
  have hqm : 0 ≤ q % ((n : Int) + 2) ∧ q % ((n : Int) + 2) < (n : Int) + 2 := ⟨Int.emod_nonneg _ (by omega), Int.emod_lt_of_pos _ (by omega)⟩
  have HM := hide (And.intro hcm hqm)
  clear hcm hqm
  go_enter Yba.func3, Yba.ntmps3
  go_wp2_with fail
  refine (build_any a0 a1 a3 n c0 nt c1 ni c3 U T I c w hn hni hc0 hc1 hnt hU hT hI).mono ?_
  rintro e w1 ⟨L, Lt, Bf, Bt, rfl, hbel, hL, hBf, hBt, hne, hLA, hMf, hMt⟩
  have hU1 := hU.later hbel
  have hT1 := hT.later hbel
  have hI1 := hI.later hbel
  have HX := hide (And.intro hbel (And.intro hL (And.intro hLA (And.intro hMf hMt))))
  have HR := hide (And.intro hU1 (And.intro hT1 hI1))
  clear hU hT hI hU1 hT1 hI1 hbel hL hBf hBt hne hLA hMf hMt
  go_wp2_with fail
  obtain ⟨hU1, hT1, hI1⟩ := HR.out
  refine (bown_any a0 a1 n c0 nt c1 U T (c % ((n : Int) + 2)) w1 hn hnt (by have := HM.out; omega) (by have := HM.out; omega) hU1 hT1).mono ?_
  rintro e w2 ⟨rfl, rfl⟩
  clear hU1 hT1 hI1
  go_wp2_with fail
  generalize c % ((n : Int) + 2) = cm at *
  generalize q % ((n : Int) + 2) = qm at *
  have hon := nearOf_bounds U n nt T cm.toNat cm (Nat.le_refl _)
  have hob : 0 ≤ ownOf U n nt T cm ∧ ownOf U n nt T cm < 18446744073709551616 := by
    have := HM.out
    unfold ownOf
    split <;> omega
  refine (bend_any a0 n c0 U (ownOf U n nt T cm) w2 hn hob.1 hob.2 HR.out.1).mono ?_
  rintro e w3 ⟨rfl, rfl⟩
  clear hon hob
  obtain ⟨e0, he0⟩ : ∃ e0, e0 = endOf U n (ownOf U n nt T cm) := ⟨_, rfl⟩
  rw [← he0]
  have HE0 := hide he0
  clear he0
  go_wp2_with fail
  go_loopw [53, 15] (fun t b wr => ∃ k : Nat, k ≤ ni ∧ t = .int .i64 k ∧ b = .bool (wantTo U n I ((n : Int) + 2) qm e0 k) ∧ wr = w3) (fun t _ _ => ni - (intOf t).toNat)
  case atStart => exact ⟨0, Nat.zero_le _, rfl, rfl, rfl⟩
  case round =>
    obtain ⟨k, hk, rfl, rfl, rfl⟩ := hrel
    by_cases hlt : k < ni
    · obtain ⟨hU1, hT1, hI1⟩ := HR.out
      rcases hI1 with h0 | ⟨b3, off3, rfl, hb3, hcells⟩
      · omega
      obtain ⟨hcw, u0, u1⟩ := hcells k hlt
      have hx : 0 ≤ I k % ((n : Int) + 2) ∧ I k % ((n : Int) + 2) < (n : Int) + 2 := ⟨Int.emod_nonneg _ (by omega), Int.emod_lt_of_pos _ (by omega)⟩
      have hcall := bend_any a0 n c0 U (I k % ((n : Int) + 2)) wr hn (by omega) (by omega) hU1
      have HW : Hid (wantTo U n I ((n : Int) + 2) qm e0 (k + 1) = if qm = endOf U n (I k % ((n : Int) + 2)) then true else wantTo U n I ((n : Int) + 2) qm e0 k) := rfl
      clear hcells hU1 hT1 hx
      generalize wantTo U n I ((n : Int) + 2) qm e0 k = wk at *
      generalize I k = ik at *
      go_wp2_with fail
      refine hcall.mono ?_
      rintro e w4 ⟨rfl, rfl⟩
      clear hcall
      generalize endOf U n (ik % ((n : Int) + 2)) = ek at *
      by_cases hq : qm = ek
      · subst hq
        go_wp2_with fail
        go_roundw
        case rel => exact ⟨k + 1, by omega, by go_num, by rw [HW.out]; simp, trivial⟩
        case measure => simp [intOf]; omega
      · have hqb : (qm == ek) = false := by simp [hq]
        go_wp2_with fail
        go_roundw
        case rel => exact ⟨k + 1, by omega, by go_num, by rw [HW.out, if_neg hq], trivial⟩
        case measure => simp [intOf]; omega
    · have hkn : k = ni := by omega
      subst hkn
      obtain ⟨hbel, hL, hLA, hMf, hMt⟩ := HX.out
      have hcall := ends_first L Lt Bf Bt n nt k U T _ cm qm wr hn hni (by have := HM.out; omega) (by have := HM.out; omega) (by have := HM.out; omega) (by have := HM.out; omega) hLA hMf hMt
      have HZ := hide (And.intro hbel hL)
      clear hbel hL hLA hMf hMt
      rw [← HE0.out] at hcall
      go_wp2_with fail
      refine hcall.mono ?_
      rintro e w5 ⟨be, j, f, rfl, hh5, hc5, hM5, hv5, hf5⟩
      have hw := want_eq U n k I ((n : Int) + 2) qm e0 (by omega) (by omega) f hf5
      have hcall2 := ends_cached L be j f qm w5 (by have := HM.out; omega) (by have := HM.out; omega) hc5 hM5 hv5
      rw [hw] at hcall2 ⊢
      have HY := hide hh5
      clear hcall hh5 hc5 hM5 hv5 hf5 hw
      generalize wantTo U n I ((n : Int) + 2) qm e0 k = wk at *
      go_wp2_with fail
      refine hcall2.mono ?_
      rintro e w6 ⟨rfl, hb6⟩
      have HV := hide hb6
      clear hcall2 hb6
      have hee := bool_eq_self wk
      go_wp2_with fail
      go_ret
      obtain ⟨hbel, hL⟩ := HZ.out
      have hbel5 := hbel.trans ((HY.out.below hbel.size hL))
      exact ⟨rfl, hbel5.trans (HV.out.mono hbel5.size)⟩

theorem ends_out (a0 a1 a3 : Option Addr) (n c0 nt c1 ni c3 : Nat) (c q : Int) (w : World) (h : 1024 < n ∨ 1024 < ni) :
    Calls Yba.prog 3 #[.slice a0 n c0, .slice a1 nt c1, .int .u64 c, .slice a3 ni c3, .int .u64 q] w fun e w' => e = .returned (.bool true) ∧ Below w.heap.size w w' := by
  by_cases h1 : 1024 < n
  · have h2 : (1024 : Int) < (n : Int) := by omega
    go_enter Yba.func3, Yba.ntmps3
    go_wp2_with fail
    go_ret
    exact ⟨rfl, Below.refl _ _⟩
  · have h2 : decide ((1024 : Int) < (n : Int)) = false := by simp; omega
    have h3 : (1024 : Int) < (ni : Int) := by omega
    go_enter Yba.func3, Yba.ntmps3
    go_wp2_with fail
    go_ret
    exact ⟨rfl, Below.refl _ _⟩
end Go.Proofs.Ybulkcmo
