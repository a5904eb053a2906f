import Derived.Test.YbulkclmFmtFile
namespace Go.Proofs.YbulkclmFmt
open Go.ChangeShapes Go.WideShapes Go.ChangeAt Go.RowKit
set_option linter.unusedVariables false

def sumTo (Ks : Nat → ByteArray) : Nat → Nat
  | 0 => 0
  | k + 1 => sumTo Ks k + (Ks k).size

def Small (Ks : Nat → ByteArray) (k : Nat) : Prop := ∀ i, i < k → (Ks i).size ≤ 1048576
theorem Small.sum {Ks : Nat → ByteArray} {k : Nat} (h : Small Ks k) : sumTo Ks k ≤ k * 1048576 := by
  induction k with
  | zero => exact Nat.zero_le _
  | succ k ih =>
    have := ih (fun i hi => h i (by omega))
    have h2 := h k (by omega)
    show sumTo Ks k + (Ks k).size ≤ _
    rw [Nat.add_mul]
    omega
theorem Small.succ {Ks : Nat → ByteArray} {k : Nat} (h : Small Ks k) (hk : (Ks k).size ≤ 1048576) : Small Ks (k + 1) := fun i hi => by
  by_cases e : i = k
  · subst e; exact hk
  · exact h i (by omega)

set_option maxRecDepth 100000 in
set_option maxHeartbeats 2000000 in
theorem bounded_in (a0 a1 a2 a3 : Option Addr) (l0 c0 l1 c1 l2 c2 l3 c3 : Nat) (Ks Vs Qs : Nat → ByteArray) (w : World) (hK : StrRow w a0 l0 Ks) (hV : StrRow w a1 l1 Vs) (hQ : StrRow w a2 l2 Qs) (b0 : l0 ≤ 512) (b1 : l1 ≤ 512) (b2 : l2 ≤ 512) (b3 : l3 ≤ 4096) :
    Calls Ybaf.prog 5 #[.slice a0 l0 c0, .slice a1 l1 c1, .slice a2 l2 c2, .slice a3 l3 c3] w fun e w' => ∃ r, e = .returned (.bool r) ∧ w' = w ∧ (r = true → sumTo Ks l0 + sumTo Vs l1 ≤ 1048576 ∧ Small Ks l0 ∧ Small Vs l1 ∧ Small Qs l2) := by
  have e0 : decide ((512 : Int) < (l0 : Int)) = false := by simp; omega
  have e1 : decide ((512 : Int) < (l1 : Int)) = false := by simp; omega
  have e2 : decide ((512 : Int) < (l2 : Int)) = false := by simp; omega
  have e3 : decide ((4096 : Int) < (l3 : Int)) = false := by simp; omega
  go_enter Ybaf.func5, Ybaf.ntmps5
  go_wp2_with fail
  go_loopw [36, 9] (fun t tot wr => ∃ k : Nat, k ≤ l0 ∧ t = .int .i64 k ∧ tot = .int .i64 (sumTo Ks k) ∧ wr = w ∧ Small Ks k) (fun t _ _ => l0 - (intOf t).toNat)
  case atStart => exact ⟨0, Nat.zero_le _, rfl, rfl, rfl, fun i hi => by omega⟩
  case round =>
    obtain ⟨k, hk, rfl, rfl, rfl, hS⟩ := hrel
    have hsum := hS.sum
    by_cases hlt : k < l0
    · rcases hK with hx | ⟨b, off, rfl, hb, hc⟩
      · omega
      have hck := hc k hlt
      clear hc
      by_cases hbig : 1048576 < (Ks k).size
      · have hbI : (1048576 : Int) < ((Ks k).size : Int) := by omega
        clear hS
        go_wp2_with fail
        go_ret
        exact ⟨false, rfl, rfl, fun h => by cases h⟩
      · have hbI : decide ((1048576 : Int) < ((Ks k).size : Int)) = false := by simp; omega
        have HS := hide hS
        have HE : Hid (sumTo Ks (k + 1) = sumTo Ks k + (Ks k).size) := rfl
        clear hS
        generalize sumTo Ks k = tk at *
        go_wp2_with fail
        go_roundw
        case rel => exact ⟨k + 1, by omega, by go_num, by rw [HE.out]; go_num, trivial, HS.out.succ (by omega)⟩
        case measure => simp [intOf]; omega
    · have hkn : k = l0 := by omega
      subst hkn
      have HS := hide hS
      clear hS hlt
      go_wp2_with fail
      go_loopw [50, 9] (fun t tot w2 => ∃ j : Nat, j ≤ l1 ∧ t = .int .i64 j ∧ tot = .int .i64 ((sumTo Ks k + sumTo Vs j : Nat) : Int) ∧ w2 = wr ∧ Small Vs j) (fun t _ _ => l1 - (intOf t).toNat)
      case atStart => exact ⟨0, Nat.zero_le _, rfl, rfl, rfl, fun i hi => by omega⟩
      case round =>
        obtain ⟨j, hj, rfl, rfl, rfl, hS⟩ := hrel
        have hsum2 := hS.sum
        by_cases hlt : j < l1
        · rcases hV with hx | ⟨b, off, rfl, hb, hc⟩
          · omega
          have hck := hc j hlt
          clear hc
          by_cases hbig : 1048576 < (Vs j).size
          · have hbI : (1048576 : Int) < ((Vs j).size : Int) := by omega
            clear hS
            go_wp2_with fail
            go_ret
            exact ⟨false, rfl, rfl, fun h => by cases h⟩
          · have hbI : decide ((1048576 : Int) < ((Vs j).size : Int)) = false := by simp; omega
            have HS2 := hide hS
            have HE : Hid (sumTo Vs (j + 1) = sumTo Vs j + (Vs j).size) := rfl
            clear hS
            generalize sumTo Vs j = tj at *
            generalize sumTo Ks k = tk at *
            go_wp2_with fail
            go_roundw
            case rel => exact ⟨j + 1, by omega, by go_num, by rw [HE.out]; go_num, trivial, HS2.out.succ (by omega)⟩
            case measure => simp [intOf]; omega
        · have hjn : j = l1 := by omega
          subst hjn
          have HS2 := hide hS
          clear hS hlt
          go_wp2_with fail
          go_loopw [64] (fun t w2 => ∃ i : Nat, i ≤ l2 ∧ t = .int .i64 i ∧ w2 = wr ∧ Small Qs i) (fun t _ => l2 - (intOf t).toNat)
          case atStart => exact ⟨0, Nat.zero_le _, rfl, rfl, fun i hi => by omega⟩
          case round =>
            obtain ⟨i, hi, rfl, rfl, hS⟩ := hrel
            by_cases hlt : i < l2
            · rcases hQ with hx | ⟨b, off, rfl, hb, hc⟩
              · omega
              have hck := hc i hlt
              clear hc
              by_cases hbig : 1048576 < (Qs i).size
              · have hbI : (1048576 : Int) < ((Qs i).size : Int) := by omega
                clear hS
                go_wp2_with fail
                go_ret
                exact ⟨false, rfl, rfl, fun h => by cases h⟩
              · have hbI : decide ((1048576 : Int) < ((Qs i).size : Int)) = false := by simp; omega
                have HS3 := hide hS
                clear hS
                go_wp2_with fail
                go_roundw
                case rel => exact ⟨i + 1, by omega, by go_num, trivial, HS3.out.succ (by omega)⟩
                case measure => simp [intOf]; omega
            · have hin : i = l2 := by omega
              subst hin
              have HS3 := hide hS
              clear hS hlt
              go_wp2_with fail
              go_ret
              refine ⟨_, rfl, rfl, fun h => ⟨?_, HS.out, HS2.out, HS3.out⟩⟩
              simp at h
              omega

set_option maxRecDepth 100000 in
theorem bounded_out (a0 a1 a2 a3 : Option Addr) (l0 c0 l1 c1 l2 c2 l3 c3 : Nat) (w : World) (h : 512 < l0 ∨ 512 < l1 ∨ 512 < l2 ∨ 4096 < l3) :
    Calls Ybaf.prog 5 #[.slice a0 l0 c0, .slice a1 l1 c1, .slice a2 l2 c2, .slice a3 l3 c3] w fun e w' => e = .returned (.bool false) ∧ w' = w := by
  by_cases h0 : 512 < l0
  · have e0 : (512 : Int) < (l0 : Int) := by omega
    go_enter Ybaf.func5, Ybaf.ntmps5
    go_wp2_with fail
    go_ret
    exact ⟨rfl, rfl⟩
  · have e0 : decide ((512 : Int) < (l0 : Int)) = false := by simp; omega
    by_cases h1 : 512 < l1
    · have e1 : (512 : Int) < (l1 : Int) := by omega
      go_enter Ybaf.func5, Ybaf.ntmps5
      go_wp2_with fail
      go_ret
      exact ⟨rfl, rfl⟩
    · have e1 : decide ((512 : Int) < (l1 : Int)) = false := by simp; omega
      by_cases h2 : 512 < l2
      · have e2 : (512 : Int) < (l2 : Int) := by omega
        go_enter Ybaf.func5, Ybaf.ntmps5
        go_wp2_with fail
        go_ret
        exact ⟨rfl, rfl⟩
      · have e2 : decide ((512 : Int) < (l2 : Int)) = false := by simp; omega
        have e3 : (4096 : Int) < (l3 : Int) := by omega
        go_enter Ybaf.func5, Ybaf.ntmps5
        go_wp2_with fail
        go_ret
        exact ⟨rfl, rfl⟩
end Go.Proofs.YbulkclmFmt
