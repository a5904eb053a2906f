import Derived.Test.YbulkcpgRows
import Derived.WalkKit
import Derived.ProofKit
import Derived.WalkSpells
import Derived.WalkLawsBesides
import Derived.Deep.QuietTactic
import Derived.BigQuiet
namespace Go.Proofs.Ybulkcpg
open Go.ChangeShapes Go.WideShapes Go.ChangeAt Go.RowKit
set_option linter.unusedVariables false

/-- What 'tcpseq.Unwrap' answers. -/
def unw (n near : Int) : Int := wrap64 (near + wrap64 (wrap32 ((n - near) % 4294967296)))

/-- The plain law: the position of a lies past ak just where a lies 1 to 2^31-1 past it, mod 2^32. -/
theorem unw_gt (a ak : Int) (h0 : 0 ≤ a) (h1 : a < 4294967296) (g0 : 0 ≤ ak) (g1 : ak < 4294967296) :
    ak < unw a ak ↔ ((a - ak) % 4294967296 ≠ 0 ∧ (a - ak) % 4294967296 < 2147483648) := by
  unfold unw wrap64 wrap32
  omega

theorem unwrap_any (n near : Int) (w : World) (h0 : 0 ≤ n) (h1 : n < 4294967296) (g0 : 0 ≤ near) (g1 : near < 4294967296) :
    Calls Yba.prog 7 #[.int .u32 n, .int .i64 near] w fun e w' => e = .returned (.int .i64 (unw n near)) ∧ w' = w := by
  go_enter Yba.func7, Yba.ntmps7
  go_wp2
  go_ret
  exact ⟨rfl, rfl⟩

theorem acked_first (b : Nat) (a ak : Int) (w : World) (h0 : 0 ≤ a) (h1 : a < 4294967296) (g0 : 0 ≤ ak) (g1 : ak < 4294967296)
    (c4 : w.cell? ⟨b, 4, none⟩ = some (.bool false)) (c5 : w.cell? ⟨b, 5, none⟩ = some (.int .u32 ak))
    (f4 : w.frozen? ⟨b, 4, none⟩ = false) (f5 : w.frozen? ⟨b, 5, none⟩ = false) :
    Calls Yba.prog 6 #[.pointer (some ⟨b, 0, none⟩), .int .u32 a] w fun e w' => e = .returned (.tuple #[]) ∧ ∃ n, w' = ((w.setCell ⟨b, 4, none⟩ (.bool true)).setCell ⟨b, 5, none⟩ (.int .u32 a)).drewN n := by
  go_enter Yba.func6, Yba.ntmps6
  go_wp2
  go_quiet ((go_at_call 7; exact Calls.quiet_of_same (unwrap_any _ _ _ (by omega) (by omega) (by omega) (by omega))))
  go_wp2
  go_end0
  exact ⟨rfl, nq, rfl⟩

theorem acked_moves (b : Nat) (a ak : Int) (w : World) (h0 : 0 ≤ a) (h1 : a < 4294967296) (g0 : 0 ≤ ak) (g1 : ak < 4294967296) (hm : ak < unw a ak)
    (c4 : w.cell? ⟨b, 4, none⟩ = some (.bool true)) (c5 : w.cell? ⟨b, 5, none⟩ = some (.int .u32 ak))
    (f4 : w.frozen? ⟨b, 4, none⟩ = false) (f5 : w.frozen? ⟨b, 5, none⟩ = false) :
    Calls Yba.prog 6 #[.pointer (some ⟨b, 0, none⟩), .int .u32 a] w fun e w' => e = .returned (.tuple #[]) ∧ ∃ n, w' = ((w.setCell ⟨b, 4, none⟩ (.bool true)).setCell ⟨b, 5, none⟩ (.int .u32 a)).drewN n := by
  go_enter Yba.func6, Yba.ntmps6
  go_wp2
  go_quiet ((go_at_call 7; exact Calls.quiet_of_same (unwrap_any _ _ _ (by omega) (by omega) (by omega) (by omega))))
  go_wp2
  go_end0
  exact ⟨rfl, nq, rfl⟩

theorem acked_stays (b : Nat) (a ak : Int) (w : World) (h0 : 0 ≤ a) (h1 : a < 4294967296) (g0 : 0 ≤ ak) (g1 : ak < 4294967296) (hm : decide (ak < unw a ak) = false)
    (c4 : w.cell? ⟨b, 4, none⟩ = some (.bool true)) (c5 : w.cell? ⟨b, 5, none⟩ = some (.int .u32 ak)) :
    Calls Yba.prog 6 #[.pointer (some ⟨b, 0, none⟩), .int .u32 a] w fun e w' => e = .returned (.tuple #[]) ∧ ∃ n, w' = w.drewN n := by
  go_enter Yba.func6, Yba.ntmps6
  go_wp2
  go_quiet ((go_at_call 7; exact Calls.quiet_of_same (unwrap_any _ _ _ (by omega) (by omega) (by omega) (by omega))))
  go_wp2
  go_end0
  exact ⟨rfl, nq, rfl⟩

theorem build_any (b0 b1 b2 b3 : Bool) (n0 n1 n2 n3 : Int) (w : World) :
    Calls Yba.prog 5 #[.agg #[.bool b0, .int .u32 n0, .bool b1, .int .u32 n1, .bool b2, .int .u32 n2, .bool b3, .int .u32 n3]] w fun e w' =>
      e = .returned (.agg #[.bool b0, .int .u32 n0, .bool b1, .int .u32 n1, .bool b2, .int .u32 n2, .bool b3, .int .u32 n3]) ∧
      w' = (w.alloc (.cells #[.bool b0, .int .u32 n0, .bool b1, .int .u32 n1, .bool b2, .int .u32 n2, .bool b3, .int .u32 n3] 24)).alloc (.cells #[.bool b0, .int .u32 n0, .bool b1, .int .u32 n1, .bool b2, .int .u32 n2, .bool b3, .int .u32 n3] 26) := by
  go_enter Yba.func5, Yba.ntmps5
  go_wp2
  exact bodyPost_ret (v := .agg #[.bool b0, .int .u32 n0, .bool b1, .int .u32 n1, .bool b2, .int .u32 n2, .bool b3, .int .u32 n3]) (by simp [results, Yba.results5, go_sem]) rfl ⟨rfl, rfl⟩

theorem below_drewN {B : Nat} {a w : World} (n : Nat) (h : Below B a w) : Below B a (w.drewN n) := ⟨h.os, h.tape, h.output, h.size, h.block⟩

set_option maxHeartbeats 400000 in
theorem exact_first (b0 b1 b3 : Bool) (n0 n1 ak n3 a : Int) (w : World)  (h0 : 0 ≤ a) (h1 : a < 4294967296) (g0 : 0 ≤ ak) (g1 : ak < 4294967296) :
    Calls Yba.prog 3 #[.agg #[.bool b0, .int .u32 n0, .bool b1, .int .u32 n1, .bool false, .int .u32 ak, .bool b3, .int .u32 n3], .int .u32 a] w fun e w' => e = .returned (.bool true) ∧ Below w.heap.size w w' := by
  go_enter Yba.func3, Yba.ntmps3
  go_wp2_with (go_at_call 5; refine (build_any _ _ _ _ _ _ _ _ _).mono ?_; rintro e w' ⟨rfl, rfl⟩)
  refine (acked_first _ a ak _ h0 h1 g0 g1 (by go_simp) (by go_simp) (by go_simp) (by go_simp)).mono ?_
  rintro e w' ⟨rfl, nq, rfl⟩
  go_wp2_with (go_at_call 5; refine (build_any _ _ _ _ _ _ _ _ _).mono ?_; rintro e w' ⟨rfl, rfl⟩)
  go_ret
  exact ⟨rfl, by repeat (first | exact Below.refl _ _ | refine below_drewN _ ?_ | refine Below.alloc ?_ (by simp <;> omega) _)⟩

set_option maxHeartbeats 400000 in
theorem exact_moves (b0 b1 b3 : Bool) (n0 n1 ak n3 a : Int) (w : World)  (h0 : 0 ≤ a) (h1 : a < 4294967296) (g0 : 0 ≤ ak) (g1 : ak < 4294967296) (hm : ak < unw a ak) :
    Calls Yba.prog 3 #[.agg #[.bool b0, .int .u32 n0, .bool b1, .int .u32 n1, .bool true, .int .u32 ak, .bool b3, .int .u32 n3], .int .u32 a] w fun e w' => e = .returned (.bool true) ∧ Below w.heap.size w w' := by
  obtain ⟨hd0, hd1⟩ := (unw_gt a ak h0 h1 g0 g1).1 hm
  have hd2 : ((a - ak) % 4294967296 != 0) = true := by rw [bne_iff_ne]; exact hd0
  clear hd0
  go_enter Yba.func3, Yba.ntmps3
  go_wp2_with (go_at_call 5; refine (build_any _ _ _ _ _ _ _ _ _).mono ?_; rintro e w' ⟨rfl, rfl⟩)
  refine (acked_moves _ a ak _ h0 h1 g0 g1 hm (by go_simp) (by go_simp) (by go_simp) (by go_simp)).mono ?_
  rintro e w' ⟨rfl, nq, rfl⟩
  go_wp2_with (go_at_call 5; refine (build_any _ _ _ _ _ _ _ _ _).mono ?_; rintro e w' ⟨rfl, rfl⟩)
  go_ret
  exact ⟨rfl, by repeat (first | exact Below.refl _ _ | refine below_drewN _ ?_ | refine Below.alloc ?_ (by simp <;> omega) _)⟩

set_option maxHeartbeats 400000 in
theorem exact_stays0 (b0 b1 b3 : Bool) (n0 n1 ak n3 a : Int) (w : World)  (h0 : 0 ≤ a) (h1 : a < 4294967296) (g0 : 0 ≤ ak) (g1 : ak < 4294967296) (hm : decide (ak < unw a ak) = false) (hd : (a - ak) % 4294967296 = 0) :
    Calls Yba.prog 3 #[.agg #[.bool b0, .int .u32 n0, .bool b1, .int .u32 n1, .bool true, .int .u32 ak, .bool b3, .int .u32 n3], .int .u32 a] w fun e w' => e = .returned (.bool true) ∧ Below w.heap.size w w' := by
  go_enter Yba.func3, Yba.ntmps3
  go_wp2_with (go_at_call 5; refine (build_any _ _ _ _ _ _ _ _ _).mono ?_; rintro e w' ⟨rfl, rfl⟩)
  refine (acked_stays _ a ak _ h0 h1 g0 g1 hm (by go_simp) (by go_simp)).mono ?_
  rintro e w' ⟨rfl, nq, rfl⟩
  go_wp2_with (go_at_call 5; refine (build_any _ _ _ _ _ _ _ _ _).mono ?_; rintro e w' ⟨rfl, rfl⟩)
  go_ret
  exact ⟨rfl, by repeat (first | exact Below.refl _ _ | refine below_drewN _ ?_ | refine Below.alloc ?_ (by simp <;> omega) _)⟩

set_option maxHeartbeats 400000 in
theorem exact_stays1 (b0 b1 b3 : Bool) (n0 n1 ak n3 a : Int) (w : World)  (h0 : 0 ≤ a) (h1 : a < 4294967296) (g0 : 0 ≤ ak) (g1 : ak < 4294967296) (hm : decide (ak < unw a ak) = false) (hd : ((a - ak) % 4294967296 != 0) = true) (hd2 : ¬ (a - ak) % 4294967296 < 2147483648) :
    Calls Yba.prog 3 #[.agg #[.bool b0, .int .u32 n0, .bool b1, .int .u32 n1, .bool true, .int .u32 ak, .bool b3, .int .u32 n3], .int .u32 a] w fun e w' => e = .returned (.bool true) ∧ Below w.heap.size w w' := by
  go_enter Yba.func3, Yba.ntmps3
  go_wp2_with (go_at_call 5; refine (build_any _ _ _ _ _ _ _ _ _).mono ?_; rintro e w' ⟨rfl, rfl⟩)
  refine (acked_stays _ a ak _ h0 h1 g0 g1 hm (by go_simp) (by go_simp)).mono ?_
  rintro e w' ⟨rfl, nq, rfl⟩
  go_wp2_with (go_at_call 5; refine (build_any _ _ _ _ _ _ _ _ _).mono ?_; rintro e w' ⟨rfl, rfl⟩)
  go_ret
  exact ⟨rfl, by repeat (first | exact Below.refl _ _ | refine below_drewN _ ?_ | refine Below.alloc ?_ (by simp <;> omega) _)⟩

theorem exact_any (b0 b1 b2 b3 : Bool) (n0 n1 ak n3 a : Int) (w : World)  (h0 : 0 ≤ a) (h1 : a < 4294967296) (g0 : 0 ≤ ak) (g1 : ak < 4294967296) :
    Calls Yba.prog 3 #[.agg #[.bool b0, .int .u32 n0, .bool b1, .int .u32 n1, .bool b2, .int .u32 ak, .bool b3, .int .u32 n3], .int .u32 a] w fun e w' => e = .returned (.bool true) ∧ Below w.heap.size w w' := by
  cases b2 with
  | false => exact exact_first b0 b1 b3 n0 n1 ak n3 a w h0 h1 g0 g1
  | true =>
    by_cases hm : ak < unw a ak
    · exact exact_moves b0 b1 b3 n0 n1 ak n3 a w h0 h1 g0 g1 hm
    · have hm2 := mt (unw_gt a ak h0 h1 g0 g1).2 hm
      by_cases hz : (a - ak) % 4294967296 = 0
      · exact exact_stays0 b0 b1 b3 n0 n1 ak n3 a w h0 h1 g0 g1 (by simpa using hm) hz
      · exact exact_stays1 b0 b1 b3 n0 n1 ak n3 a w h0 h1 g0 g1 (by simpa using hm) (by rw [bne_iff_ne]; exact hz) (fun h => hm2 ⟨hz, h⟩)
end Go.Proofs.Ybulkcpg
