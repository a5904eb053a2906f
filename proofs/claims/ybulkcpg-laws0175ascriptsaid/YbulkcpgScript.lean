import Derived.Test.YbulkcpgRows
import Derived.Test.YbulkcpgWalks
import Derived.Test.YbulkcpgOpen
import Derived.WalkKit
import Derived.ProofKit
import Derived.OpenShut
import Derived.ChangeOld
import Derived.Below
import Derived.Lib.SmallJoins
namespace Go.Proofs.Ybulkcpg
open Go.ChangeShapes Go.WideShapes Go.ChangeAt Go.RowKit
set_option linter.unusedVariables false

theorem hide {p : Prop} (h : p) : Hid p := h

/-- The variable q's block. -/
def QIs (w : World) (B : Nat) (x0 x1 x3 : Bool) (n0 n1 n3 : Int) (ha : Bool) (ak : Int) : Prop :=
  w.heap[B]? = some (.cells #[.bool x0, .int .u32 n0, .bool x1, .int .u32 n1, .bool ha, .int .u32 ak, .bool x3, .int .u32 n3] 26)

theorem QIs.lt {w : World} {B : Nat} {x0 x1 x3 : Bool} {n0 n1 n3 : Int} {ha : Bool} {ak : Int} (h : QIs w B x0 x1 x3 n0 n1 n3 ha ak) : B < w.heap.size := by
  rcases Nat.lt_or_ge B w.heap.size with h' | h'
  · exact h'
  · unfold QIs at h; rw [Array.getElem?_eq_none h'] at h; cases h

theorem QIs.alloc {w : World} {B : Nat} {x0 x1 x3 : Bool} {n0 n1 n3 : Int} {ha : Bool} {ak : Int} (h : QIs w B x0 x1 x3 n0 n1 n3 ha ak) (o : Obj) : QIs (w.alloc o) B x0 x1 x3 n0 n1 n3 ha ak := by
  have := h.lt
  unfold QIs at *
  rw [Below.heap_alloc _ _ _ this]; exact h

theorem QIs.drewN {w : World} {B : Nat} {x0 x1 x3 : Bool} {n0 n1 n3 : Int} {ha : Bool} {ak : Int} (h : QIs w B x0 x1 x3 n0 n1 n3 ha ak) (n : Nat) : QIs (w.drewN n) B x0 x1 x3 n0 n1 n3 ha ak := h

theorem QIs.set {w : World} {B : Nat} {x0 x1 x3 : Bool} {n0 n1 n3 : Int} {ha : Bool} {ak : Int} (h : QIs w B x0 x1 x3 n0 n1 n3 ha ak) (a : Int) : QIs ((w.setCell ⟨B, 4, none⟩ (.bool true)).setCell ⟨B, 5, none⟩ (.int .u32 a)) B x0 x1 x3 n0 n1 n3 true a := by
  have h1 := Joins.block_setCell (i := 4) h (.bool true)
  have h2 := Joins.block_setCell (i := 5) h1 (.int .u32 a)
  exact h2

theorem unw_self (a : Int) (h0 : 0 ≤ a) (h1 : a < 4294967296) : decide (a < unw a a) = false := by
  unfold unw wrap64 wrap32
  simp
  omega

set_option maxHeartbeats 1000000 in
theorem script_cons (x0 x1 x2 x3 : Bool) (n0 n1 n2 n3 : Int) (b off len cap : Nat) (zs : List Int) (w : World) (g0 : 0 ≤ n2) (g1 : n2 < 4294967296)
    (hlen : len ≤ 1024) (hb : b < w.heap.size)
    (hc : ∀ k, k < len → w.cell? ⟨b, off + k, none⟩ = some (.int .u32 (zs.getD k 0)) ∧ 0 ≤ zs.getD k 0 ∧ zs.getD k 0 < 4294967296) :
    Calls Yba.prog 4 #[.agg #[.bool x0, .int .u32 n0, .bool x1, .int .u32 n1, .bool x2, .int .u32 n2, .bool x3, .int .u32 n3], .slice (some ⟨b, off, none⟩) len cap] w fun e w' => e = .returned (.bool true) ∧ Below w.heap.size w w' := by
  go_enter Yba.func4, Yba.ntmps4
  go_wp2_with (go_at_call 5; refine (build_any _ _ _ _ _ _ _ _ _).mono ?_; rintro e w' ⟨rfl, rfl⟩)
  go_loopw [17] (fun i wr => ∃ (k : Nat) (ha : Bool) (ak : Int), k ≤ len ∧ i = .int .i64 k ∧ 0 ≤ ak ∧ ak < 4294967296 ∧ Below w.heap.size w wr ∧ QIs wr (w.heap.size + 1 + 1 + 1) x0 x1 x3 n0 n1 n3 ha ak)
    (fun i _ => len - (intOf i).toNat)
  case atStart =>
    refine ⟨0, x2, n2, Nat.zero_le _, rfl, g0, g1, by repeat (first | exact Below.refl _ _ | refine below_drewN _ ?_ | refine Below.alloc ?_ (by first | omega | (simp <;> omega)) _), ?_⟩
    unfold QIs
    show (((((w.heap.push _).push _).push _).push _))[_]? = _
    rw [Array.getElem?_push, if_pos (by simp)]
  case round =>
    obtain ⟨k, ha, ak, hk, rfl, k0, k1, hbel, hq⟩ := hrel
    have hsz := hq.lt
    have hsz1 : w.heap.size + 1 + 1 < wr.heap.size := by omega
    have c0 : wr.cell? ⟨w.heap.size + 1 + 1 + 1, 0, none⟩ = some (.bool x0) := by unfold QIs at hq; simp [World.cell?, hq]
    have c1 : wr.cell? ⟨w.heap.size + 1 + 1 + 1, 1, none⟩ = some (.int .u32 n0) := by unfold QIs at hq; simp [World.cell?, hq]
    have c2 : wr.cell? ⟨w.heap.size + 1 + 1 + 1, 2, none⟩ = some (.bool x1) := by unfold QIs at hq; simp [World.cell?, hq]
    have c3 : wr.cell? ⟨w.heap.size + 1 + 1 + 1, 3, none⟩ = some (.int .u32 n1) := by unfold QIs at hq; simp [World.cell?, hq]
    have c4 : wr.cell? ⟨w.heap.size + 1 + 1 + 1, 4, none⟩ = some (.bool ha) := by unfold QIs at hq; simp [World.cell?, hq]
    have c5 : wr.cell? ⟨w.heap.size + 1 + 1 + 1, 5, none⟩ = some (.int .u32 ak) := by unfold QIs at hq; simp [World.cell?, hq]
    have c6 : wr.cell? ⟨w.heap.size + 1 + 1 + 1, 6, none⟩ = some (.bool x3) := by unfold QIs at hq; simp [World.cell?, hq]
    have c7 : wr.cell? ⟨w.heap.size + 1 + 1 + 1, 7, none⟩ = some (.int .u32 n3) := by unfold QIs at hq; simp [World.cell?, hq]
    have f4 : wr.frozen? ⟨w.heap.size + 1 + 1 + 1, 4, none⟩ = false := by unfold QIs at hq; simp [World.frozen?, hq]
    have f5 : wr.frozen? ⟨w.heap.size + 1 + 1 + 1, 5, none⟩ = false := by unfold QIs at hq; simp [World.frozen?, hq]
    by_cases hlt : k < len
    · obtain ⟨hcz, z0, z1⟩ := hc k hlt
      have hcw : wr.cell? ⟨b, off + k, none⟩ = some (.int .u32 (zs.getD k 0)) := (hbel.cell hb).trans hcz
      generalize zs.getD k 0 = a at *
      have HB := hide hbel
      have hwsz : w.heap.size ≤ wr.heap.size := hbel.size
      clear hbel hcz hc
      cases ha with
      | false =>
        by_cases haa : a = ak
        · subst haa
          go_wp2_with fail
          refine (acked_first _ a a _ z0 z1 k0 k1 (by go_simp) (by go_simp) (by go_simp) (by go_simp)).mono ?_
          rintro e w' ⟨rfl, nq, rfl⟩
          go_wp2_with fail
          refine (acked_stays _ a a _ z0 z1 z0 z1 (unw_self a z0 z1) (by go_simp) (by go_simp)).mono ?_
          rintro e w' ⟨rfl, nq2, rfl⟩
          go_wp2_with fail
          go_roundw
          case rel => exact ⟨k + 1, true, a, by omega, by go_num, z0, z1, by repeat (first | exact HB.out | refine below_drewN _ ?_ | refine Below.alloc ?_ (by first | omega | (simp <;> omega)) _ | refine Below.setCell ?_ (by first | omega | (simp <;> omega)) _), ((((hq.set a).alloc _).drewN _).alloc _).drewN _⟩
          case measure => simp [intOf]; omega
        · go_wp2_with fail
          refine (acked_first _ a ak _ z0 z1 k0 k1 (by go_simp) (by go_simp) (by go_simp) (by go_simp)).mono ?_
          rintro e w' ⟨rfl, nq, rfl⟩
          go_wp2_with fail
          refine (acked_stays _ a a _ z0 z1 z0 z1 (unw_self a z0 z1) (by go_simp) (by go_simp)).mono ?_
          rintro e w' ⟨rfl, nq2, rfl⟩
          go_wp2_with fail
          go_roundw
          case rel => exact ⟨k + 1, true, a, by omega, by go_num, z0, z1, by repeat (first | exact HB.out | refine below_drewN _ ?_ | refine Below.alloc ?_ (by first | omega | (simp <;> omega)) _ | refine Below.setCell ?_ (by first | omega | (simp <;> omega)) _), ((((hq.set a).alloc _).drewN _).alloc _).drewN _⟩
          case measure => simp [intOf]; omega
      | true => 
        by_cases hm : ak < unw a ak
        · have hd := (unw_gt a ak z0 z1 k0 k1).1 hm
          have hne : ¬ a = ak := by intro h; subst h; simp at hd
          have hw0 : ¬ wrap32 ((a - ak) % 4294967296) < 0 := by unfold wrap32; omega
          have HD := hide hd
          clear hd
          go_wp2_with fail
          refine (acked_moves _ a ak _ z0 z1 k0 k1 hm (by go_simp) (by go_simp) (by go_simp) (by go_simp)).mono ?_
          rintro e w' ⟨rfl, nq, rfl⟩
          go_wp2_with fail
          refine (acked_stays _ a a _ z0 z1 z0 z1 (unw_self a z0 z1) (by go_simp) (by go_simp)).mono ?_
          rintro e w' ⟨rfl, nq2, rfl⟩
          go_wp2_with fail
          go_roundw
          case rel => exact ⟨k + 1, true, a, by omega, by go_num, z0, z1, by repeat (first | exact HB.out | refine below_drewN _ ?_ | refine Below.alloc ?_ (by first | omega | (simp <;> omega)) _ | refine Below.setCell ?_ (by first | omega | (simp <;> omega)) _), ((((hq.set a).alloc _).drewN _).alloc _).drewN _⟩
          case measure => simp [intOf]; omega
        · have hm' : decide (ak < unw a ak) = false := by simpa using hm
          go_wp2_with fail
          refine (acked_stays _ a ak _ z0 z1 k0 k1 hm' (by go_simp) (by go_simp)).mono ?_
          rintro e w' ⟨rfl, nq, rfl⟩
          go_wp2_with fail
          refine (acked_stays _ a ak _ z0 z1 k0 k1 hm' (by go_simp) (by go_simp)).mono ?_
          rintro e w' ⟨rfl, nq2, rfl⟩
          go_wp2_with fail
          go_roundw
          case rel => exact ⟨k + 1, true, ak, by omega, by go_num, k0, k1, by repeat (first | exact HB.out | refine below_drewN _ ?_ | refine Below.alloc ?_ (by first | omega | (simp <;> omega)) _ | refine Below.setCell ?_ (by first | omega | (simp <;> omega)) _), (((hq.alloc _).drewN _).alloc _).drewN _⟩
          case measure => simp [intOf]; omega
    · go_wp2
      go_ret
      exact ⟨rfl, hbel⟩

set_option maxHeartbeats 1000000 in
theorem script_nil (x0 x1 x2 x3 : Bool) (n0 n1 n2 n3 : Int) (a : Option Addr) (cap : Nat) (w : World) :
    Calls Yba.prog 4 #[.agg #[.bool x0, .int .u32 n0, .bool x1, .int .u32 n1, .bool x2, .int .u32 n2, .bool x3, .int .u32 n3], .slice a 0 cap] w fun e w' => e = .returned (.bool true) ∧ Below w.heap.size w w' := by
  go_enter Yba.func4, Yba.ntmps4
  go_wp2_with (go_at_call 5; refine (build_any _ _ _ _ _ _ _ _ _).mono ?_; rintro e w' ⟨rfl, rfl⟩)
  go_loopw [17] (fun i wr => i = .int .i64 0 ∧ Below w.heap.size w wr) (fun i _ => 0)
  case atStart => exact ⟨rfl, by repeat (first | exact Below.refl _ _ | refine below_drewN _ ?_ | refine Below.alloc ?_ (by first | omega | (simp <;> omega)) _)⟩
  case round =>
    obtain ⟨rfl, hbel⟩ := hrel
    go_wp2
    go_ret
    exact ⟨rfl, hbel⟩

set_option maxHeartbeats 1000000 in
theorem script_long (x0 x1 x2 x3 : Bool) (n0 n1 n2 n3 : Int) (a : Option Addr) (len cap : Nat) (w : World) (h : 1024 < len) :
    Calls Yba.prog 4 #[.agg #[.bool x0, .int .u32 n0, .bool x1, .int .u32 n1, .bool x2, .int .u32 n2, .bool x3, .int .u32 n3], .slice a len cap] w fun e w' => e = .returned (.bool true) ∧ Below w.heap.size w w' := by
  go_enter Yba.func4, Yba.ntmps4
  go_wp2_with fail
  go_ret
  exact ⟨rfl, by repeat (first | exact Below.refl _ _ | refine below_drewN _ ?_ | refine Below.alloc ?_ (by first | omega | (simp <;> omega)) _)⟩
end Go.Proofs.Ybulkcpg
