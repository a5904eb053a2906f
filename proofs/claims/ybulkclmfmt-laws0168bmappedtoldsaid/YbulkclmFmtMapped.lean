import Derived.Test.YbulkclmFmtRead
import Derived.Test.YbulkclmFmtPlain
import Derived.Test.YbulkclmFmtExt
namespace Go.Proofs.YbulkclmFmt
open Go.ChangeShapes Go.WideShapes Go.ChangeAt Go.RowKit
set_option linter.unusedVariables false

set_option maxRecDepth 100000 in
set_option maxHeartbeats 1000000 in
theorem load_any (D : Nat) (w : World) (h : w.cell? ⟨D, 516, none⟩ = some (.int .u32 0)) :
    Calls Ybaf.prog 33 #[.pointer (some ⟨D, 516, none⟩)] w fun e w' => e = .returned (.bool false) ∧ w' = w := by
  have hr := run37 ⟨D, 516, none⟩ 0 w h
  go_enter Ybaf.func33, Ybaf.ntmps33
  go_wp2_with fail
  go_ret
  exact ⟨rfl, rfl⟩

set_option maxRecDepth 100000 in
set_option maxHeartbeats 1000000 in
theorem mapped_any (D R g N cap : Nat) (tp tl : Nat → Int) (a : Option Addr) (l c : Nat) (w : World) (hD : DBAt w D R g N cap tp tl (.slice a l c)) :
    Calls Ybaf.prog 23 #[.pointer (some ⟨D, 0, none⟩)] w fun e w' => e = .returned (.slice a l c) ∧ w' = w := by
  have hcall := load_any D w hD.cc
  have hd := hD.cd
  clear hD
  go_enter Ybaf.func23, Ybaf.ntmps23
  go_wp2_with fail
  refine hcall.mono ?_
  rintro e w1 ⟨rfl, rfl⟩
  clear hcall
  go_wp2_with fail
  go_ret
  exact ⟨rfl, rfl⟩

set_option maxRecDepth 100000 in
set_option maxHeartbeats 1000000 in
theorem pairAt_nil (p : Nat) (w : World) (hp : p ≤ 4294967296) :
    Calls Ybaf.prog 27 #[.slice none 0 0, .int .u64 p] w fun e w' => e = .returned (.tuple #[.int .u32 0, .int .u32 0, .bool false]) ∧ w' = w := by
  have e1 : decide ((p : Int) + 8 ≤ 0) = false := by simp; omega
  go_enter Ybaf.func27, Ybaf.ntmps27
  go_wp2_with fail
  refine bodyPost_ret (v := .tuple #[.int .u32 0, .int .u32 0, .bool false]) ?_ rfl ⟨rfl, rfl⟩
  simp [results, Ybaf.f27, go_sem]

set_option maxRecDepth 100000 in
set_option maxHeartbeats 1000000 in
theorem view_nil (p n : Nat) (w : World) (hp : p ≤ 4294967296) (hp0 : 0 < p) (hn : n ≤ 4294967296) :
    Calls Ybaf.prog 28 #[.slice none 0 0, .int .u64 p, .int .u64 n] w fun e w' => e = .returned (.tuple #[.slice none 0 0, .bool false]) ∧ w' = w := by
  have e1 : decide ((p : Int) + (n : Int) ≤ 0) = false := by simp; omega
  go_enter Ybaf.func28, Ybaf.ntmps28
  go_wp2_with fail
  go_ret2
  exact ⟨rfl, rfl⟩

set_option maxRecDepth 100000 in
set_option maxHeartbeats 1000000 in
theorem pad_any (a : Option Addr) (n c : Nat) (er : Value) (w : World) (hc : n ≤ c) (hn : n ≤ 1000000000) :
    Calls Ybaf.prog 29 #[.slice a n c, er] w fun e w' => ∃ m, e = .returned (.tuple #[.slice a m c, .int .i64 n, er]) ∧ n ≤ m ∧ m ≤ c ∧ w' = w := by
  have ha := andNot7 (n + 7) (by omega)
  have e : ((n : Int) + 7) = ((n + 7 : Nat) : Int) := by omega
  rw [← e] at ha
  obtain ⟨m, hm⟩ : ∃ m, m = (n + 7) / 8 * 8 := ⟨_, rfl⟩
  rw [← hm] at ha
  have HM := hide hm
  clear hm e
  by_cases hle : m ≤ c
  · have hle' : (m : Int) ≤ (c : Int) := by omega
    go_enter Ybaf.func29, Ybaf.ntmps29
    go_wp2_with fail
    refine bodyPost_ret (v := .tuple #[.slice a m c, .int .i64 n, er]) ?_ rfl ⟨m, rfl, by have := HM.out; omega, hle, rfl⟩
    simp [results, Ybaf.f29, go_sem]
  · have hle' : decide ((m : Int) ≤ (c : Int)) = false := by simp; omega
    go_enter Ybaf.func29, Ybaf.ntmps29
    go_wp2_with fail
    refine bodyPost_ret (v := .tuple #[.slice a n c, .int .i64 n, er]) ?_ rfl ⟨n, rfl, Nat.le_refl _, hc, rfl⟩
    simp [results, Ybaf.f29, go_sem]
end Go.Proofs.YbulkclmFmt
