import Derived.Test.YbulkclmFmtStr
import Derived.Deep.RegionWith
namespace Go.Proofs.YbulkclmFmt
open Go.ChangeShapes Go.WideShapes Go.ChangeAt Go.RowKit
set_option linter.unusedVariables false

theorem xor_range (a b : Int) : 0 ≤ bits .xor .u32 a b ∧ bits .xor .u32 a b < 4294967296 := by
  have h : bits .xor .u32 a b = IntKind.u32.wrap ((BitVec.ofInt 32 a ^^^ BitVec.ofInt 32 b).toNat : Int) := rfl
  rw [h, IntKind.wrap_u32]; omega

/-- The hash of the first k bytes of K. -/
def hashTo (K : Nat → Int) : Nat → Int
  | 0 => 5381
  | k + 1 => bits .xor .u32 (hashTo K k * 33 % 4294967296) (K k)
theorem hashTo_range (K : Nat → Int) (k : Nat) : 0 ≤ hashTo K k ∧ hashTo K k < 4294967296 := by
  cases k with
  | zero => exact ⟨by unfold hashTo; omega, by unfold hashTo; omega⟩
  | succ k => exact xor_range _ _

set_option maxRecDepth 100000 in
set_option maxHeartbeats 1000000 in
theorem hashMore_any (a : Option Addr) (n c : Nat) (K : Nat → Int) (w : World) (hK : Byt K) (hn : n ≤ 1000000000) (h3 : w.cell? ⟨3, 0, none⟩ = some (.int .u32 33)) (ha : Sl w a n K) :
    Calls Ybaf.prog 17 #[.int .u32 5381, .slice a n c] w fun e w' => e = .returned (.int .u32 (hashTo K n)) ∧ w' = w := by
  go_enter Ybaf.func17, Ybaf.ntmps17
  go_wp2_with fail
  go_loopw [11, 0] (fun t h wr => ∃ k : Nat, k ≤ n ∧ t = .int .i64 k ∧ h = .int .u32 (hashTo K k) ∧ wr = w) (fun t _ _ => n - (intOf t).toNat)
  case atStart => exact ⟨0, Nat.zero_le _, rfl, rfl, rfl⟩
  case round =>
    obtain ⟨k, hk, rfl, rfl, rfl⟩ := hrel
    have hr := hashTo_range K k
    by_cases hlt : k < n
    · rcases ha with h0 | ⟨b, o, rfl, hcells⟩
      · omega
      have hc := hcells k hlt
      rw [Nat.zero_add] at hc
      have hb := hK k
      have HS : Hid (bits .xor .u32 (hashTo K k * 33 % 4294967296) (K k) = hashTo K (k + 1)) := rfl
      clear hcells
      generalize K k = x at *
      generalize hashTo K k = hh at *
      go_wp2_with fail
      go_roundw
      case rel => exact ⟨k + 1, by omega, by go_num, by rw [HS.out], trivial⟩
      case measure => simp [intOf]; omega
    · have hkn : k = n := by omega
      subst hkn
      go_wp2_with fail
      go_ret
      exact ⟨rfl, rfl⟩

set_option maxRecDepth 100000 in
theorem hash_any (a : Option Addr) (n c : Nat) (K : Nat → Int) (w : World) (hK : Byt K) (hn : n ≤ 1000000000) (h3 : w.cell? ⟨3, 0, none⟩ = some (.int .u32 33)) (ha : Sl w a n K) :
    Calls Ybaf.prog 10 #[.slice a n c] w fun e w' => e = .returned (.int .u32 (hashTo K n)) ∧ w' = w := by
  go_enter Ybaf.func10, Ybaf.ntmps10
  go_wp2_with fail
  refine (hashMore_any a n c K w hK hn h3 ha).mono ?_
  rintro e w1 ⟨rfl, rfl⟩
  go_wp2_with fail
  go_ret
  exact ⟨rfl, rfl⟩

set_option maxRecDepth 100000 in
set_option maxHeartbeats 1000000 in
theorem getPair_any (g o n c : Nat) (B : Nat → Int) (p : Nat) (w : World) (hn : 8 ≤ n) (hc : n ≤ c) (hB : Byt B) (h : At w g o B p 8) :
    Calls Ybaf.prog 14 #[.slice (some ⟨g, o, none⟩) n c] w fun e w' => e = .returned (.tuple #[.int .u32 (le32 B p), .int .u32 (le32 B (p + 4))]) ∧ Below w.heap.size w w' := by
  have hg : g < w.heap.size := World.block_lt_of_cell? w _ (h 0 (by omega))
  have hcall : Calls Ybaf.prog 12 #[.agg #[], .slice (some ⟨g, o, none⟩) n c] w.drew fun e w1 => e = .returned (.int .u32 (le32 B p)) ∧
      Calls Ybaf.prog 12 #[.agg #[], .slice (some ⟨g, o + 4, none⟩) (n - 4) (c - 4)] w1 fun e w2 => e = .returned (.int .u32 (le32 B (p + 4))) ∧ Hid (Below w.heap.size w w2) := by
    refine (uint32_any g o n c B p w.drew (by omega) hB (fun j hj => h j (by omega))).mono ?_
    rintro e w1 ⟨rfl, hb1⟩
    have hb1' : Below w.heap.size w w1 := ⟨hb1.os, hb1.tape, hb1.output, hb1.size, hb1.block⟩
    refine ⟨rfl, (uint32_any g (o + 4) (n - 4) (c - 4) B (p + 4) w1 (by omega) hB (fun j hj => ?_)).mono ?_⟩
    · have := (hb1'.cell (p := ⟨g, o + (4 + j), none⟩) hg).trans (h (4 + j) (by omega))
      rw [Nat.add_assoc, Nat.add_assoc]; exact this
    · rintro e w2 ⟨rfl, hb2⟩
      exact ⟨rfl, hb1'.trans (hb2.mono hb1'.size)⟩
  clear h hB
  generalize le32 B p = x at *
  generalize le32 B (p + 4) = y at *
  go_enter Ybaf.func14, Ybaf.ntmps14
  go_wp2_with fail
  go_region_with (go_at_call 12; first | (refine hcall.mono ?_; clear hcall; rintro e w1 ⟨rfl, hcall2⟩) | (refine hcall2.mono ?_; clear hcall2; rintro e w2 ⟨rfl, HB⟩))
  all_goals (
    go_wp2_with fail
    go_ret2
    exact ⟨rfl, HB.out⟩)
end Go.Proofs.YbulkclmFmt
