import Derived.Test.YbulkclmFmtNext
import Derived.Deep.RegionWith
import Derived.Deep.RegionHeld3
namespace Go.Proofs.YbulkclmFmt
open Go.ChangeShapes Go.WideShapes Go.ChangeAt Go.RowKit
set_option linter.unusedVariables false

theorem le32_range {B : Nat → Int} (h : Byt B) (p : Nat) : 0 ≤ le32 B p ∧ le32 B p < 4294967296 := by
  have h0 := h p
  have h1 := h (p + 1)
  have h2 := h (p + 2)
  have h3 := h (p + 3)
  unfold le32
  omega

set_option maxRecDepth 100000 in
set_option maxHeartbeats 1000000 in
theorem bit_any (b : Bool) (w : World) :
    Calls Ybaf.prog 34 #[.bool b] w fun e w' => e = .returned (.int .u32 (if b then 1 else 0)) ∧ w' = w := by
  cases b with
  | true =>
    go_enter Ybaf.func34, Ybaf.ntmps34
    go_wp2_with fail
    go_ret
    exact ⟨rfl, rfl⟩
  | false =>
    go_enter Ybaf.func34, Ybaf.ntmps34
    go_wp2_with fail
    go_ret
    exact ⟨rfl, rfl⟩

set_option maxRecDepth 100000 in
set_option maxHeartbeats 1000000 in
theorem stop_any (x y h v : Int) (w : World) (hx : 0 ≤ x ∧ x < 4294967296) (hy : 0 ≤ y ∧ y < 4294967296) (hh : 0 ≤ h ∧ h < 4294967296) (hv : v = if y = 0 ∨ x = h then 1 else 0) :
    Calls Ybaf.prog 25 #[.int .u64 (x + y * 4294967296), .int .u32 h] w fun e w' => e = .returned (.int .u32 v) ∧ w' = w := by
  obtain ⟨b1, hb1⟩ : ∃ b1, b1 = (y == 0) := ⟨_, rfl⟩
  obtain ⟨b2, hb2⟩ : ∃ b2, b2 = (x == h) := ⟨_, rfl⟩
  have hv2 : v = bits .or .u32 (if b1 then 1 else 0) (if b2 then 1 else 0) := by
    have ho : ∀ a b : Bool, bits .or .u32 (if a then 1 else 0) (if b then 1 else 0) = if a || b then 1 else 0 := by decide
    rw [hv, ho, hb1, hb2]
    by_cases h1 : y = 0 <;> by_cases h2 : x = h <;> simp [h1, h2]
  have HV := hide hv2
  have hs1 : ((x + y * 4294967296) / 4294967296 == 0) = b1 := by rw [hb1, show (x + y * 4294967296) / 4294967296 = y by omega]
  have hs2 : ((x + y * 4294967296) % 4294967296 == h) = b2 := by rw [hb2, show (x + y * 4294967296) % 4294967296 = x by omega]
  have hr : 0 ≤ x + y * 4294967296 ∧ x + y * 4294967296 < 18446744073709551616 := by omega
  generalize x + y * 4294967296 = z at *
  have hc1 := bit_any b1 w
  have hc2 := bit_any b2 w
  clear hv hv2 hb1 hb2 hx hy
  generalize (if b1 = true then (1 : Int) else 0) = c1 at *
  generalize (if b2 = true then (1 : Int) else 0) = c2 at *
  go_enter Ybaf.func25, Ybaf.ntmps25
  go_wp2_with fail
  refine hc1.mono ?_
  rintro e w1 ⟨rfl, rfl⟩
  clear hc1
  go_wp2_with fail
  refine hc2.mono ?_
  rintro e w1 ⟨rfl, rfl⟩
  clear hc2
  go_wp2_with fail
  go_ret
  exact ⟨by rw [HV.out]; rfl, rfl⟩

set_option maxRecDepth 100000 in
set_option maxHeartbeats 1000000 in
theorem view_map (g N cap p n : Nat) (w : World) (hp : p < N) (hpn : p + n ≤ N) (hN : N ≤ 16777216) (hc : N ≤ cap) :
    Calls Ybaf.prog 28 #[.slice (some ⟨g, 0, none⟩) N cap, .int .u64 p, .int .u64 n] w fun e w' => e = .returned (.tuple #[.slice (some ⟨g, p, none⟩) n (cap - p), .bool true]) ∧ w' = w := by
  have e1 : decide ((p : Int) + (n : Int) ≤ (N : Int)) = true := by simp; omega
  have e2 : (p : Int) + (n : Int) ≤ (N : Int) := by omega
  have e3 : ¬ cap = p := by omega
  have e4 : (p : Int) + (n : Int) ≤ (cap : Int) := by omega
  have e5 : ((p : Int) + (n : Int)).toNat = p + n := by omega
  go_enter Ybaf.func28, Ybaf.ntmps28
  go_wp2_with fail
  go_ret2
  exact ⟨rfl, rfl⟩

set_option maxRecDepth 100000 in
set_option maxHeartbeats 1000000 in
theorem pairAt_map (g N cap p : Nat) (B : Nat → Int) (w : World) (hR : Row w g cap N B) (hB : Byt B) (hp : p + 8 ≤ N) (hN : N ≤ 16777216) :
    Calls Ybaf.prog 27 #[.slice (some ⟨g, 0, none⟩) N cap, .int .u64 p] w fun e w' => e = .returned (.tuple #[.int .u32 (le32 B p), .int .u32 (le32 B (p + 4)), .bool true]) ∧ Below w.heap.size w w' := by
  have hc := hR.le
  have e2 : (p : Int) + 8 ≤ (N : Int) := by omega
  have e3 : ¬ cap = p := by omega
  have e4 : (p : Int) + 8 ≤ (cap : Int) := by omega
  have e5 : ((p : Int) + 8).toNat = p + 8 := by omega
  have e6 : p + 8 - p = 8 := by omega
  have hcall : Calls Ybaf.prog 24 #[.agg #[], .slice (some ⟨g, p, none⟩) 8 (cap - p)] w.drew fun e w1 => e = .returned (.int .u64 (le32 B p + le32 B (p + 4) * 4294967296)) ∧ Hid (Below w.heap.size w w1) := by
    refine (uint64_any g p 8 (cap - p) B p w.drew (by omega) hB (fun j hj => hR.at_ _ (by omega))).mono ?_
    rintro e w1 ⟨rfl, hb1⟩
    exact ⟨rfl, ⟨hb1.os, hb1.tape, hb1.output, hb1.size, hb1.block⟩⟩
  have hx := le32_range hB p
  have hy := le32_range hB (p + 4)
  generalize le32 B p = x at *
  generalize le32 B (p + 4) = y at *
  have hdiv : (x + y * 4294967296) / 4294967296 = y := by omega
  have hmod : (x + y * 4294967296) % 4294967296 = x := by omega
  clear hR hB
  go_enter Ybaf.func27, Ybaf.ntmps27
  go_wp2_with fail
  go_region_held3 (fun _ => True) (trivial) (first | (go_at_call 24; (try rw [if_neg e3]); refine hcall.mono ?_; rintro e w1 ⟨rfl, HB⟩))
  go_wp2_with fail
  refine bodyPost_ret (v := .tuple #[.int .u32 x, .int .u32 y, .bool true]) ?_ rfl ⟨rfl, HB.out⟩
  simp [results, Ybaf.f27, go_sem]
  omega

/-- How many zero bits a number below 16 has at its end: 32 if it is 0. -/
def tzN : Nat → Nat
  | 0 => 32
  | 1 => 0
  | 2 => 1
  | 3 => 0
  | 4 => 2
  | 5 => 0
  | 6 => 1
  | 7 => 0
  | 8 => 3
  | 9 => 0
  | 10 => 1
  | 11 => 0
  | 12 => 2
  | 13 => 0
  | 14 => 1
  | _ => 0

/-- The four cells of the table that the look-up reads. -/
def Tab4 (w : World) : Prop := w.cell? ⟨4, 0, none⟩ = some (.int .u8 0) ∧ w.cell? ⟨4, 1, none⟩ = some (.int .u8 1) ∧ w.cell? ⟨4, 3, none⟩ = some (.int .u8 2) ∧ w.cell? ⟨4, 7, none⟩ = some (.int .u8 3)

set_option maxRecDepth 100000 in
set_option maxHeartbeats 2000000 in
theorem tz_any (s : Nat) (w : World) (hs : s < 16) (ht : Tab4 w) :
    Calls Ybaf.prog 26 #[.int .u32 s] w fun e w' => e = .returned (.int .i64 (tzN s)) ∧ w' = w := by
  obtain ⟨t0, t1, t3, t7⟩ := ht
  have h : s = 0 ∨ s = 1 ∨ s = 2 ∨ s = 3 ∨ s = 4 ∨ s = 5 ∨ s = 6 ∨ s = 7 ∨ s = 8 ∨ s = 9 ∨ s = 10 ∨ s = 11 ∨ s = 12 ∨ s = 13 ∨ s = 14 ∨ s = 15 := by omega
  clear hs
  rcases h with rfl | rfl | rfl | rfl | rfl | rfl | rfl | rfl | rfl | rfl | rfl | rfl | rfl | rfl | rfl | rfl
  · go_enter Ybaf.func26, Ybaf.ntmps26
    go_wp2_with fail
    go_ret
    exact ⟨rfl, rfl⟩
  · have hb : bits .and .u32 1 4294967295 = 1 := by decide
    go_enter Ybaf.func26, Ybaf.ntmps26
    go_wp2_with fail
    go_ret
    exact ⟨rfl, rfl⟩
  · have hb : bits .and .u32 2 4294967294 = 2 := by decide
    go_enter Ybaf.func26, Ybaf.ntmps26
    go_wp2_with fail
    go_ret
    exact ⟨rfl, rfl⟩
  · have hb : bits .and .u32 3 4294967293 = 1 := by decide
    go_enter Ybaf.func26, Ybaf.ntmps26
    go_wp2_with fail
    go_ret
    exact ⟨rfl, rfl⟩
  · have hb : bits .and .u32 4 4294967292 = 4 := by decide
    go_enter Ybaf.func26, Ybaf.ntmps26
    go_wp2_with fail
    go_ret
    exact ⟨rfl, rfl⟩
  · have hb : bits .and .u32 5 4294967291 = 1 := by decide
    go_enter Ybaf.func26, Ybaf.ntmps26
    go_wp2_with fail
    go_ret
    exact ⟨rfl, rfl⟩
  · have hb : bits .and .u32 6 4294967290 = 2 := by decide
    go_enter Ybaf.func26, Ybaf.ntmps26
    go_wp2_with fail
    go_ret
    exact ⟨rfl, rfl⟩
  · have hb : bits .and .u32 7 4294967289 = 1 := by decide
    go_enter Ybaf.func26, Ybaf.ntmps26
    go_wp2_with fail
    go_ret
    exact ⟨rfl, rfl⟩
  · have hb : bits .and .u32 8 4294967288 = 8 := by decide
    go_enter Ybaf.func26, Ybaf.ntmps26
    go_wp2_with fail
    go_ret
    exact ⟨rfl, rfl⟩
  · have hb : bits .and .u32 9 4294967287 = 1 := by decide
    go_enter Ybaf.func26, Ybaf.ntmps26
    go_wp2_with fail
    go_ret
    exact ⟨rfl, rfl⟩
  · have hb : bits .and .u32 10 4294967286 = 2 := by decide
    go_enter Ybaf.func26, Ybaf.ntmps26
    go_wp2_with fail
    go_ret
    exact ⟨rfl, rfl⟩
  · have hb : bits .and .u32 11 4294967285 = 1 := by decide
    go_enter Ybaf.func26, Ybaf.ntmps26
    go_wp2_with fail
    go_ret
    exact ⟨rfl, rfl⟩
  · have hb : bits .and .u32 12 4294967284 = 4 := by decide
    go_enter Ybaf.func26, Ybaf.ntmps26
    go_wp2_with fail
    go_ret
    exact ⟨rfl, rfl⟩
  · have hb : bits .and .u32 13 4294967283 = 1 := by decide
    go_enter Ybaf.func26, Ybaf.ntmps26
    go_wp2_with fail
    go_ret
    exact ⟨rfl, rfl⟩
  · have hb : bits .and .u32 14 4294967282 = 2 := by decide
    go_enter Ybaf.func26, Ybaf.ntmps26
    go_wp2_with fail
    go_ret
    exact ⟨rfl, rfl⟩
  · have hb : bits .and .u32 15 4294967281 = 1 := by decide
    go_enter Ybaf.func26, Ybaf.ntmps26
    go_wp2_with fail
    go_ret
    exact ⟨rfl, rfl⟩
end Go.Proofs.YbulkclmFmt
