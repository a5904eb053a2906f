import Derived.Test.YbulkcmoMaps
import Derived.WideMake
namespace Go.Proofs.Ybulkcmo
open Go.ChangeShapes Go.WideShapes Go.ChangeAt Go.RowKit Go.Maps
set_option linter.unusedVariables false

/-- A slice of uint64 that came in. -/
def RowU (w : World) (a : Option Addr) (n : Nat) (U : Nat → Int) : Prop :=
  n = 0 ∨ ∃ b off, a = some ⟨b, off, none⟩ ∧ b < w.heap.size ∧ ∀ j, j < n → w.cell? ⟨b, off + j, none⟩ = some (.int .u64 (U j)) ∧ 0 ≤ U j ∧ U j < 18446744073709551616
/-- A slice of bool that came in. -/
def RowB (w : World) (a : Option Addr) (n : Nat) (T : Nat → Bool) : Prop :=
  n = 0 ∨ ∃ b off, a = some ⟨b, off, none⟩ ∧ b < w.heap.size ∧ ∀ j, j < n → w.cell? ⟨b, off + j, none⟩ = some (.bool (T j))

/-- The link of goroutine i+1. -/
def linkV (U : Nat → Int) (nt : Nat) (T : Nat → Bool) (i : Nat) : Value := .agg #[.int .u64 (U i % ((i : Int) + 1)), .int .u64 0, .bool (decide (i < nt) && T i)]
/-- The map 'fresh' after k rounds. -/
def freshTo (U : Nat → Int) (nt : Nat) (T : Nat → Bool) (k : Nat) (x : Int) : Option Value := if 1 ≤ x ∧ x ≤ k then some (linkV U nt T (x - 1).toNat) else none
def goroutine0 : Value := .agg #[.int .u64 0, .string ⟨#[]⟩, .bool false, .slice none 0 0, .string ⟨#[]⟩, .string ⟨#[]⟩, .int .i64 0, .int .u64 0, .slice none 0 0, .slice none 0 0, .int .i64 0, .int .u64 0]
/-- The map 'tests' after k rounds. -/
def testsTo (I : Nat → Int) (m : Int) : Nat → Int → Option Value
  | 0, _ => none
  | k + 1, x => if x = I k % m then some goroutine0 else testsTo I m k x

theorem freshTo_zero (U : Nat → Int) (nt : Nat) (T : Nat → Bool) : freshTo U nt T 0 = fun _ => none := by
  funext x; unfold freshTo; rw [if_neg (by omega)]
theorem freshTo_succ (U : Nat → Int) (nt : Nat) (T : Nat → Bool) (k : Nat) : (fun x => if x = (k : Int) + 1 then some (linkV U nt T k) else freshTo U nt T k x) = freshTo U nt T (k + 1) := by
  funext x
  unfold freshTo
  by_cases h : x = (k : Int) + 1
  · subst h
    rw [if_pos rfl, if_pos (by omega)]
    congr 2; omega
  · rw [if_neg h]
    by_cases h2 : 1 ≤ x ∧ x ≤ k
    · rw [if_pos h2, if_pos (by omega)]
    · rw [if_neg h2, if_neg (by omega)]

theorem run_makeMap_hint {t k e : TypeId} (ht : Yba.prog.underlying t = some (.map k e)) (q : IntKind) (n : Int) (w : World) : (Instr.makeMap t (some (.int q n))).run Yba.prog w = .ok (.map (some w.heap.size)) (w.alloc (.map #[] 0)) := by
  simp [Instr.makeMap, run_underlying ht, asInt, asIntOf, Result.andThen]

/-- What build hands back: the Lines in block L, its Tree in block L', the two maps. -/
structure LinesAt (w : World) (L : Nat) (caller : Int) (Lt Bf Bt : Nat) (fe : Value) (own : Int) (unk : Bool) : Prop where
  block : w.heap[L]? = some (.cells #[.int .u64 caller, .pointer (some ⟨Lt, 0, none⟩), .slice none 0 0, .map (some Bf), .map (some Bt), .slice none 0 0, .map none, .slice none 0 0, .map none, .map none, .map none, fe, .map none, .int .u64 own, .bool unk, .int .u64 0] 45 (0, 0))
  tree : w.heap[Lt]? = some (.cells #[.int .u64 0, .map none, .map none, .map none, .map none, .int .u64 0, .map none, .map none, .map none, .slice none 0 0] 60 (0, 0))

theorem linkV_yes (U : Nat → Int) (nt : Nat) (T : Nat → Bool) (k : Nat) (h : k < nt) (b : Bool) (hb : T k = b) (u : Int) (hu : U k % ((k : Int) + 1) = u) : linkV U nt T k = .agg #[.int .u64 u, .int .u64 0, .bool b] := by
  unfold linkV; rw [hb, hu]; simp [h]
theorem linkV_no (U : Nat → Int) (nt : Nat) (T : Nat → Bool) (k : Nat) (h : ¬ k < nt) (u : Int) (hu : U k % ((k : Int) + 1) = u) : linkV U nt T k = .agg #[.int .u64 u, .int .u64 0, .bool false] := by
  unfold linkV; rw [hu]; simp [h]

set_option maxRecDepth 100000 in
set_option maxHeartbeats 2000000 in
theorem build_any (a0 a1 a3 : Option Addr) (n c0 nt c1 ni c3 : Nat) (U : Nat → Int) (T : Nat → Bool) (I : Nat → Int) (c : Int) (w : World) (hn : n ≤ 1024) (hni : ni ≤ 1024) (hc0 : 0 ≤ c) (hc1 : c < 18446744073709551616) (hnt : nt ≤ 9223372036854775807)
    (hU : RowU w a0 n U) (hT : RowB w a1 nt T) (hI : RowU w a3 ni I) :
    Calls Yba.prog 5 #[.slice a0 n c0, .slice a1 nt c1, .int .u64 c, .slice a3 ni c3] w fun e w' => ∃ L Lt Bf Bt, e = .returned (.pointer (some ⟨L, 0, none⟩)) ∧ Below w.heap.size w w' ∧ w.heap.size ≤ L ∧ w.heap.size ≤ Bf ∧ w.heap.size ≤ Bt ∧ Bf ≠ Bt ∧
      LinesAt w' L (c % ((n : Int) + 2)) Lt Bf Bt (.map none) 0 false ∧ MapIs w' Bf n (freshTo U nt T n) ∧ MapIs w' Bt ni (testsTo I ((n : Int) + 2) ni) := by
  have hmh := fun w => run_makeMap_hint (t := 35) Yba.underlying35 .i64 (n : Int) w
  have hmm := @run_makeMap Yba.prog
  go_enter Yba.func5, Yba.ntmps5
  go_wp2_with fail
  clear hmh
  go_loopw [27] (fun t wr => ∃ k : Nat, k ≤ n ∧ t = .int .i64 k ∧ Below w.heap.size w wr ∧ MapIs wr w.heap.size k (freshTo U nt T k)) (fun t _ => n - (intOf t).toNat)
  case atStart => exact ⟨0, Nat.zero_le _, rfl, (Below.refl _ _).alloc (Nat.le_refl _) _, by rw [freshTo_zero]; exact MapIs.made w⟩
  case round =>
    obtain ⟨k, hk, rfl, hbel, hM⟩ := hrel
    by_cases hlt : k < n
    · rcases hU with h0 | ⟨b0, off0, rfl, hb0, hcells⟩
      · omega
      obtain ⟨hc, u0, u1⟩ := hcells k hlt
      have hcw := (hbel.cell (p := ⟨b0, off0 + k, none⟩) hb0).trans hc
      clear hcells hc
      by_cases htk : k < nt
      · rcases hT with h0 | ⟨b1, off1, rfl, hb1, hcells1⟩
        · omega
        have hct := (hbel.cell (p := ⟨b1, off1 + k, none⟩) hb1).trans (hcells1 k htk)
        clear hcells1
        obtain ⟨w1, hrun, hM1, hturn⟩ := MapIs.store (w := wr.drew) (t := 35) (hM.of_block rfl) Yba.underlying35 (by unfold maxLen; omega) (k := (k : Int) + 1) (by omega) (by omega) (.agg #[.int .u64 (U k % ((k : Int) + 1)), .int .u64 0, .bool (T k)])
        rw [← linkV_yes U nt T k htk _ rfl _ rfl, freshTo_succ] at hM1
        have HX := hide (And.intro hbel (And.intro hM1 hturn))
        clear hbel hM1 hturn hM hI hmm
        generalize T k = tv at *
        generalize U k = uk at *
        have htk' : (k : Int) < (nt : Int) := by omega
        go_wp2_with fail
        go_region
        go_wp2_with fail
        go_roundw
        case rel =>
          obtain ⟨hbel, hM1, hturn⟩ := HX.out
          exact ⟨k + 1, by omega, by go_num, hbel.drew.trans (turned_below hturn (Nat.le_refl _)), hM1⟩
        case measure => simp [intOf]; omega
      · obtain ⟨w1, hrun, hM1, hturn⟩ := MapIs.store (w := wr.drew) (t := 35) (hM.of_block rfl) Yba.underlying35 (by unfold maxLen; omega) (k := (k : Int) + 1) (by omega) (by omega) (.agg #[.int .u64 (U k % ((k : Int) + 1)), .int .u64 0, .bool false])
        rw [← linkV_no U nt T k htk _ rfl, freshTo_succ] at hM1
        have HX := hide (And.intro hbel (And.intro hM1 hturn))
        clear hbel hM1 hturn hM hI hmm hT
        generalize U k = uk at *
        have htk' : decide ((k : Int) < (nt : Int)) = false := by simp; omega
        go_wp2_with fail
        go_region
        go_wp2_with fail
        go_roundw
        case rel =>
          obtain ⟨hbel, hM1, hturn⟩ := HX.out
          exact ⟨k + 1, by omega, by go_num, hbel.drew.trans (turned_below hturn (Nat.le_refl _)), hM1⟩
        case measure => simp [intOf]; omega
    · have hkn : k = n := by omega
      subst hkn
      have HX := hide (And.intro hbel hM)
      have hsz := hM.lt
      clear hbel hM hU hT hlt
      go_wp2_with fail
      clear hmm
      obtain ⟨wo, rfl⟩ : ∃ wo : World, wo = wr := ⟨_, rfl⟩
      go_loopw [56] (fun t wr => ∃ j : Nat, j ≤ ni ∧ t = .int .i64 j ∧ Below wo.heap.size wo wr ∧ MapIs wr wo.heap.size j (testsTo I ((k : Int) + 2) j)) (fun t _ => ni - (intOf t).toNat)
      case atStart => exact ⟨0, Nat.zero_le _, rfl, (Below.refl _ _).alloc (Nat.le_refl _) _, MapIs.made wo⟩
      case round =>
        obtain ⟨j, hj, rfl, hbel, hM⟩ := hrel
        by_cases hlt : j < ni
        · rcases hI with h0 | ⟨b3, off3, rfl, hb3, hcells⟩
          · omega
          obtain ⟨hc, u0, u1⟩ := hcells j hlt
          have hcw := (hbel.cell (p := ⟨b3, off3 + j, none⟩) (Nat.lt_trans hb3 hsz)).trans ((HX.out.1.cell hb3).trans hc)
          clear hcells hc
          obtain ⟨w1, hrun, hM1, hturn⟩ := MapIs.store (t := 36) hM Yba.underlying36 (by unfold maxLen; omega) (k := I j % ((k : Int) + 2)) (Int.emod_nonneg _ (by omega)) (by have := Int.emod_lt_of_pos (I j) (show (0 : Int) < (k : Int) + 2 by omega); omega) goroutine0
          have hM2 : MapIs w1 wo.heap.size (j + 1) (testsTo I ((k : Int) + 2) (j + 1)) := hM1
          have HY := hide (And.intro hbel (And.intro hM2 hturn))
          clear hbel hM1 hM2 hturn hM
          unfold goroutine0 at hrun
          generalize I j = ij at *
          go_wp2_with fail
          go_roundw
          case rel =>
            obtain ⟨hbel, hM1, hturn⟩ := HY.out
            exact ⟨j + 1, by omega, by go_num, hbel.trans (turned_below hturn (Nat.le_refl _)), hM1⟩
          case measure => simp [intOf]; omega
        · have hjn : j = ni := by omega
          subst hjn
          have HY := hide (And.intro hbel hM)
          clear hbel hM hlt
          go_wp2_with fail
          go_ret
          obtain ⟨hb1, hM1⟩ := HX.out
          obtain ⟨hb2, hM2⟩ := HY.out
          have s1 := hb1.size
          have s2 := hb2.size
          have hb3 : Below wr.heap.size wr ((wr.alloc (.cells #[.int .u64 0, .map none, .map none, .map none, .map none, .int .u64 0, .map none, .map none, .map none, .slice none 0 0] 60)).alloc (.cells #[.int .u64 (c % ((k : Int) + 2)), .pointer (some ⟨wr.heap.size, 0, none⟩), .slice none 0 0, .map (some w.heap.size), .map (some wo.heap.size), .slice none 0 0, .map none, .slice none 0 0, .map none, .map none, .map none, .map none, .map none, .int .u64 0, .bool false, .int .u64 0] 45)) := ((Below.refl _ _).alloc (Nat.le_refl _) _).alloc (by simp) _
          refine ⟨wr.heap.size + 1, wr.heap.size, w.heap.size, wo.heap.size, rfl, (hb1.trans (hb2.mono s1)).trans (hb3.mono (by omega)), by omega, Nat.le_refl _, s1, by omega, ⟨?_, ?_⟩, (hM1.later hb2).later hb3, hM2.later hb3⟩
          · show ((wr.heap.push _).push _)[_]? = _
            rw [Array.getElem?_push, if_pos (by simp)]
          · show ((wr.heap.push _).push _)[_]? = _
            rw [Array.getElem?_push, if_neg (by simp), Array.getElem?_push, if_pos rfl]
end Go.Proofs.Ybulkcmo
