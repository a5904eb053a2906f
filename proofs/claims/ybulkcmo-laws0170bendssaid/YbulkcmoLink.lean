import Derived.Test.YbulkcmoCached
namespace Go.Proofs.Ybulkcmo
open Go.ChangeShapes Go.WideShapes Go.ChangeAt Go.RowKit Go.Maps
set_option linter.unusedVariables false

/-- The goroutine above goroutine x. -/
def upOf (U : Nat → Int) (x : Int) : Int := U (x - 1).toNat % x

theorem upOf_lt (U : Nat → Int) {x : Int} (h : 1 ≤ x) : 0 ≤ upOf U x ∧ upOf U x < x := ⟨Int.emod_nonneg _ (by omega), Int.emod_lt_of_pos _ (by omega)⟩

/-- Where the line up from x ends. -/
def endOf (U : Nat → Int) (n : Nat) (x : Int) : Int :=
  if h : 1 ≤ x ∧ x ≤ n then (if upOf U x = 0 then x else endOf U n (upOf U x)) else x
termination_by x.toNat
decreasing_by have := upOf_lt U h.1; omega

/-- The nearest test on the line up from x, or zero. -/
def nearOf (U : Nat → Int) (n nt : Nat) (T : Nat → Bool) (x : Int) : Int :=
  if h : 1 ≤ x ∧ x ≤ n then (if (decide ((x - 1).toNat < nt) && T (x - 1).toNat) = true then x else nearOf U n nt T (upOf U x)) else 0
termination_by x.toNat
decreasing_by have := upOf_lt U h.1; omega

def ownOf (U : Nat → Int) (n nt : Nat) (T : Nat → Bool) (c : Int) : Int := if nearOf U n nt T c = 0 then c else nearOf U n nt T c

theorem endOf_out {U : Nat → Int} {n : Nat} {x : Int} (h : ¬ (1 ≤ x ∧ x ≤ n)) : endOf U n x = x := by rw [endOf, dif_neg h]
theorem endOf_top {U : Nat → Int} {n : Nat} {x : Int} (h : 1 ≤ x ∧ x ≤ n) (hu : upOf U x = 0) : endOf U n x = x := by rw [endOf, dif_pos h, if_pos hu]
theorem endOf_up {U : Nat → Int} {n : Nat} {x : Int} (h : 1 ≤ x ∧ x ≤ n) (hu : upOf U x ≠ 0) : endOf U n x = endOf U n (upOf U x) := by rw [endOf, dif_pos h, if_neg hu]
theorem nearOf_out {U : Nat → Int} {n nt : Nat} {T : Nat → Bool} {x : Int} (h : ¬ (1 ≤ x ∧ x ≤ n)) : nearOf U n nt T x = 0 := by rw [nearOf, dif_neg h]
theorem nearOf_yes {U : Nat → Int} {n nt : Nat} {T : Nat → Bool} {x : Int} (h : 1 ≤ x ∧ x ≤ n) (ht : (decide ((x - 1).toNat < nt) && T (x - 1).toNat) = true) : nearOf U n nt T x = x := by rw [nearOf, dif_pos h, if_pos ht]
theorem nearOf_no {U : Nat → Int} {n nt : Nat} {T : Nat → Bool} {x : Int} (h : 1 ≤ x ∧ x ≤ n) (ht : (decide ((x - 1).toNat < nt) && T (x - 1).toNat) = false) : nearOf U n nt T x = nearOf U n nt T (upOf U x) := by rw [nearOf, dif_pos h, if_neg (by rw [ht]; decide)]

/-- What the links want of memory. -/
structure Tied (w : World) (L Lt Bf n : Nat) (f : Int → Option Value) : Prop where
  c1 : w.cell? ⟨L, 1, none⟩ = some (.pointer (some ⟨Lt, 0, none⟩))
  c3 : w.cell? ⟨L, 3, none⟩ = some (.map (some Bf))
  t1 : w.cell? ⟨Lt, 1, none⟩ = some (.map none)
  m : MapIs w Bf n f

theorem zero48 (w : World) : (zeroValue 48).run Yba.prog w = .ok (.agg #[.int .u64 0, .int .u64 0, .bool false]) w := by kernel_rfl

set_option maxRecDepth 100000 in
set_option maxHeartbeats 1000000 in
/-- '(*Tree).lookUp' in a tree that holds nothing. -/
theorem lookUp_any (Lt : Nat) (id : Int) (w : World) (h0 : 0 ≤ id) (h1 : id < 18446744073709551616) (hc : w.cell? ⟨Lt, 1, none⟩ = some (.map none)) :
    Calls Yba.prog 18 #[.pointer (some ⟨Lt, 0, none⟩), .int .u64 id] w fun e w' => e = .returned (.tuple #[.agg #[.int .u64 0, .int .u64 0, .bool false], .bool false]) ∧ Below w.heap.size w w' := by
  have hl : Lt < w.heap.size := World.block_lt_of_cell? w _ hc
  have hlk := fun w : World => look_nil24 w (t := 35) Yba.underlying35 (zero48 w) h0 h1
  go_enter Yba.func18, Yba.ntmps18
  go_wp2_with fail
  refine bodyPost_ret (v := .tuple #[.agg #[.int .u64 0, .int .u64 0, .bool false], .bool false]) ?_ rfl ⟨rfl, ((Below.refl _ _).alloc (Nat.le_refl _) _).alloc (by first | omega | (simp <;> omega)) _⟩
  simp [results, Yba.f18, go_sem]

set_option maxRecDepth 100000 in
set_option maxHeartbeats 1000000 in
theorem link_some (L Lt Bf n : Nat) (f : Int → Option Value) (id u p : Int) (t : Bool) (w : World) (h0 : 0 ≤ id) (h1 : id < 18446744073709551616) (hT : Tied w L Lt Bf n f) (hf : f id = some (.agg #[.int .u64 u, .int .u64 p, .bool t])) :
    Calls Yba.prog 16 #[.pointer (some ⟨L, 0, none⟩), .int .u64 id] w fun e w' => e = .returned (.tuple #[.agg #[.int .u64 u, .int .u64 p, .bool t], .bool true]) ∧ Below w.heap.size w w' := by
  have hL : L < w.heap.size := World.block_lt_of_cell? w _ hT.c1
  have hlk := (hT.m.of_block (w' := w.alloc (.cells #[.int .u64 0, .int .u64 0, .bool false] 48)) (Below.heap_alloc _ _ _ hT.m.lt)).look (t := 35) Yba.underlying35 (zero48 _) h0 h1
  rw [hf] at hlk
  simp at hlk
  have hc3 := hT.c3
  clear hf hT
  go_enter Yba.func16, Yba.ntmps16
  go_wp2_with fail
  refine bodyPost_ret (v := .tuple #[.agg #[.int .u64 u, .int .u64 p, .bool t], .bool true]) ?_ rfl ⟨rfl, ((Below.refl _ _).alloc (Nat.le_refl _) _).alloc (by first | omega | (simp <;> omega)) _⟩
  simp [results, Yba.f16, go_sem]

set_option maxRecDepth 100000 in
set_option maxHeartbeats 1000000 in
theorem link_none (L Lt Bf n : Nat) (f : Int → Option Value) (id : Int) (w : World) (h0 : 0 ≤ id) (h1 : id < 18446744073709551616) (hT : Tied w L Lt Bf n f) (hf : f id = none) :
    Calls Yba.prog 16 #[.pointer (some ⟨L, 0, none⟩), .int .u64 id] w fun e w' => e = .returned (.tuple #[.agg #[.int .u64 0, .int .u64 0, .bool false], .bool false]) ∧ Below w.heap.size w w' := by
  have hL : L < w.heap.size := World.block_lt_of_cell? w _ hT.c1
  have hLt : Lt < w.heap.size := World.block_lt_of_cell? w _ hT.t1
  have hlk := (hT.m.of_block (w' := w.alloc (.cells #[.int .u64 0, .int .u64 0, .bool false] 48)) (Below.heap_alloc _ _ _ hT.m.lt)).look (t := 35) Yba.underlying35 (zero48 _) h0 h1
  rw [hf] at hlk
  simp at hlk
  obtain ⟨hc1, hc3, ht1, _⟩ := hT
  clear hf
  go_enter Yba.func16, Yba.ntmps16
  go_wp2_with fail
  refine (lookUp_any Lt id _ h0 h1 (by rw [Below.cell (B := w.heap.size) (((Below.refl _ _).alloc (Nat.le_refl _) _).alloc (by simp) _) hLt]; exact ht1)).mono ?_
  rintro e w2 ⟨rfl, hb⟩
  have hbl : w2.heap[w.heap.size]? = some (.cells #[.int .u64 0, .int .u64 0, .bool false] 48 (0, 0)) := by
    rw [hb.block _ (by simp; omega), Below.heap_alloc _ _ _ (by simp)]
    show (w.heap.push _)[_]? = _
    rw [Array.getElem?_push, if_pos rfl]
  have hbel : Below w.heap.size w w2 := (((Below.refl _ _).alloc (Nat.le_refl _) _).alloc (by simp) _).trans (hb.mono (by simp; omega))
  have k0 : w2.cell? ⟨w.heap.size, 0, none⟩ = some (.int .u64 0) := by rw [Joins.cell_of_block hbl]; rfl
  have k1 : w2.cell? ⟨w.heap.size, 1, none⟩ = some (.int .u64 0) := by rw [Joins.cell_of_block hbl]; rfl
  have k2 : w2.cell? ⟨w.heap.size, 2, none⟩ = some (.bool false) := by rw [Joins.cell_of_block hbl]; rfl
  have f0 := Joins.unfrozen_of_block hbl 0
  have f1 := Joins.unfrozen_of_block hbl 1
  have f2 := Joins.unfrozen_of_block hbl 2
  have HX := hide hbel
  clear hb hbl hlk hbel ht1 hc1 hc3
  go_wp2_with fail
  refine bodyPost_ret (v := .tuple #[.agg #[.int .u64 0, .int .u64 0, .bool false], .bool false]) ?_ rfl ⟨rfl, ?_⟩
  · simp [results, Yba.f16, go_sem, k0, k1, k2]
  · have h := HX.out
    exact ((h.setCell (Nat.le_refl _) _).setCell (Nat.le_refl _) _).setCell (Nat.le_refl _) _

set_option maxRecDepth 100000 in
set_option maxHeartbeats 1000000 in
theorem linksTo_some (L Lt Bf n : Nat) (f : Int → Option Value) (id u p : Int) (t : Bool) (w : World) (h0 : 0 ≤ id) (h1 : id < 18446744073709551616) (hT : Tied w L Lt Bf n f) (hf : f id = some (.agg #[.int .u64 u, .int .u64 p, .bool t])) :
    Calls Yba.prog 13 #[.pointer (some ⟨L, 0, none⟩), .int .u64 id] w fun e w' => e = .returned (.bool t) ∧ Below w.heap.size w w' := by
  go_enter Yba.func13, Yba.ntmps13
  go_wp2_with fail
  refine (link_some L Lt Bf n f id u p t w h0 h1 hT hf).mono ?_
  rintro e w2 ⟨rfl, hb⟩
  have HX := hide hb
  clear hb hT hf
  go_wp2_with fail
  go_ret
  exact ⟨rfl, HX.out.alloc HX.out.size _⟩

set_option maxRecDepth 100000 in
set_option maxHeartbeats 1000000 in
theorem linksTo_none (L Lt Bf n : Nat) (f : Int → Option Value) (id : Int) (w : World) (h0 : 0 ≤ id) (h1 : id < 18446744073709551616) (hT : Tied w L Lt Bf n f) (hf : f id = none) :
    Calls Yba.prog 13 #[.pointer (some ⟨L, 0, none⟩), .int .u64 id] w fun e w' => e = .returned (.bool false) ∧ Below w.heap.size w w' := by
  go_enter Yba.func13, Yba.ntmps13
  go_wp2_with fail
  refine (link_none L Lt Bf n f id w h0 h1 hT hf).mono ?_
  rintro e w2 ⟨rfl, hb⟩
  have HX := hide hb
  clear hb hT hf
  go_wp2_with fail
  go_ret
  exact ⟨rfl, HX.out.alloc HX.out.size _⟩

set_option maxRecDepth 100000 in
set_option maxHeartbeats 1000000 in
/-- 'zzs0170bend'. -/
theorem bend_any (a0 : Option Addr) (n c0 : Nat) (U : Nat → Int) (x : Int) (w : World) (hn : n ≤ 1024) (h0 : 0 ≤ x) (h1 : x < 18446744073709551616) (hU : RowU w a0 n U) :
    Calls Yba.prog 6 #[.slice a0 n c0, .int .u64 x] w fun e w' => e = .returned (.int .u64 (endOf U n x)) ∧ w' = w := by
  go_enter Yba.func6, Yba.ntmps6
  go_wp2_with fail
  go_loopw [1] (fun t wr => ∃ y : Int, t = .int .u64 y ∧ 0 ≤ y ∧ y < 18446744073709551616 ∧ wr = w ∧ endOf U n y = endOf U n x) (fun t _ => (intOf t).toNat)
  case atStart => exact ⟨x, rfl, h0, h1, rfl, rfl⟩
  case round =>
    obtain ⟨y, rfl, y0, y1, rfl, he⟩ := hrel
    by_cases hy : 1 ≤ y ∧ y ≤ n
    · obtain ⟨k, rfl⟩ : ∃ k : Nat, y = (k : Int) + 1 := ⟨(y - 1).toNat, by omega⟩
      rcases hU with hz | ⟨b, off, rfl, hb, hcells⟩
      · omega
      obtain ⟨hc, u0, u1⟩ := hcells k (by omega)
      have hk : upOf U ((k : Int) + 1) = U k % ((k : Int) + 1) := by unfold upOf; congr 2; omega
      have hup := upOf_lt U hy.1
      rw [hk] at hup
      have HU := hide hup
      have hle : (k : Int) + 1 ≤ (n : Int) := hy.2
      have hlt : (k : Int) < (n : Int) := by omega
      have hne : ((k : Int) + 1 != 0) = true := by simp; omega
      clear hcells hup
      by_cases hu : U k % ((k : Int) + 1) = 0
      · have HE := hide ((endOf_top hy (hk.trans hu)).symm.trans he)
        clear HU he hk hy
        generalize U k = uy at *
        go_wp2_with fail
        go_ret
        exact ⟨congrArg (fun z => Ending.returned (.int .u64 z)) HE.out, rfl⟩
      · have HE := hide ((endOf_up hy (by rw [hk]; exact hu)).symm.trans he)
        rw [hk] at HE
        have hu' : (U k % ((k : Int) + 1) == 0) = false := by simp [hu]
        clear he hk hy hu
        generalize U k = uy at *
        go_wp2_with fail
        go_roundw
        case rel => exact ⟨uy % ((k : Int) + 1), rfl, HU.out.1, by have := HU.out.2; omega, trivial, HE.out⟩
        case measure => have h := HU.out; simp [intOf]; omega
    · have HE := hide ((endOf_out hy).symm.trans he)
      clear he
      by_cases hy0 : y = 0
      · subst hy0
        go_wp2_with fail
        go_ret
        exact ⟨congrArg (fun z => Ending.returned (.int .u64 z)) HE.out, rfl⟩
      · have hle : decide (y ≤ (n : Int)) = false := by simp; omega
        go_wp2_with fail
        go_ret
        exact ⟨congrArg (fun z => Ending.returned (.int .u64 z)) HE.out, rfl⟩

set_option maxRecDepth 100000 in
set_option maxHeartbeats 2000000 in
/-- 'zzs0170bown'. -/
theorem bown_any (a0 a1 : Option Addr) (n c0 nt c1 : Nat) (U : Nat → Int) (T : Nat → Bool) (x : Int) (w : World) (hn : n ≤ 1024) (hnt : nt ≤ 9223372036854775807) (h0 : 0 ≤ x) (h1 : x < 18446744073709551616) (hU : RowU w a0 n U) (hT : RowB w a1 nt T) :
    Calls Yba.prog 7 #[.slice a0 n c0, .slice a1 nt c1, .int .u64 x] w fun e w' => e = .returned (.int .u64 (ownOf U n nt T x)) ∧ w' = w := by
  go_enter Yba.func7, Yba.ntmps7
  go_wp2_with fail
  go_loopw [8] (fun t wr => ∃ y : Int, t = .int .u64 y ∧ 0 ≤ y ∧ y < 18446744073709551616 ∧ wr = w ∧ nearOf U n nt T y = nearOf U n nt T x) (fun t _ => (intOf t).toNat)
  case atStart => exact ⟨x, rfl, h0, h1, rfl, rfl⟩
  case round =>
    obtain ⟨y, rfl, y0, y1, rfl, he⟩ := hrel
    by_cases hy : 1 ≤ y ∧ y ≤ n
    · obtain ⟨k, rfl⟩ : ∃ k : Nat, y = (k : Int) + 1 := ⟨(y - 1).toNat, by omega⟩
      rcases hU with hz | ⟨b, off, rfl, hb, hcells⟩
      · omega
      obtain ⟨hc, u0, u1⟩ := hcells k (by omega)
      have hk : upOf U ((k : Int) + 1) = U k % ((k : Int) + 1) := by unfold upOf; congr 2; omega
      have hup := upOf_lt U hy.1
      rw [hk] at hup
      have HU := hide hup
      have hle : (k : Int) + 1 ≤ (n : Int) := hy.2
      have hlt : (k : Int) < (n : Int) := by omega
      have hne : ((k : Int) + 1 != 0) = true := by simp; omega
      have hkk : ((k : Int) + 1 - 1).toNat = k := by omega
      clear hcells hup
      by_cases htk : k < nt
      · rcases hT with h0 | ⟨b1, off1, rfl, hb1, hcells1⟩
        · omega
        have hct := hcells1 k htk
        clear hcells1
        have htk' : (k : Int) < (nt : Int) := by omega
        cases ht : T k with
        | true =>
          have HE := hide ((nearOf_yes hy (by rw [hkk]; simp [htk, ht])).symm.trans he)
          rw [ht] at hct
          have HN := hide hy
          clear he hk hy hkk ht
          generalize U k = uy at *
          go_wp2_with fail
          go_ret
          refine ⟨congrArg (fun z => Ending.returned (.int .u64 z)) ?_, rfl⟩
          unfold ownOf
          rw [← HE.out, if_neg (by omega)]
        | false =>
          have HE := hide ((nearOf_no hy (by rw [hkk]; simp [ht])).symm.trans he)
          rw [hk] at HE
          rw [ht] at hct
          clear he hk hy hkk ht
          generalize U k = uy at *
          go_wp2_with fail
          go_roundw
          case rel => exact ⟨uy % ((k : Int) + 1), rfl, HU.out.1, by have := HU.out.2; omega, trivial, HE.out⟩
          case measure => have h := HU.out; simp [intOf]; omega
      · have HE := hide ((nearOf_no hy (by rw [hkk]; simp [htk])).symm.trans he)
        rw [hk] at HE
        have htk' : decide ((k : Int) < (nt : Int)) = false := by simp; omega
        clear he hk hy hkk hT
        generalize U k = uy at *
        go_wp2_with fail
        go_roundw
        case rel => exact ⟨uy % ((k : Int) + 1), rfl, HU.out.1, by have := HU.out.2; omega, trivial, HE.out⟩
        case measure => have h := HU.out; simp [intOf]; omega
    · have HE := hide ((nearOf_out hy).symm.trans he)
      clear he
      by_cases hy0 : y = 0
      · subst hy0
        go_wp2_with fail
        go_ret
        refine ⟨congrArg (fun z => Ending.returned (.int .u64 z)) ?_, rfl⟩
        unfold ownOf
        rw [← HE.out, if_pos rfl]
      · have hle : decide (y ≤ (n : Int)) = false := by simp; omega
        go_wp2_with fail
        go_ret
        refine ⟨congrArg (fun z => Ending.returned (.int .u64 z)) ?_, rfl⟩
        unfold ownOf
        rw [← HE.out, if_pos rfl]

end Go.Proofs.Ybulkcmo
