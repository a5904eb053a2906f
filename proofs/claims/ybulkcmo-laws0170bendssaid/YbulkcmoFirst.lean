import Derived.Test.YbulkcmoEnds
import Derived.Deep.RegionWith
import Derived.OpenShut
namespace Go.Proofs.Ybulkcmo
open Go.ChangeShapes Go.WideShapes Go.ChangeAt Go.RowKit Go.Maps Go.Shelf
set_option linter.unusedVariables false

set_option maxRecDepth 100000 in
set_option maxHeartbeats 2000000 in
/-- 'endsFollowedLine' at its first call. -/
theorem ends_first (L Lt Bf Bt n nt ni : Nat) (U : Nat → Int) (T : Nat → Bool) (tests : Int → Option Value) (c id : Int) (w : World) (hn : n ≤ 1024) (hni : ni ≤ 1024) (hc0 : 0 ≤ c) (hc1 : c < 18446744073709551616) (h0 : 0 ≤ id) (h1 : id < 18446744073709551616)
    (hL : LinesAt w L c Lt Bf Bt (.map none) 0 false) (hMf : MapIs w Bf n (freshTo U nt T n)) (hMt : MapIs w Bt ni tests) :
    Calls Yba.prog 8 #[.pointer (some ⟨L, 0, none⟩), .int .u64 id] w fun e w' => ∃ be j f, e = .returned (.bool (f id).isSome) ∧ Hole L w.heap.size w w' ∧ w'.cell? ⟨L, 11, none⟩ = some (.map (some be)) ∧ MapIs w' be j f ∧ (∀ k v, f k = some v → v = .agg #[]) ∧
      ∀ q, (f q).isSome = true ↔ (q = endOf U n (ownOf U n nt T c) ∨ ∃ x : Int, 0 ≤ x ∧ x < 18446744073709551616 ∧ (tests x).isSome = true ∧ q = endOf U n x) := by
  have hnil := fun (w : World) => run_eql_map_nil (P := Yba.prog) w 32 24 31 none Yba.underlying32
  have hmm := @run_makeMap Yba.prog
  have k11 := hL.cell11
  have lL := hL.lt
  have lLt := hL.ltT
  have lBf := hMf.lt
  have lBt := hMt.lt
  have dBf := hMf.ne hL.block
  have dBt := hMt.ne hL.block
  have tBf := hMf.ne hL.tree
  have tBt := hMt.ne hL.tree
  have dLt := hL.ne
  have hb0 : Below w.heap.size w (w.alloc (.map #[] 0)) := (Below.refl _ _).alloc (Nat.le_refl _) _
  have hcall := callers_any L Lt Bf Bt n nt (.map none) U T c _ hn hc0 hc1 (hL.later hb0) (hMf.later hb0)
  have hon := nearOf_bounds U n nt T c.toNat c (Nat.le_refl _)
  have hob : 0 ≤ ownOf U n nt T c ∧ ownOf U n nt T c < 18446744073709551616 := by
    unfold ownOf
    split <;> omega
  have hE := endOf_bounds U n _ (ownOf U n nt T c) (Nat.le_refl _) hob.1
  have HS := hide (And.intro hMf (And.intro hMt (And.intro hob hE)))
  clear hL hMf hMt hob hon hE
  go_enter Yba.func8, Yba.ntmps8
  go_wp2_with fail
  refine hcall.mono ?_
  rintro e w1 ⟨rfl, hh1, own, unk, hL1⟩
  obtain ⟨hMf, hMt, hob, hE⟩ := HS.out
  have hMf1 : MapIs w1 Bf n (freshTo U nt T n) := (hMf.later hb0).of_block (hh1.block Bf (by simp; omega) dBf)
  have hMt1 : MapIs w1 Bt ni tests := (hMt.later hb0).of_block (hh1.block Bt (by simp; omega) dBt)
  have hMe1 : MapIs w1 w.heap.size 0 (fun _ => none) := (MapIs.made w).of_block (hh1.block w.heap.size (by simp) (by omega))
  have hcall2 := lineEnd_any L Lt Bf n nt U T (ownOf U n nt T c) w1 hn hob.1 hob.2 (hL1.tied hMf1)
  have HS1 := hide (And.intro hh1 (And.intro hL1 (And.intro hMf1 (And.intro hMt1 (And.intro hMe1 (And.intro hob hE))))))
  clear hcall hMf hMt hob hE hMf1 hMt1 hMe1 hh1 hL1 HS hb0
  go_wp2_with fail
  refine hcall2.mono ?_
  rintro e w2 ⟨rfl, hb2⟩
  obtain ⟨hh1, hL1, hMf1, hMt1, hMe1, hob, hE⟩ := HS1.out
  have s1 := hh1.size
  have s2 := hb2.size
  simp at s1
  obtain ⟨w3, hrun, hMe3, hturn⟩ := MapIs.store (t := 32) (hMe1.later hb2) Yba.underlying32 (by unfold maxLen; omega) (k := endOf U n (ownOf U n nt T c)) (by omega) (by omega) (.agg #[])
  have hh3 := Hole.turned hturn
  have hL3 := (hL1.later hb2).hole hh3 (by omega) (by omega) (by omega) (by omega)
  have hMf3 := (hMf1.later hb2).of_block (hh3.block Bf (by omega) (by omega))
  have hMt3 := (hMt1.later hb2).of_block (hh3.block Bt (by omega) (by omega))
  have k11 := hL3.cell11
  have f11 := hL3.free 11
  have s3 := hh3.size
  obtain ⟨W, hW⟩ : ∃ W, W = w3.setCell ⟨L, 11, none⟩ (.map (some w.heap.size)) := ⟨_, rfl⟩
  have hLW : LinesAt W L c Lt Bf Bt (.map (some w.heap.size)) own unk := by rw [hW]; exact hL3.set11 _
  have hhW : Hole L w.heap.size w W := by
    rw [hW]
    have a1 : Hole L w.heap.size w (w.alloc (.map #[] 0)) := Hole.alloc _ _ _ (Nat.le_refl _)
    have a2 : Hole L w.heap.size (w.alloc (.map #[] 0)) w1 := hh1.mono (by simp)
    have a3 : Hole L w.heap.size w1 w2 := (Hole.of_below hb2).mono (by omega)
    have a4 : Hole L w.heap.size w2 w3 := Hole.of_below (hh3.below (B0 := w.heap.size) (by omega) (Nat.le_refl _))
    exact (((a1.trans a2).trans a3).trans a4).trans (Hole.setCell _ _ _ _ _)
  have hbW : ∀ b, b ≠ L → W.heap[b]? = w3.heap[b]? := fun b hb => by rw [hW]; exact Below.heap_setCell _ _ _ _ hb
  have hMfW := hMf3.of_block (hbW Bf dBf)
  have hMtW := hMt3.of_block (hbW Bt dBt)
  have hMeW : MapIs W w.heap.size 1 (oneKey (endOf U n (ownOf U n nt T c))) := hMe3.of_block (hbW _ (by omega))
  have HS2 := hide (And.intro hLW (And.intro hhW (And.intro hMfW (And.intro hMtW hMeW))))
  clear hcall2 HS1 hh1 hL1 hMf1 hMt1 hMe1 hob hE hh3 hL3 hMf3 hMt3 hLW hhW hbW hMfW hMtW hMeW hMe3 hturn hb2 s1 s2
  generalize hE0 : endOf U n (ownOf U n nt T c) = e0 at *
  have HE0 := hide hE0
  clear hE0
  obtain ⟨hLW, hhW, hMfW, hMtW, hMeW⟩ := HS2.out
  obtain ⟨D, hown, hD⟩ := hMtW
  rw [hW] at hown
  have k4 : (w3.setCell ⟨L, 11, none⟩ (.map (some w.heap.size))).cell? ⟨L, 4, none⟩ = some (.map (some Bt)) := by rw [← hW, Joins.cell_of_block hLW.block]; rfl
  have HD := hide hD
  have HW := hide hW
  clear hLW hhW hMfW hMeW hW hD
  go_wp2_with (first
    | (at_range; refine wpList_range_own _ rfl _ 36 rfl 24 55 law24 Yba.underlying36 _ Bt ni _ rfl hown ?_; intro w0 hrg0 hg0 hs0)
    | fail)
  go_frame
  have hW := HW.out
  rw [← hW] at hrg0 hg0 hs0 ⊢
  have hsz := size_le hrg0.owns
  clear hW HW k4 hown hrun k11 f11 s3 hmm
  have lW : w.heap.size < W.heap.size := HS2.out.2.2.2.2.lt
  go_loopw [] (fun wr => ∃ (left : Lit → Bool) (cnt j : Nat) (f : Int → Option Value), wr.ranges Yba.prog 24 vR Bt W.heap.size ni D left cnt ∧ MapIs wr w.heap.size j f ∧ j + cnt ≤ 1 + ni ∧ EndsIs U n e0 D left f ∧ Hole w.heap.size W.heap.size W wr)
    (fun wr => wr.rangeLeft Bt W.heap.size)
  case atStart =>
    obtain ⟨hLW, hhW, hMfW, hMtW, hMeW⟩ := HS2.out
    have hh : Hole w.heap.size W.heap.size W w0 := ⟨hg0.os, hg0.tape, hg0.output, hg0.size, fun j h1 h2 => hg0.block j h1 (by simp)⟩
    exact ⟨_, _, 1, _, hrg0, hMeW.of_block (hg0.block _ lW (by simp)), by omega, EndsIs.start U n e0 D, hh⟩
  case round =>
    obtain ⟨left, cnt, j, f, hrg, hMe, hjc, hEnds, hhr⟩ := hrel
    obtain ⟨hLW, hhW, hMfW, hMtW, hMeW⟩ := HS2.out
    have hsw := hhW.size
    have hLr := hLW.hole hhr (by omega) (by omega) (by omega) (by omega)
    have hMfr := hMfW.of_block (hhr.block Bf (by omega) (by omega))
    have k11 := hLr.cell11
    have HR := hide (And.intro hMe (And.intro hEnds (And.intro hhr (And.intro hLr hMfr))))
    have hlk0 := hMe.look (t := 32) Yba.underlying32 (zero31 wr) h0 h1
    have hz : (f id).getD (.agg #[]) = .agg #[] := by
      cases h : f id with
      | none => rfl
      | some v => exact hEnds.1 id v h
    rw [hz] at hlk0
    clear hLW hhW hMfW hMtW hMeW hLr hMfr hMe hEnds hhr hz hrg0 hg0 hs0
    go_wp2_with (first
      | (at_next; refine wpList_next_ranges _ rfl _ rfl 24 law24 vR (Value.int .u64) (fun v : Value => v) (fun key kl hkey => by obtain ⟨x, rfl, _⟩ := Maps.keyOf_int_inv Yba.underlying24 hkey; exact ⟨x, rfl⟩) (fun v y hv => ⟨v, rfl⟩) Bt W.heap.size ni _ _ _ rfl hrg ?_ ?_)
      | fail)
    · intro _ hl0
      obtain ⟨b, hb⟩ : ∃ b, b = (f id).isSome := ⟨_, rfl⟩
      rw [← hb] at hlk0
      have HB := hide hb
      clear hb hrg
      go_wp2_with fail
      go_ret
      obtain ⟨hMe, hEnds, hhr, hLr, hMfr⟩ := HR.out
      have hsr := hhr.size
      have hbA : Below wr.heap.size wr (wr.alloc (.cells #[] 31)) := (Below.refl _ _).alloc (Nat.le_refl _) _
      refine ⟨w.heap.size, j, f, by rw [← HB.out]; rfl, ?_, (hLr.later hbA).cell11, hMe.later hbA, hEnds.1, fun q => ?_⟩
      · exact (HS2.out.2.1.trans (Hole.of_below (hhr.below (by omega) (Nat.le_refl _)))).trans (Hole.of_below (hbA.mono (by omega)))
      · rw [hEnds.2 q, HE0.out]
        have hD := HD.out
        constructor
        · rintro (h | ⟨x, x0, x1, hx, _, hq⟩)
          · exact .inl h
          · refine .inr ⟨x, x0, x1, ?_, hq⟩
            cases ht : tests x with
            | none => rw [(hD x x0 x1).1 ht] at hx; cases hx
            | some v => rfl
        · rintro (h | ⟨x, x0, x1, hx, hq⟩)
          · exact .inl h
          · refine .inr ⟨x, x0, x1, ?_, hl0 _, hq⟩
            obtain ⟨v, ht⟩ := Option.isSome_iff_exists.1 hx
            exact has_true_of_atKey ((hD x x0 x1).2 v ht)
    · intro x cv kl y ps w4 cnt1 hkey hlk hv hat hrg1 hlt hg1 hs1 hen
      obtain ⟨x', ex, rfl, hwx⟩ := Maps.keyOf_int_inv Yba.underlying24 hkey
      cases ex
      have hbx := bounds_u64 hwx
      have hy : y = .held cv := by simp [vR] at hv; exact hv.1.symm
      have hdx : Maps.has D (.int .u64 x) = true := has_true_of_atKey (fun z => (hat z).trans hy)
      have hrl := hrg.left_eq
      have hr4 := hrg1.lt
      obtain ⟨hMe, hEnds, hhr, hLr, hMfr⟩ := HR.out
      have hsr := hhr.size
      have hblk : ∀ b, b < wr.heap.size → b ≠ W.heap.size → w4.heap[b]? = wr.heap[b]? := fun b hb hne => hg1.block b hb (fun e => by cases e; exact hne rfl)
      have hh4 : Hole w.heap.size W.heap.size W w4 := hhr.trans ⟨hg1.os, hg1.tape, hg1.output, hg1.size, fun b h1 _ => hblk b (by omega) (by omega)⟩
      have hL4 : LinesAt w4 L c Lt Bf Bt (.map (some w.heap.size)) own unk := ⟨(hblk L (by omega) (by omega)).trans hLr.block, (hblk Lt (by omega) (by omega)).trans hLr.tree⟩
      have hMf4 := hMfr.of_block (hblk Bf (by omega) (by omega))
      have hMe4 := hMe.of_block (hblk w.heap.size (by omega) (by omega))
      have k4 := hL4.cell11
      have hT4 := hL4.tied hMf4
      have hEx := endOf_bounds U n _ x (Nat.le_refl _) (by omega)
      have hcall : Calls Yba.prog 9 #[.pointer (some ⟨L, 0, none⟩), .int .u64 x] w4.drew fun e w5 => e = .returned (.int .u64 (endOf U n x)) ∧ w5.cell? ⟨L, 11, none⟩ = some (.map (some w.heap.size)) ∧
          ∃ w6, (Instr.mapUpdate 32 (.map (some w.heap.size)) (.int .u64 (endOf U n x)) (.agg #[])).run Yba.prog w5 = .ok () w6 ∧
            Hid (MapIs w6 w.heap.size (j + 1) (fun k' => if k' = endOf U n x then some (.agg #[]) else f k') ∧ Hole w.heap.size W.heap.size W w6 ∧ w6.ranges Yba.prog 24 vR Bt W.heap.size ni D (fun z => left z && !z.sameKey (.int .u64 x)) cnt1) := by
        refine (lineEnd_any L Lt Bf n nt U T x w4.drew hn (by omega) (by omega) ⟨hT4.c1, hT4.c3, hT4.t1, hT4.m.of_block rfl⟩).mono ?_
        rintro e w5 ⟨rfl, hb5⟩
        have s5 : w4.heap.size ≤ w5.heap.size := hb5.size
        have hb5' : ∀ b, b < w4.heap.size → w5.heap[b]? = w4.heap[b]? := fun b hb => hb5.block b hb
        obtain ⟨w6, hrun, hM6, hturn⟩ := MapIs.store (t := 32) (hMe4.of_block (hb5' _ (by omega))) Yba.underlying32 (by unfold maxLen; omega) (k := endOf U n x) (by omega) (by omega) (.agg #[])
        have hh6 := Hole.turned hturn
        have hB5 : Below W.heap.size w4 w5 := ⟨hb5.os, hb5.tape, hb5.output, s5, fun b hb => hb5' b (by omega)⟩
        refine ⟨rfl, ?_, w6, hrun, hM6, (hh4.trans (Hole.of_below hB5)).trans (hh6.mono (by omega)), ranges_blocks hrg1 ?_ ?_⟩
        · rw [hB5.cell (p := ⟨L, 11, none⟩) (by show L < W.heap.size; omega)]; exact k4
        · rw [hh6.block Bt (by omega) (by omega)]; exact hb5' _ (by omega)
        · rw [hh6.block W.heap.size (by omega) (by omega)]; exact hb5' _ (by omega)
      have HE := hide (hEnds.step (by omega) (by omega) hdx)
      clear hMe hEnds hhr hLr hMfr hblk hh4 hL4 hMf4 hMe4 hT4 hEx HR hlk0 hv hy hdx hat hlk hkey hg1 hrg hrg1
      generalize endOf U n x = ex at *
      go_wp2_with fail
      go_region_with (go_at_call 9; refine hcall.mono ?_; rintro e w5 ⟨rfl, hc5, w6, hrun6, HX6⟩)
      all_goals (
        go_wp2_with fail
        go_roundw
        case rel =>
          obtain ⟨hM6, hh6, hrg6⟩ := HX6.out
          exact ⟨_, cnt1, j + 1, _, hrg6, hM6, by omega, HE.out, hh6⟩
        case measure => rw [HX6.out.2.2.left_eq, hrl]; exact hlt)
end Go.Proofs.Ybulkcmo
