import Derived.Test.YbulkcmoEnd
namespace Go.Proofs.Ybulkcmo
open Go.ChangeShapes Go.WideShapes Go.ChangeAt Go.RowKit Go.Maps Go.Shelf
set_option linter.unusedVariables false
attribute [local go_sem] Oper.semAt_some

theorem four {w : World} {o1 o2 o3 o4 : Obj} {W : World} (e : W = (((w.alloc o1).alloc o2).alloc o3).alloc o4) : W.heap[w.heap.size]? = some o1 ∧ W.heap[w.heap.size + 1]? = some o2 ∧ W.heap[w.heap.size + 2]? = some o3 ∧ W.heap[w.heap.size + 3]? = some o4 ∧ W.heap.size = w.heap.size + 4 ∧ Below w.heap.size w W := by
  obtain ⟨W3, h3⟩ : ∃ W3, W3 = ((w.alloc o1).alloc o2).alloc o3 := ⟨_, rfl⟩
  rw [← h3] at e
  obtain ⟨b1, b2, b3, hsz, hbel⟩ := three h3
  subst e
  refine ⟨(Below.heap_alloc _ _ _ (by omega)).trans b1, (Below.heap_alloc _ _ _ (by omega)).trans b2, (Below.heap_alloc _ _ _ (by omega)).trans b3, ?_, by simp [hsz], hbel.alloc hbel.size _⟩
  rw [← hsz]; exact heap_last _ _

set_option maxRecDepth 100000 in
set_option maxHeartbeats 2000000 in
theorem nearest_in (F : Fence) (m : Nat) (hF : ∀ f, F.fn f) (hc : ∀ m f args w R, Calls Yba.prog f args w R → CallsIn F m Yba.prog f args w R) (hro : F.round = none) (hm : 4 ≤ m)
    (L Lt Bf n nt : Nat) (U : Nat → Int) (T : Nat → Bool) (x : Int) (w : World) (hn : n ≤ 1024) (h0 : 0 ≤ x) (h1 : x < 18446744073709551616) (hT : Tied w L Lt Bf n (freshTo U nt T n)) :
    CallsIn F m Yba.prog 12 #[.pointer (some ⟨L, 0, none⟩), .int .u64 x, .func (.func 13) #[.pointer (some ⟨L, 0, none⟩)] #[]] w fun e w' => e = .returned (.int .u64 (nearOf U n nt T x)) ∧ Below w.heap.size w w' := by
  have hm1 : 1 ≤ m := by omega
  have hf11 := hF 11
  have hf13 := hF 13
  refine callsIn_of_wp_marks Yba.func12 rfl (hF 12) ?_ hro
  simp only [Yba.ntmps12, List.size_toArray, List.length_cons, List.length_nil, Nat.reduceAdd, Nat.reduceSub, Array.replicate_succ, Array.replicate_zero, List.push_toArray, List.append_toArray, List.nil_append, List.cons_append]
  have HT := hide hT
  have HC := hide hc
  clear hT hc
  gi_wp2
  refine (HC.out _ _ _ _ _ (line_any L x _)).mono ?_
  rintro e W ⟨rfl, hW⟩
  obtain ⟨b0, b1, b2, b3, hsz, hbel⟩ := four hW
  clear hW
  simp only [World.size_alloc]
  have HB := hide (And.intro b0 (And.intro b1 (And.intro b2 (And.intro b3 (And.intro hsz hbel)))))
  clear b0 b1 b2 b3 hsz hbel
  gi_wp2
  obtain ⟨b0, b1, b2, b3, hsz, hbel⟩ := HB.out
  have hT := HT.out
  have lL := hT.ltL
  have lLt := hT.ltT
  have lBf := hT.m.lt
  have hole : ∀ {A B : World}, Below w.heap.size w A → Hole (w.heap.size + 1 + 1 + 1) W.heap.size A B → Below w.heap.size w B := fun hA hh => hA.trans (hh.below (by omega) (by omega))
  have cellM : ∀ {A B : World} {v : Value}, A.cell? ⟨w.heap.size, 0, none⟩ = some v → Hole (w.heap.size + 1 + 1 + 1) W.heap.size A B → B.cell? ⟨w.heap.size, 0, none⟩ = some v := fun hA hh =>
    (hh.cell (p := ⟨w.heap.size, 0, none⟩) (by show w.heap.size < W.heap.size; omega) (by show w.heap.size ≠ _; omega)).trans hA
  have cellK : ∀ {A B : World} {v : Value}, (A.cell? ⟨w.heap.size + 1, 0, none⟩ = some v ∧ A.frozen? ⟨w.heap.size + 1, 0, none⟩ = false) → Hole (w.heap.size + 1 + 1 + 1) W.heap.size A B → B.cell? ⟨w.heap.size + 1, 0, none⟩ = some v ∧ B.frozen? ⟨w.heap.size + 1, 0, none⟩ = false := fun hA hh =>
    ⟨(hh.cell (p := ⟨w.heap.size + 1, 0, none⟩) (by show w.heap.size + 1 < W.heap.size; omega) (by show w.heap.size + 1 ≠ _; omega)).trans hA.1, (hh.frozen (p := ⟨w.heap.size + 1, 0, none⟩) (by show w.heap.size + 1 < W.heap.size; omega) (by show w.heap.size + 1 ≠ _; omega)).trans hA.2⟩
  refine range_line hro (hF 15) (hF 16) (fun m args w R h => HC.out m 16 args w R h) (by omega) (w.heap.size + 1 + 1 + 1) (w.heap.size + 1 + 1) L Lt Bf n nt (w.heap.size + 1) U T hn (by omega) (by omega) (by omega) (by omega) (by omega) (by omega) (by omega) (by omega) (by omega) (by omega)
    rfl rfl x h0 h1 (hT.hole (Hole.of_below (k := w.heap.size) hbel) lL lLt lBf (by omega) (by omega) (by omega)) (cell0 b3) (Joins.unfrozen_of_block b3 0) (cell0 b2)
    (fun y A => A.cell? ⟨w.heap.size, 0, none⟩ = some (.func (.func 13) #[.pointer (some ⟨L, 0, none⟩)] #[]) ∧ (A.cell? ⟨w.heap.size + 1, 0, none⟩ = some (.int .u64 0) ∧ A.frozen? ⟨w.heap.size + 1, 0, none⟩ = false) ∧ nearOf U n nt T y = nearOf U n nt T x ∧ Below w.heap.size w A)
    (fun y A => A.cell? ⟨w.heap.size, 0, none⟩ = some (.func (.func 13) #[.pointer (some ⟨L, 0, none⟩)] #[]) ∧ (A.cell? ⟨w.heap.size + 1, 0, none⟩ = some (.int .u64 0) ∧ A.frozen? ⟨w.heap.size + 1, 0, none⟩ = false) ∧ ((y ≤ n → nearOf U n nt T (upOf U y) = nearOf U n nt T x) ∧ ((n : Int) < y → nearOf U n nt T x = 0)) ∧ Below w.heap.size w A)
    (fun A => (A.cell? ⟨w.heap.size + 1, 0, none⟩ = some (.int .u64 0) ∧ A.frozen? ⟨w.heap.size + 1, 0, none⟩ = false) ∧ nearOf U n nt T x = 0 ∧ Below w.heap.size w A)
    (fun A => (A.cell? ⟨w.heap.size + 1, 0, none⟩ = some (.int .u64 (nearOf U n nt T x)) ∧ A.frozen? ⟨w.heap.size + 1, 0, none⟩ = false) ∧ Below w.heap.size w A)
    ?_ ?_ ?_ ?_ ?_ ?_ ?_ ?_
    (fun y => { tmps := #[.pointer (some ⟨L, 0, none⟩), .int .u64 x, .func (.func 13) #[.pointer (some ⟨L, 0, none⟩)] #[], undef, undef, .pointer (some ⟨w.heap.size, 0, none⟩), .pointer (some ⟨w.heap.size + 1, 0, none⟩), .int .u64 y, .pointer (some ⟨L, 0, none⟩), .int .u64 x, .func (.func 15) #[] #[.pointer (some ⟨w.heap.size + 1 + 1 + 1, 0, none⟩), .pointer (some ⟨w.heap.size + 1 + 1, 0, none⟩)], .int .u64 y, undef, undef, undef, undef], defers := [] }) ?assign ?body ?done ?stop
  · rintro y A B ⟨hm, hA, hd, hb⟩ hh
    exact ⟨cellM hm hh, cellK hA hh, hd, hole hb hh⟩
  · rintro y A B ⟨hm, hA, hd, hb⟩ hh
    exact ⟨cellM hm hh, cellK hA hh, hd, hole hb hh⟩
  · rintro A B ⟨hA, hd, hb⟩ hh
    exact ⟨cellK hA hh, hd, hole hb hh⟩
  · rintro A B ⟨hA, hb⟩ hh
    exact ⟨cellK hA hh, hole hb hh⟩
  · rintro y A hy1 hyn ⟨hm, hA, hd, hb⟩
    exact ⟨hm, hA, hd.1 hyn, hb⟩
  · rintro y A hyn ⟨hm, hA, hd, hb⟩
    exact ⟨hA, hd.2 hyn, hb⟩
  · rintro A ⟨hm, hA, hd, hb⟩
    exact ⟨hA, by rw [← hd]; exact nearOf_out (by omega), hb⟩
  · exact ⟨cell0 b0, ⟨cell0 b1, Joins.unfrozen_of_block b1 0⟩, rfl, hbel⟩
  case assign =>
    intro l y A K hK
    gi_wp2
    exact hK
  case body =>
    rintro l y A ⟨hcm, ⟨hc1, hf1⟩, hd, hb⟩ hy1 hy2 hTA hsA
    have hm2 : 1 ≤ m - 1 - 1 := by omega
    clear cellK hole b0 b1 b2 b3 hbel hT cellM
    by_cases hyn : y ≤ n
    · obtain ⟨k, rfl⟩ : ∃ k : Nat, y = (k : Int) + 1 := ⟨(y - 1).toNat, by omega⟩
      have hf : freshTo U nt T n ((k : Int) + 1) = some (.agg #[.int .u64 (U k % ((k : Int) + 1)), .int .u64 0, .bool (decide (k < nt) && T k)]) := by
        unfold freshTo
        rw [if_pos (by omega)]
        have e1 : ((k : Int) + 1 - 1).toNat = k := by omega
        rw [e1]; rfl
      have hkk : ((k : Int) + 1 - 1).toNat = k := by omega
      have hcall := linksTo_some L Lt Bf n _ _ _ _ _ A (by omega) (by omega) hTA hf
      have hyes : (decide (k < nt) && T k) = true → nearOf U n nt T x = (k : Int) + 1 := fun h => by rw [← hd]; exact nearOf_yes ⟨hy1, hyn⟩ (by rw [hkk]; exact h)
      have hno : (decide (k < nt) && T k) = false → nearOf U n nt T (upOf U ((k : Int) + 1)) = nearOf U n nt T x := fun h => by rw [← hd]; exact (nearOf_no ⟨hy1, hyn⟩ (by rw [hkk]; exact h)).symm
      generalize (decide (k < nt) && T k) = tk at *
      have HX := hide (And.intro hb (And.intro hyes hno))
      clear hb hd hTA hyes hno hf hkk
      gi_wp2
      refine (CallsIn.inRound l (HC.out _ _ _ _ _ hcall)).mono ?_
      rintro e A2 ⟨rfl, hb2⟩
      have hc2 := (hb2.cell (p := ⟨w.heap.size + 1, 0, none⟩) (by show w.heap.size + 1 < A.heap.size; omega)).trans hc1
      have hf2 := (hb2.frozen (p := ⟨w.heap.size + 1, 0, none⟩) (by show w.heap.size + 1 < A.heap.size; omega)).trans hf1
      have hcm2 := (hb2.cell (p := ⟨w.heap.size, 0, none⟩) (by show w.heap.size < A.heap.size; omega)).trans hcm
      have HY := hide (And.intro hb2 (And.intro (HX.out.1.trans (hb2.mono (by omega))) HX.out.2))
      clear hb2 hcall HX hc1 hf1 hcm
      cases tk with
      | true =>
        gi_wp2
        obtain ⟨hb2, hbA, hyes, _⟩ := HY.out
        exact ⟨(Hole.of_below hb2).trans (Hole.setCell _ _ _ _ _), ⟨by rw [hyes trivial]; exact World.cell?_setCell_same _ _ _ hc2, by rw [World.frozen?_setCell]; exact hf2⟩, hbA.setCell (p := ⟨w.heap.size + 1, 0, none⟩) (by simp) _⟩
      | false =>
        gi_wp2
        obtain ⟨hb2, hbA, _, hno⟩ := HY.out
        exact ⟨Hole.of_below hb2, hcm2, ⟨hc2, hf2⟩, ⟨fun _ => hno trivial, fun h => by omega⟩, hbA⟩
    · have hf : freshTo U nt T n y = none := by unfold freshTo; rw [if_neg (by omega)]
      have hcall := linksTo_none L Lt Bf n _ _ A (by omega) (by omega) hTA hf
      have hz : nearOf U n nt T x = 0 := by rw [← hd]; exact nearOf_out (by omega)
      have HX := hide (And.intro hb hz)
      clear hb hd hTA hf hz
      gi_wp2
      refine (CallsIn.inRound l (HC.out _ _ _ _ _ hcall)).mono ?_
      rintro e A2 ⟨rfl, hb2⟩
      have hc2 := (hb2.cell (p := ⟨w.heap.size + 1, 0, none⟩) (by show w.heap.size + 1 < A.heap.size; omega)).trans hc1
      have hf2 := (hb2.frozen (p := ⟨w.heap.size + 1, 0, none⟩) (by show w.heap.size + 1 < A.heap.size; omega)).trans hf1
      have hcm2 := (hb2.cell (p := ⟨w.heap.size, 0, none⟩) (by show w.heap.size < A.heap.size; omega)).trans hcm
      have HY := hide (And.intro hb2 (And.intro (HX.out.1.trans (hb2.mono (by omega))) HX.out.2))
      clear hb2 hcall HX hc1 hf1 hcm
      gi_wp2
      obtain ⟨hb2, hbA, hz⟩ := HY.out
      exact ⟨Hole.of_below hb2, hcm2, ⟨hc2, hf2⟩, ⟨fun h => by omega, fun _ => hz⟩, hbA⟩
  case done =>
    rintro D A hD ⟨⟨hc1, hf1⟩, hz, hb⟩ hK
    have HX := hide (And.intro hb hz)
    have HK := hide hK
    clear hb cellK hole b1 b2 b3 hbel hT hK hz b0 cellM
    gi_wp2
    have hK2 : (A.setCell ⟨w.heap.size + 1, 0, none⟩ (.int .u64 0)).heap[D]? = some (.deferred (some [])) := (Below.heap_setCell _ _ _ _ (by show D ≠ w.heap.size + 1; omega)).trans HK.out
    refine ⟨by simp, .inl ⟨_, _, rfl, run_takeDeferred hK2, ?_⟩⟩
    have hh := Hole.putObj (w.heap.size + 7) (N := w.heap.size + 2) (A.setCell ⟨w.heap.size + 1, 0, none⟩ (.int .u64 0)) D (.deferred none) (by omega)
    have hc5 := (hh.cell (p := ⟨w.heap.size + 1, 0, none⟩) (by show w.heap.size + 1 < _; omega) (by show w.heap.size + 1 ≠ _; omega)).trans (World.cell?_setCell_same _ _ _ hc1)
    refine ⟨.int .u64 0, ?_, by rw [HX.out.2], (HX.out.1.setCell (p := ⟨w.heap.size + 1, 0, none⟩) (by simp) _).trans (hh.below (by omega) (by omega))⟩
    simp [results, Yba.f12, go_sem, hc5]
  case stop =>
    rintro D A hD ⟨⟨hc1, hf1⟩, hb⟩ hK
    clear cellK hole b1 b2 b3 hbel hT b0 cellM
    gi_wp2
    refine ⟨by simp, .inl ⟨_, _, rfl, run_takeDeferred hK, ?_⟩⟩
    have hh := Hole.putObj (w.heap.size + 7) (N := w.heap.size + 2) A D (.deferred none) (by omega)
    have hc5 := (hh.cell (p := ⟨w.heap.size + 1, 0, none⟩) (by show w.heap.size + 1 < _; omega) (by show w.heap.size + 1 ≠ _; omega)).trans hc1
    refine ⟨.int .u64 (nearOf U n nt T x), ?_, rfl, hb.trans (hh.below (by omega) (by omega))⟩
    simp [results, Yba.f12, go_sem, hc5]
end Go.Proofs.Ybulkcmo
