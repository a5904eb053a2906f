import Derived.Test.YbulkcmoRange
namespace Go.Proofs.Ybulkcmo
open Go.ChangeShapes Go.WideShapes Go.ChangeAt Go.RowKit Go.Maps Go.Shelf
set_option linter.unusedVariables false
attribute [local go_sem] Oper.semAt_some

set_option maxRecDepth 100000 in
set_option maxHeartbeats 1000000 in
theorem line_any (L : Nat) (x : Int) (w : World) :
    Calls Yba.prog 11 #[.pointer (some ⟨L, 0, none⟩), .int .u64 x] w fun e w' => e = .returned (.func (.func 15) #[] #[.pointer (some ⟨w.heap.size + 1, 0, none⟩), .pointer (some ⟨w.heap.size, 0, none⟩)]) ∧ w' = (w.alloc (.cells #[.pointer (some ⟨L, 0, none⟩)] 25)).alloc (.cells #[.int .u64 x] 24) := by
  go_enter Yba.func11, Yba.ntmps11
  go_wp2_with fail
  go_ret
  exact ⟨rfl, rfl⟩

/-- A cell of a block. -/
theorem cell0 {w : World} {b : Nat} {v : Value} {t : TypeId} (h : w.heap[b]? = some (.cells #[v] t (0, 0))) : w.cell? ⟨b, 0, none⟩ = some v := by rw [Joins.cell_of_block h]; rfl

theorem heap_last (w : World) (o : Obj) : (w.alloc o).heap[w.heap.size]? = some o := by
  show (w.heap.push _)[_]? = _
  rw [Array.getElem?_push, if_pos rfl]

theorem three {w : World} {o1 o2 o3 : Obj} {W : World} (e : W = ((w.alloc o1).alloc o2).alloc o3) : W.heap[w.heap.size]? = some o1 ∧ W.heap[w.heap.size + 1]? = some o2 ∧ W.heap[w.heap.size + 2]? = some o3 ∧ W.heap.size = w.heap.size + 3 ∧ Below w.heap.size w W := by
  subst e
  refine ⟨?_, ?_, ?_, by simp, (((Below.refl _ w).alloc (Nat.le_refl _) _).alloc (by simp) _).alloc (by simp; omega) _⟩
  · rw [Below.heap_alloc _ _ _ (by simp; omega), Below.heap_alloc _ _ _ (by simp)]; exact heap_last _ _
  · rw [Below.heap_alloc _ _ _ (by simp)]; have := heap_last (w.alloc o1) o2; rwa [World.size_alloc] at this
  · have := heap_last ((w.alloc o1).alloc o2) o3; simpa using this

set_option maxRecDepth 100000 in
set_option maxHeartbeats 2000000 in
theorem lineEnd_in (F : Fence) (m : Nat) (hF : ∀ f, F.fn f) (hc : ∀ m f args w R, Calls Yba.prog f args w R → CallsIn F m Yba.prog f args w R) (hro : F.round = none) (hm : 4 ≤ m)
    (L Lt Bf n nt : Nat) (U : Nat → Int) (T : Nat → Bool) (x : Int) (w : World) (hn : n ≤ 1024) (h0 : 0 ≤ x) (h1 : x < 18446744073709551616) (hT : Tied w L Lt Bf n (freshTo U nt T n)) :
    CallsIn F m Yba.prog 9 #[.pointer (some ⟨L, 0, none⟩), .int .u64 x] w fun e w' => e = .returned (.int .u64 (endOf U n x)) ∧ Below w.heap.size w w' := by
  have hm1 : 1 ≤ m := by omega
  have hf11 := hF 11
  refine callsIn_of_wp_marks Yba.func9 rfl (hF 9) ?_ hro
  simp only [Yba.ntmps9, List.size_toArray, List.length_cons, List.length_nil, Nat.reduceAdd, Nat.reduceSub, Array.replicate_succ, Array.replicate_zero, List.push_toArray, List.append_toArray, List.nil_append, List.cons_append]
  have HT := hide hT
  have HC := hide hc
  clear hT hc
  gi_wp2
  refine (HC.out _ _ _ _ _ (line_any L x _)).mono ?_
  rintro e W ⟨rfl, hW⟩
  obtain ⟨b1, b2, b3, hsz, hbel⟩ := three hW
  clear hW
  rw [World.size_alloc]
  have HB := hide (And.intro b1 (And.intro b2 (And.intro b3 (And.intro hsz hbel))))
  clear b1 b2 b3 hsz hbel
  gi_wp2
  obtain ⟨b1, b2, b3, hsz, hbel⟩ := HB.out
  have hT := HT.out
  have lL := hT.ltL
  have lLt := hT.ltT
  have lBf := hT.m.lt
  have hole : ∀ {A B : World}, Below w.heap.size w A → Hole (w.heap.size + 1 + 1) W.heap.size A B → Below w.heap.size w B := fun hA hh => hA.trans (hh.below (by omega) (by omega))
  have cellK : ∀ {A B : World} {v : Value}, (A.cell? ⟨w.heap.size, 0, none⟩ = some v ∧ A.frozen? ⟨w.heap.size, 0, none⟩ = false) → Hole (w.heap.size + 1 + 1) W.heap.size A B → B.cell? ⟨w.heap.size, 0, none⟩ = some v ∧ B.frozen? ⟨w.heap.size, 0, none⟩ = false := fun hA hh =>
    ⟨(hh.cell (p := ⟨w.heap.size, 0, none⟩) (by show w.heap.size < W.heap.size; omega) (by show w.heap.size ≠ _; omega)).trans hA.1, (hh.frozen (p := ⟨w.heap.size, 0, none⟩) (by show w.heap.size < W.heap.size; omega) (by show w.heap.size ≠ _; omega)).trans hA.2⟩
  refine range_line hro (hF 15) (hF 16) (fun m args w R h => HC.out m 16 args w R h) (by omega) (w.heap.size + 1 + 1) (w.heap.size + 1) L Lt Bf n nt w.heap.size U T hn (by omega) (by omega) (by omega) (by omega) (by omega) (by omega) (by omega) (by omega) (by omega) (by omega)
    rfl rfl x h0 h1 (hT.hole (Hole.of_below (k := w.heap.size) hbel) lL lLt lBf (by omega) (by omega) (by omega)) (cell0 b3) (Joins.unfrozen_of_block b3 0) (cell0 b2)
    (fun y A => ∃ e, (A.cell? ⟨w.heap.size, 0, none⟩ = some (.int .u64 e) ∧ A.frozen? ⟨w.heap.size, 0, none⟩ = false) ∧ ((y = 0 ∧ e = endOf U n x) ∨ (y ≠ 0 ∧ endOf U n y = endOf U n x)) ∧ Below w.heap.size w A)
    (fun y A => (A.cell? ⟨w.heap.size, 0, none⟩ = some (.int .u64 y) ∧ A.frozen? ⟨w.heap.size, 0, none⟩ = false) ∧ endOf U n y = endOf U n x ∧ Below w.heap.size w A)
    (fun A => (A.cell? ⟨w.heap.size, 0, none⟩ = some (.int .u64 (endOf U n x)) ∧ A.frozen? ⟨w.heap.size, 0, none⟩ = false) ∧ Below w.heap.size w A)
    (fun _ => False)
    ?_ ?_ ?_ ?_ ?_ ?_ ?_ ?_
    (fun y => { tmps := #[.pointer (some ⟨L, 0, none⟩), .int .u64 x, undef, undef, .int .u64 0, .pointer (some ⟨w.heap.size, 0, none⟩), .int .u64 y, .pointer (some ⟨L, 0, none⟩), .int .u64 x, .func (.func 15) #[] #[.pointer (some ⟨w.heap.size + 1 + 1, 0, none⟩), .pointer (some ⟨w.heap.size + 1, 0, none⟩)], .int .u64 y, undef, undef], defers := [] }) ?assign ?body ?done ?stop
  · rintro y A B ⟨e, hA, hd, hb⟩ hh
    exact ⟨e, cellK hA hh, hd, hole hb hh⟩
  · rintro y A B ⟨hA, hd, hb⟩ hh
    exact ⟨cellK hA hh, hd, hole hb hh⟩
  · rintro A B ⟨hA, hb⟩ hh
    exact ⟨cellK hA hh, hole hb hh⟩
  · exact fun _ _ h _ => h
  · rintro y A hy1 hyn ⟨hA, hd, hb⟩
    refine ⟨y, hA, ?_, hb⟩
    by_cases hu : upOf U y = 0
    · exact .inl ⟨hu, by rw [← hd]; exact (endOf_top ⟨hy1, hyn⟩ hu).symm⟩
    · exact .inr ⟨hu, by rw [← hd]; exact (endOf_up ⟨hy1, hyn⟩ hu).symm⟩
  · rintro y A hyn ⟨hA, hd, hb⟩
    rw [← hd, endOf_out (by omega)]
    exact ⟨hA, hb⟩
  · rintro A ⟨e, hA, (⟨_, rfl⟩ | ⟨h, _⟩), hb⟩
    · exact ⟨hA, hb⟩
    · exact absurd rfl h
  · refine ⟨0, ⟨cell0 b1, Joins.unfrozen_of_block b1 0⟩, ?_, hbel⟩
    by_cases hx : x = 0
    · exact .inl ⟨hx, by rw [endOf_out (by omega)]; exact hx.symm⟩
    · exact .inr ⟨hx, rfl⟩
  case assign =>
    intro l y A K hK
    gi_wp2
    exact hK
  case body =>
    rintro l y A ⟨e, ⟨hc1, hf1⟩, hd, hb⟩ hy1 hy2 hTA hsA
    have hd' : endOf U n y = endOf U n x := by
      rcases hd with ⟨h, _⟩ | ⟨_, h⟩
      · omega
      · exact h
    have HX := hide (And.intro hb hd')
    clear hb hd hd' hTA cellK hole b1 b2 b3 hbel hT
    gi_wp2
    exact ⟨Hole.setCell _ _ _ _ _, ⟨World.cell?_setCell_same _ _ _ hc1, by rw [World.frozen?_setCell]; exact hf1⟩, HX.out.2, HX.out.1.setCell (p := ⟨w.heap.size, 0, none⟩) (Nat.le_refl _) _⟩
  case done =>
    rintro D A hD ⟨⟨hc1, hf1⟩, hb⟩ hK
    have HX := hide hb
    have HK := hide hK
    clear hb cellK hole b1 b2 b3 hbel hT hK
    gi_wp2
    refine ⟨by simp, .inl ⟨_, _, rfl, run_takeDeferred HK.out, ?_⟩⟩
    exact ⟨_, results_tmp rfl _ _ _, rfl, HX.out.trans ((Hole.putObj (w.heap.size + 5) _ _ _ (by omega)).below (Nat.le_refl _) (by omega))⟩
  case stop =>
    rintro D A _ h _
    exact h.elim
end Go.Proofs.Ybulkcmo
