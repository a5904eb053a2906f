import Derived.Test.YbulkcmoLine
namespace Go.Proofs.Ybulkcmo
open Go.ChangeShapes Go.WideShapes Go.ChangeAt Go.RowKit Go.Maps Go.Shelf
set_option linter.unusedVariables false

/-- How a round's body may be left. -/
def roundEnd (Bx : Nat) (I' Ix : World → Prop) (W : World) : Exit → Act → World → Prop
  | .normal, _, W' => Hole Bx W.heap.size W W' ∧ I' W'
  | .ret, _, W' => Hole Bx W.heap.size W W' ∧ Ix W'
  | .exit _, _, _ => False
  | .goto _, _, _ => False
  | .panic _, _, _ => False
  | .outgrown, _, _ => False

theorem range_line {F : Fence} {m : Nat} {g : Operand} {ps : Array Tmp} {assign body : Code} {Q : Exit → Act → World → Prop} {a : Act} {w : World}
    (hro : F.round = none) (h15 : F.fn 15) (h16 : F.fn 16) (hlink : ∀ m args w R, Calls Yba.prog 16 args w R → CallsIn F m Yba.prog 16 args w R) (hm : 3 ≤ m)
    (Bi Bl L Lt Bf n nt Bx : Nat) (U : Nat → Int) (T : Nat → Bool) (hn : n ≤ 1024) (nBx : Bx < w.heap.size) (dBl : Bl ≠ Bi) (dL : L ≠ Bi) (dLt : Lt ≠ Bi) (dBf : Bf ≠ Bi)
    (xBi : Bi ≠ Bx) (xBl : Bl ≠ Bx) (xL : L ≠ Bx) (xLt : Lt ≠ Bx) (xBf : Bf ≠ Bx)
    (hg : a.eval g = .func (.func 15) #[] #[.pointer (some ⟨Bi, 0, none⟩), .pointer (some ⟨Bl, 0, none⟩)]) (hps : ps.size = 1)
    (x : Int) (h0 : 0 ≤ x) (h1 : x < 18446744073709551616) (hT : Tied w L Lt Bf n (freshTo U nt T n))
    (hBi : w.cell? ⟨Bi, 0, none⟩ = some (.int .u64 x)) (hfz : w.frozen? ⟨Bi, 0, none⟩ = false) (hBl : w.cell? ⟨Bl, 0, none⟩ = some (.pointer (some ⟨L, 0, none⟩)))
    (I I' : Int → World → Prop) (Id Ix : World → Prop)
    (sI : ∀ y A B, I y A → Hole Bi w.heap.size A B → I y B) (sI' : ∀ y A B, I' y A → Hole Bi w.heap.size A B → I' y B) (sId : ∀ A B, Id A → Hole Bi w.heap.size A B → Id B) (sIx : ∀ A B, Ix A → Hole Bi w.heap.size A B → Ix B)
    (hup : ∀ (y : Int) W, 1 ≤ y → y ≤ n → I' y W → I (upOf U y) W) (hlost : ∀ (y : Int) W, (n : Int) < y → I' y W → Id W) (hend : ∀ W, I 0 W → Id W)
    (hI : I x w) (a₁ : Int → Act)
    (hassign : ∀ (l : Nat) (y : Int) (W : World) (K : Act → World → Prop), K (a₁ y) W →
      assign.wpIn (F.inRound l) (m - 1 - 1) Yba.prog (Exit.then K (fun _ _ _ => False)) { tmps := (ps.zip #[.int .u64 y]).foldl (fun t (p, v) => t.setIfInBounds p v) a.tmps, defers := [] } W)
    (hbody : ∀ (l : Nat) (y : Int) (W : World), I y W → 1 ≤ y → y < 18446744073709551616 → Tied W L Lt Bf n (freshTo U nt T n) → w.heap.size ≤ W.heap.size →
      body.wpIn (F.inRound l) (m - 1 - 1) Yba.prog (roundEnd Bx (I' y) Ix W) (a₁ y) W)
    (hdone : ∀ (D : Nat) (W : World), w.heap.size ≤ D → Id W → W.heap[D]? = some (.deferred (some [])) → Q .normal { a with defers := { target := .collected D, args := #[] } :: a.defers } W)
    (hstop : ∀ (D : Nat) (W : World), w.heap.size ≤ D → Ix W → W.heap[D]? = some (.deferred (some [])) → Code.ret.wpIn F m Yba.prog Q { a with defers := { target := .collected D, args := #[] } :: a.defers } W) :
    (Code.rangeFunc g ps assign body).wpIn F m Yba.prog Q a w := by
  have lBi : Bi < w.heap.size := World.block_lt_of_cell? w _ hBi
  have lBl : Bl < w.heap.size := World.block_lt_of_cell? w _ hBl
  refine wpIn_rangeFunc ?_
  intro fn hfn
  rw [hro]
  obtain ⟨rec, hrec⟩ : ∃ rec : LoopState → Option Code → Loop, rec = fun st pe => { state := st, pending := pe, fn, tmps := a.tmps, params := ps, assign, body, defers := w.heap.size } := ⟨_, rfl⟩
  obtain ⟨W1, hW1⟩ : ∃ W1, (w.alloc (.deferred (some []))).alloc (.loop (rec .ready none)) = W1 := ⟨_, rfl⟩
  have hL1 : W1.heap[w.heap.size + 1]? = some (.loop (rec .ready none)) := by
    rw [← hW1]
    show ((w.heap.push _).push _)[_]? = _
    rw [Array.getElem?_push, if_pos (by simp)]
  have hK1 : W1.heap[w.heap.size]? = some (.deferred (some [])) := by
    rw [← hW1]
    show ((w.heap.push _).push _)[_]? = _
    rw [Array.getElem?_push, if_neg (by simp), Array.getElem?_push, if_pos rfl]
  have hb1 : Below w.heap.size w W1 := by
    rw [← hW1]; exact ((Below.refl _ w).alloc (Nat.le_refl _) _).alloc (by simp) _
  refine ⟨w.heap.size + 1, [{ target := .collected w.heap.size, args := #[] }], W1, { target := .fn (.func 15) #[.pointer (some ⟨Bi, 0, none⟩), .pointer (some ⟨Bl, 0, none⟩)], args := #[.func (.yield (w.heap.size + 1)) #[] #[]] }, W1, 15,
    #[.func (.yield (w.heap.size + 1)) #[] #[]] ++ #[.pointer (some ⟨Bi, 0, none⟩), .pointer (some ⟨Bl, 0, none⟩)], W1, ?_, ?_, ?_, ?_, fun _ => by omega, ?_⟩
  · rw [← hW1, hrec]; exact run_enterLoop_outer _ _ _ _ _
  · simp only [resolve, hg]
    simp [go_sem]
  · intro f' hf'; simp [Target.leads] at hf'; subst hf'; exact h15
  · simp [invoke, go_sem]
  · refine (line1_in F (m - 1) h15 h16 hro hlink (by omega) (w.heap.size + 1) Bi Bl L Lt Bf n nt w.heap.size U T hn lBi lBl hT.ltL hT.ltT hT.m.lt dBl dL dLt dBf Bx xBi xBl xL xLt xBf
      (fun y W => I y W ∧ W.heap[w.heap.size + 1]? = some (.loop (rec .ready none)) ∧ W.heap[w.heap.size]? = some (.deferred (some [])))
      (fun y W => I' y W ∧ W.heap[w.heap.size + 1]? = some (.loop (rec .ready none)) ∧ W.heap[w.heap.size]? = some (.deferred (some [])))
      (fun W => Id W ∧ W.heap[w.heap.size + 1]? = some (.loop (rec .ready none)) ∧ W.heap[w.heap.size]? = some (.deferred (some [])))
      (fun W => Ix W ∧ W.heap[w.heap.size + 1]? = some (.loop (rec .done (some .ret))) ∧ W.heap[w.heap.size]? = some (.deferred (some [])))
      ?_ ?_ (fun y W h1 h2 h => ⟨hup y W h1 h2 h.1, h.2⟩) (fun y W h1 h => ⟨hlost y W h1 h.1, h.2⟩) (fun W h => ⟨hend W h.1, h.2⟩)
      x h0 h1 W1 hb1.size (hT.hole (Hole.of_below (k := Bi) hb1) hT.ltL hT.ltT hT.m.lt dL dLt dBf) ((hb1.cell (p := ⟨Bi, 0, none⟩) lBi).trans hBi) ((hb1.frozen (p := ⟨Bi, 0, none⟩) lBi).trans hfz) ((hb1.cell (p := ⟨Bl, 0, none⟩) lBl).trans hBl)
      ⟨sI x w W1 hI (Hole.of_below hb1), hL1, hK1⟩).mono ?_
    · rintro y A B ⟨hi, hl, hk⟩ hh
      have hlt : w.heap.size + 1 < A.heap.size := (Array.getElem?_eq_some_iff.1 hl).1
      exact ⟨sI' y A B hi (hh.mono (by omega)), (hh.block _ hlt (by omega)).trans hl, (hh.block _ (by omega) (by omega)).trans hk⟩
    · rintro y W ⟨hi, hl, hk⟩ hy1 hy2 hTW
      have hlt : w.heap.size + 1 < W.heap.size := (Array.getElem?_eq_some_iff.1 hl).1
      have hy := run_yield (P := Yba.prog) (args := #[.int .u64 y]) hl (by rw [hrec]; simp [hps])
      rw [hrec] at hy
      refine ⟨fn, _, assign, body, hy, roundIn_of_wpIn hfn (hassign _ y W _ ⟨_, run_beginRound hl (by rw [hrec]), ?_⟩)⟩
      have hl2 : (W.putObj (w.heap.size + 1) (.loop { rec .ready none with state := .busy })).heap[w.heap.size + 1]? = some (.loop { rec .ready none with state := .busy }) := World.putObj_heap_same hlt
      have hk2 : (W.putObj (w.heap.size + 1) (.loop { rec .ready none with state := .busy })).heap[w.heap.size]? = some (.deferred (some [])) := (World.putObj_heap_other (by omega)).trans hk
      have hw2 : ∀ k, Hole k w.heap.size W (W.putObj (w.heap.size + 1) (.loop { rec .ready none with state := .busy })) := fun k => Hole.putObj k _ _ _ (by omega)
      refine wpIn_mono (hbody _ y _ (sI y _ _ hi (hw2 Bi)) hy1 hy2 (hTW.hole (hw2 Bi) hT.ltL hT.ltT hT.m.lt dL dLt dBf) (by simp; omega)) ?_
      have fin : ∀ (jump : Option Code) (W3 : World), Hole Bx (W.putObj (w.heap.size + 1) (.loop { rec .ready none with state := .busy })).heap.size (W.putObj (w.heap.size + 1) (.loop { rec .ready none with state := .busy })) W3 →
          (Instr.endRound (w.heap.size + 1) jump).run Yba.prog W3 = .ok (.bool jump.isNone) (W3.putObj (w.heap.size + 1) (.loop (rec (if jump.isNone then .ready else .done) jump))) ∧
          W3.heap[w.heap.size + 1]? = some (.loop { rec .ready none with state := .busy }) ∧
          (W3.putObj (w.heap.size + 1) (.loop (rec (if jump.isNone then .ready else .done) jump))).heap[w.heap.size + 1]? = some (.loop (rec (if jump.isNone then .ready else .done) jump)) ∧
          (W3.putObj (w.heap.size + 1) (.loop (rec (if jump.isNone then .ready else .done) jump))).heap[w.heap.size]? = some (.deferred (some [])) := fun jump W3 hk3 => by
        have hl3 := (hk3.block (w.heap.size + 1) (by simp; omega) (by omega)).trans hl2
        have := run_endRound (P := Yba.prog) jump hl3
        rw [hrec] at this ⊢
        exact ⟨this, by rw [hrec] at hl3; exact hl3, World.putObj_heap_same (Array.getElem?_eq_some_iff.1 hl3).1, (World.putObj_heap_other (by omega)).trans ((hk3.block w.heap.size (by simp; omega) (by omega)).trans hk2)⟩
      rintro e a3 W3 hp
      cases e with
      | normal =>
        obtain ⟨hk3, hi3⟩ := hp
        obtain ⟨hr, hl3, hl4, hk4⟩ := fin none W3 hk3
        exact ⟨_, _, hr, .inl ⟨rfl, ⟨sI' y _ _ hi3 (Hole.putObj _ _ _ _ (by omega)), hl4, hk4⟩, ((hw2 Bx).trans (hk3.mono (by simp; omega))).trans (Hole.putObj _ _ _ _ (by omega))⟩⟩
      | ret =>
        obtain ⟨hk3, hi3⟩ := hp
        obtain ⟨hr, hl3, hl4, hk4⟩ := fin (some .ret) W3 hk3
        exact ⟨_, _, hr, .inr ⟨rfl, sIx _ _ hi3 (Hole.putObj _ _ _ _ (by omega)), hl4, hk4⟩⟩
      | exit id => exact hp.elim
      | goto t => exact hp.elim
      | panic ch => exact hp.elim
      | outgrown => exact hp.elim
    · rintro e W2 ⟨⟨v, rfl⟩, (⟨hi, hl, hk⟩ | ⟨hi, hl, hk⟩)⟩
      · exact ⟨none, _, by have := run_endLoop (P := Yba.prog) hl (by rw [hrec]; simp); rw [hrec] at this; exact this, hdone _ _ (Nat.le_refl _) (sId _ _ hi (Hole.putObj _ _ _ _ (by omega))) ((World.putObj_heap_other (by omega)).trans hk)⟩
      · exact ⟨some .ret, _, by have := run_endLoop (P := Yba.prog) hl (by rw [hrec]; simp); rw [hrec] at this; exact this, hstop _ _ (Nat.le_refl _) (sIx _ _ hi (Hole.putObj _ _ _ _ (by omega))) ((World.putObj_heap_other (by omega)).trans hk)⟩
end Go.Proofs.Ybulkcmo
